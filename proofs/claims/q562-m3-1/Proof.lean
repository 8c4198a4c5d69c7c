import JvmDerived
import JvmDerived.Pilot.@@N@@Statement
import JvmDerived.Pilot.@@N@@Code
set_option linter.unusedVariables false
set_option linter.unusedSimpArgs false
namespace Jvm.RoadKit
theorem sta_keep {Z : State} {h h' : Heap} {C n d : String} {w : Value} (F : Sta Z h C n d w) (K : Keep h h' []) : Sta Z h' C n d w := by
  obtain ⟨cf, i, k, f, st, cell, h1, h2, h3, h4, h5, r⟩ := F
  exact ⟨cf, i, k, f, st, cell, h1, h2, h3, h4, K.2.1 _ _ h5 nin0, r⟩
def FrameWide (s : State) (o : Outcome) (t : State) (L : List Loc) (k n : Nat) : Prop := (∃ v, o = .returned v) ∧ s.Warmed39 t.vm ∧ s.Booked t.vm t.heap.size ∧ s.sameButNew ({ t with vm := s.vm } : State) L k n
theorem heq_of {T : State} {h : Heap} {a : Addr} {c : Cell} (e : T.heap = h) (q : h[a]? = some c) : T.heap[a]? = some c := by rw [e]; exact q
open Sem ClassFile Op Lib Jvm.Stand Jvm.Free Jvm.LawKit
section New
variable {p : Program} {l : Launch} {e : Env} {R : Room} {s : State} {m : MethodId} {args : Array Value} {below : List Frame} {meth : Method} {c : Code} {T : State} {locs : List Loc} {cells slots : Nat}
theorem retI (X : Stand p l e R s m args below meth c T locs cells slots) (hx : p.tables.exec = Jvm.exec) {pc : Nat} {Ls : Array Slot} {z : Int32} {rest : List Value} (hret : meth.sig.returnType = some .int) (hd : decode c.code pc = .ok (.ireturn, 1)) {fs : List Frame}
    (hl : ∀ (f : JFrame) (acts : List Action), f.method = m → f.locked = none → f.entered = [] → (doReturn e (T.setTop f) acts (some (.int z))).1 = T.setFrames fs) : Steps p.tables e below (T.setTop (mkF m pc Ls (.int z :: rest))) (T.setFrames fs) := by
  have hm' : T.vm.method? m = some meth := X.method'
  have hn : narrow .int (.int z) = .int z := rfl
  show Steps p.tables e below (T.setTop { method := m, pc := pc, locals := Ls, stack := _ :: rest, locked := none }) _
  jvm_step X.here [X.here.top, hx, hd, hm', hret, hn]
  first | (intro acts; rw [hl _ acts rfl rfl rfl]) | rw [hl _ _ rfl rfl rfl]
  exact Steps.refl _
end New
end Jvm.RoadKit
namespace Jvm.Pilot.@@N@@
open Jvm Jvm.ClassFile Sem Op Lib Jvm.Free Jvm.Stand Jvm.LawKit Jvm.RoadKit Bundle Jvm.Pilot.@@N@@.Jvm.D
def own_first (ta tb : Addr) : Nat → Value
  | 0 => Value.null
  | 1 => Value.ref ta
  | 2 => Value.ref tb
  | 3 => Value.ref ta
  | 4 => Value.ref tb
  | _ => .null
def own_last (ta tb : Addr) : Nat → Value
  | 0 => Value.null
  | 1 => Value.ref ta
  | 2 => Value.ref tb
  | 3 => Value.ref tb
  | 4 => Value.ref ta
  | _ => .null
def own_tab (ta tb : Addr) : Nat → Value
  | 0 => Value.null
  | 1 => Value.null
  | 2 => Value.null
  | 3 => Value.null
  | 4 => Value.ref tb
  | _ => .null
def own_taa (ta tb : Addr) : Nat → Value
  | 0 => Value.null
  | 1 => Value.null
  | 2 => Value.null
  | 3 => Value.ref tb
  | 4 => Value.null
  | _ => .null
def own_tbb (ta tb : Addr) : Nat → Value
  | 0 => Value.null
  | 1 => Value.null
  | 2 => Value.null
  | 3 => Value.ref ta
  | 4 => Value.null
  | _ => .null
def own_tba (ta tb : Addr) : Nat → Value
  | 0 => Value.null
  | 1 => Value.null
  | 2 => Value.null
  | 3 => Value.null
  | 4 => Value.ref ta
  | _ => .null
def own_ina : Nat → Value
  | 0 => Value.int (0 : Int32)
  | 1 => Value.int (1 : Int32)
  | 2 => Value.int (0 : Int32)
  | 3 => Value.int (1 : Int32)
  | 4 => Value.int (1 : Int32)
  | _ => Value.int (0 : Int32)
def own_inb_ : Nat → Value
  | 0 => Value.int (0 : Int32)
  | 1 => Value.int (0 : Int32)
  | 2 => Value.int (1 : Int32)
  | 3 => Value.int (1 : Int32)
  | 4 => Value.int (1 : Int32)
  | _ => Value.int (0 : Int32)
def own_qs (Z : State) (h : Heap) (q ta tb ra ib : Addr) (ka kb : ClassId) (stn : Nat) : Prop := stn < 5 ∧ Exa Z h q "com/example/evenkeel/evenkeel/TaskQueue" ∧ Exa Z h ta "com/example/evenkeel/evenkeel/QueuedTasks" ∧ Exa Z h tb "com/example/evenkeel/evenkeel/QueuedTasks" ∧ Arv Z h ra ka (.object "com/example/evenkeel/evenkeel/QueuedTasks") (2 : Int32) [.ref ta, .ref tb] .null ∧ Arv Z h ib kb .boolean (2 : Int32) [own_ina stn, own_inb_ stn] (.int (0 : Int32)) ∧ Fld Z h q "com/example/evenkeel/evenkeel/TaskQueue" "first" "Lcom/example/evenkeel/evenkeel/QueuedTasks;" (own_first ta tb stn) ∧ Fld Z h q "com/example/evenkeel/evenkeel/TaskQueue" "last" "Lcom/example/evenkeel/evenkeel/QueuedTasks;" (own_last ta tb stn) ∧ Fld Z h ta "com/example/evenkeel/evenkeel/QueuedTasks" "before" "Lcom/example/evenkeel/evenkeel/QueuedTasks;" (own_tab ta tb stn) ∧ Fld Z h ta "com/example/evenkeel/evenkeel/QueuedTasks" "after" "Lcom/example/evenkeel/evenkeel/QueuedTasks;" (own_taa ta tb stn) ∧ Fld Z h tb "com/example/evenkeel/evenkeel/QueuedTasks" "before" "Lcom/example/evenkeel/evenkeel/QueuedTasks;" (own_tbb ta tb stn) ∧ Fld Z h tb "com/example/evenkeel/evenkeel/QueuedTasks" "after" "Lcom/example/evenkeel/evenkeel/QueuedTasks;" (own_tba ta tb stn)
def own_ns (q ta tb ra ib : Addr) : Prop := q ≠ ta ∧ q ≠ tb ∧ ta ≠ tb ∧ ra ≠ q ∧ ra ≠ ta ∧ ra ≠ tb ∧ ib ≠ q ∧ ib ≠ ta ∧ ib ≠ tb ∧ ra ≠ ib
theorem own_bit (k : Int32) : (k &&& (1 : Int32)) = (0 : Int32) ∨ (k &&& (1 : Int32)) = (1 : Int32) := by
  have h : (k &&& (1 : Int32)).toBitVec = k.toBitVec &&& 1#32 := rfl
  have hm : (k.toBitVec &&& 1#32).toNat ≤ 1 := by rw [BitVec.toNat_and]; exact Nat.and_le_right
  rw [← h] at hm
  have hc : (k &&& (1 : Int32)).toBitVec.toNat = 0 ∨ (k &&& (1 : Int32)).toBitVec.toNat = 1 := by omega
  rcases hc with hc | hc
  · exact Or.inl (Int32.toBitVec_inj.1 (BitVec.eq_of_toNat_eq hc))
  · exact Or.inr (Int32.toBitVec_inj.1 (BitVec.eq_of_toNat_eq hc))
theorem d1_0 : decode prog_20_method_1_code 0 = .ok (.aload_n 0, 1) := by decide +kernel
theorem d1_1 : decode prog_20_method_1_code 1 = .ok (.invokespecial 1, 3) := by decide +kernel
theorem d1_4 : decode prog_20_method_1_code 4 = .ok (.return_, 1) := by decide +kernel
theorem pn_1 : plainName "com/example/evenkeel/evenkeel/TaskQueue" = true := by first | (simp [plainName, overriddenIn]; done) | decide +kernel
theorem ef_1 (m : MethodId) (x0 : Addr) : entryFrame m #[(.ref x0)] 1 = mkF m 0 #[.val (.ref x0)] [] := by first | (simp [entryFrame, mkF, argsToLocals, Value.category]; done) | rfl
def Q1 (Z : State) (ob : Addr) (h0 : Heap) (n0 : Nat) (v : Option Value) (h : Heap) (L : List Loc) : Prop := v = none ∧ Fr n0 L ∧ h = h0
set_option maxRecDepth 65536 in
set_option maxHeartbeats 40000000 in
theorem rm1 (l : Launch) (Z : State) (a0 : Array Value) (hw : ∀ d ∈ tables_1, d.before a0 Z = true) (ws : List Jvm.Cond) (ob : Addr) (h0 : Heap) (n0 : Nat) (Z0 : n0 ≤ h0.size)  :
    MetFree l (⟨"com/example/evenkeel/evenkeel/TaskQueue", "<init>", "()V"⟩ : MethodName) (head1 (Jvm.Cond.code (⟨"com/example/evenkeel/evenkeel/TaskQueue", "<init>", "()V"⟩ : MethodName) prog_20_method_1_code 1 none :: ws) ({ frames := 1, cells := 0, slots := 0, locals := 12 } : Room)) (fun a U => a = #[(.ref ob)] ∧ Z.Warmed39 U.vm ∧ U.heap = h0) (fun _ _ _ _ _ => True) (fun _ U o U' => ∃ v L, o = .returned v ∧ Q1 Z ob h0 n0 v U'.heap L ∧ FrameEnd U o U' L ({ frames := 1, cells := 0, slots := 0, locals := 12 } : Room).cells ({ frames := 1, cells := 0, slots := 0, locals := 12 } : Room).slots) := by
  refine MetFree.of_bodySF (plainFor_of_name pn_1) hisR ?_
  intro p e s m args below meth c s₁ Bd hml0 hP hK
  obtain ⟨rfl, hZ, hh⟩ := hP
  have hx := Bd.exec
  have hby := Bd.bytes
  have hml : c.maxLocals = 1 := hml0
  have hown : s.vm.findClass "com/example/evenkeel/evenkeel/TaskQueue" = some m.cls := findClass_of_methodNamed Bd.named
  have hnm := (name_of_methodNamed Bd.named Bd.method).1
  have X0 : Stand p l e ({ frames := 1, cells := 0, slots := 0, locals := 12 } : Room) s m #[(.ref ob)] below meth c s₁ [] 0 0 := Stand.of_body Bd
  have e0 : s₁.heap = h0 := by rw [← hh, Bd.state]; rfl
  have N0 := Fr.nil n0
  have K0 : Keep h0 h0 [] := Keep.refl h0 _
  have pre0 : ∀ tq, Steps p.tables e below (s₁.setTop (mkF m 0 #[.val (.ref ob)] [])) tq → Steps p.tables e below (s₁.setTop (entryFrame m #[(.ref ob)] 1)) tq := fun tq kq => castTop (ef_1 m ob) kq
  obtain ⟨T1, X1, e1, st1⟩ := initO X0 hx hZ hown (hw _ (List.mem_of_getElem? (i := 6) rfl)) (hw _ (List.mem_of_getElem? (i := 7) rfl)) (hw _ (List.mem_of_getElem? (i := 8) rfl)) e0 (g := (mkF m 1 #[.val (.ref ob)] [(.ref ob)])) rfl (by rw [hml]; rfl) rfl (hb hby d1_1) (by decide) (W := 0) (by show 2 * 0 + _ ≤ _; exact Nat.le_of_eq rfl) (by decide)
  obtain ⟨fs, hr, hrun, hended, hW, hsame⟩ := X1.leave (v := none) (fun _ => rfl)
  refine ⟨_, _, pre0 _ ?_, hrun, hended, _, _, rfl, ?_, ⟨_, rfl⟩, hW, hsame.mono (by decide) (by decide)⟩
  · skip
    show Steps p.tables e below (s₁.setTop (mkF m 0 #[.val (.ref ob)] [])) _
    refine XS.aloadN X0.here hx rfl (hb hby d1_0) rfl rfl ?_
    show Steps p.tables e below (s₁.setTop (mkF m 1 #[.val (.ref ob)] [(.ref ob)])) _
    refine st1 _ ?_
    show Steps p.tables e below (T1.setTop (mkF m 4 #[.val (.ref ob)] [])) _
    exact X1.returnOut hx Bd.returns (hb hby d1_4) hr
  · show Q1 Z ob h0 n0 _ T1.heap _
    rw [e1]
    exact ⟨rfl, N0, rfl⟩
theorem d3_0 : decode prog_17_method_1_code 0 = .ok (.aload_n 0, 1) := by decide +kernel
theorem d3_1 : decode prog_17_method_1_code 1 = .ok (.invokespecial 1, 3) := by decide +kernel
theorem d3_4 : decode prog_17_method_1_code 4 = .ok (.aload_n 0, 1) := by decide +kernel
theorem d3_5 : decode prog_17_method_1_code 5 = .ok (.aload_n 1, 1) := by decide +kernel
theorem d3_6 : decode prog_17_method_1_code 6 = .ok (.putfield 7, 3) := by decide +kernel
theorem d3_9 : decode prog_17_method_1_code 9 = .ok (.aload_n 0, 1) := by decide +kernel
theorem d3_10 : decode prog_17_method_1_code 10 = .ok (.aload_n 2, 1) := by decide +kernel
theorem d3_11 : decode prog_17_method_1_code 11 = .ok (.putfield 13, 3) := by decide +kernel
theorem d3_14 : decode prog_17_method_1_code 14 = .ok (.aload_n 0, 1) := by decide +kernel
theorem d3_15 : decode prog_17_method_1_code 15 = .ok (.lload_n 3, 1) := by decide +kernel
theorem d3_16 : decode prog_17_method_1_code 16 = .ok (.putfield 17, 3) := by decide +kernel
theorem d3_19 : decode prog_17_method_1_code 19 = .ok (.aload_n 0, 1) := by decide +kernel
theorem d3_20 : decode prog_17_method_1_code 20 = .ok (.lload_n 3, 1) := by decide +kernel
theorem d3_21 : decode prog_17_method_1_code 21 = .ok (.putfield 21, 3) := by decide +kernel
theorem d3_24 : decode prog_17_method_1_code 24 = .ok (.aload_n 0, 1) := by decide +kernel
theorem d3_25 : decode prog_17_method_1_code 25 = .ok (.lload 5, 2) := by decide +kernel
theorem d3_27 : decode prog_17_method_1_code 27 = .ok (.putfield 24, 3) := by decide +kernel
theorem d3_30 : decode prog_17_method_1_code 30 = .ok (.aload_n 0, 1) := by decide +kernel
theorem d3_31 : decode prog_17_method_1_code 31 = .ok (.aload 7, 2) := by decide +kernel
theorem d3_33 : decode prog_17_method_1_code 33 = .ok (.putfield 27, 3) := by decide +kernel
theorem d3_36 : decode prog_17_method_1_code 36 = .ok (.return_, 1) := by decide +kernel
theorem pn_3 : plainName "com/example/evenkeel/evenkeel/QueuedTasks" = true := by first | (simp [plainName, overriddenIn]; done) | decide +kernel
theorem ef_3 (m : MethodId) (x0 : Addr) (x3 : Int64) (x4 : Int64) : entryFrame m #[(.ref x0), .null, .null, (.long x3), (.long x4), .null] 8 = mkF m 0 #[.val (.ref x0), .val .null, .val .null, .val (.long x3), .second, .val (.long x4), .second, .val .null] [] := by first | (simp [entryFrame, mkF, argsToLocals, Value.category]; done) | rfl
def Q3 (Z : State) (ob : Addr) (z1 : Int64) (z2 : Int64) (h0 : Heap) (n0 : Nat) (v : Option Value) (h : Heap) (L : List Loc) : Prop := v = none ∧ Fr n0 L ∧ Keep h0 h [ob] ∧ Exa Z h ob "com/example/evenkeel/evenkeel/QueuedTasks" ∧ Fld Z h ob "com/example/evenkeel/evenkeel/QueuedTasks" "before" "Lcom/example/evenkeel/evenkeel/QueuedTasks;" .null ∧ Fld Z h ob "com/example/evenkeel/evenkeel/QueuedTasks" "after" "Lcom/example/evenkeel/evenkeel/QueuedTasks;" .null
set_option maxRecDepth 65536 in
set_option maxHeartbeats 40000000 in
theorem rm3 (l : Launch) (Z : State) (a0 : Array Value) (hw : ∀ d ∈ tables_1, d.before a0 Z = true) (ws : List Jvm.Cond) (ob : Addr) (z1 : Int64) (z2 : Int64) (h0 : Heap) (n0 : Nat) (Z0 : n0 ≤ h0.size) (I0 : Fld Z h0 ob "com/example/evenkeel/evenkeel/QueuedTasks" "tenant" "Lcom/example/evenkeel/evenkeel/TenantAllocation;" .null) (I1 : Fld Z h0 ob "com/example/evenkeel/evenkeel/QueuedTasks" "demand" "[J" .null) (I2 : Fld Z h0 ob "com/example/evenkeel/evenkeel/QueuedTasks" "count" "J" (.long (0 : Int64))) (I3 : Fld Z h0 ob "com/example/evenkeel/evenkeel/QueuedTasks" "left" "J" (.long (0 : Int64))) (I4 : Fld Z h0 ob "com/example/evenkeel/evenkeel/QueuedTasks" "submission" "J" (.long (0 : Int64))) (I5 : Fld Z h0 ob "com/example/evenkeel/evenkeel/QueuedTasks" "stopped" "Lcom/example/evenkeel/evenkeel/Decision;" .null) (I6 : Fld Z h0 ob "com/example/evenkeel/evenkeel/QueuedTasks" "before" "Lcom/example/evenkeel/evenkeel/QueuedTasks;" .null) (I7 : Fld Z h0 ob "com/example/evenkeel/evenkeel/QueuedTasks" "after" "Lcom/example/evenkeel/evenkeel/QueuedTasks;" .null) (I8 : Exa Z h0 ob "com/example/evenkeel/evenkeel/QueuedTasks") (g_ob : n0 ≤ ob) :
    MetFree l (⟨"com/example/evenkeel/evenkeel/QueuedTasks", "<init>", "(Lcom/example/evenkeel/evenkeel/TenantAllocation;[JJJLcom/example/evenkeel/evenkeel/Decision;)V"⟩ : MethodName) (head1 (Jvm.Cond.code (⟨"com/example/evenkeel/evenkeel/QueuedTasks", "<init>", "(Lcom/example/evenkeel/evenkeel/TenantAllocation;[JJJLcom/example/evenkeel/evenkeel/Decision;)V"⟩ : MethodName) prog_17_method_1_code 8 none :: ws) ({ frames := 1, cells := 0, slots := 0, locals := 12 } : Room)) (fun a U => a = #[(.ref ob), .null, .null, (.long z1), (.long z2), .null] ∧ Z.Warmed39 U.vm ∧ U.heap = h0) (fun _ _ _ _ _ => True) (fun _ U o U' => ∃ v L, o = .returned v ∧ Q3 Z ob z1 z2 h0 n0 v U'.heap L ∧ FrameEnd U o U' L ({ frames := 1, cells := 0, slots := 0, locals := 12 } : Room).cells ({ frames := 1, cells := 0, slots := 0, locals := 12 } : Room).slots) := by
  refine MetFree.of_bodySF (plainFor_of_name pn_3) hisR ?_
  intro p e s m args below meth c s₁ Bd hml0 hP hK
  obtain ⟨rfl, hZ, hh⟩ := hP
  have hx := Bd.exec
  have hby := Bd.bytes
  have hml : c.maxLocals = 8 := hml0
  have hown : s.vm.findClass "com/example/evenkeel/evenkeel/QueuedTasks" = some m.cls := findClass_of_methodNamed Bd.named
  have hnm := (name_of_methodNamed Bd.named Bd.method).1
  have X0 : Stand p l e ({ frames := 1, cells := 0, slots := 0, locals := 12 } : Room) s m #[(.ref ob), .null, .null, (.long z1), (.long z2), .null] below meth c s₁ [] 0 0 := Stand.of_body Bd
  have e0 : s₁.heap = h0 := by rw [← hh, Bd.state]; rfl
  have N0 := Fr.nil n0
  have K0 : Keep h0 h0 [ob] := Keep.refl h0 _
  have pre0 : ∀ tq, Steps p.tables e below (s₁.setTop (mkF m 0 #[.val (.ref ob), .val .null, .val .null, .val (.long z1), .second, .val (.long z2), .second, .val .null] [])) tq → Steps p.tables e below (s₁.setTop (entryFrame m #[(.ref ob), .null, .null, (.long z1), (.long z2), .null] 8)) tq := fun tq kq => castTop (ef_3 m ob z1 z2) kq
  obtain ⟨T1, X1, e1, st1⟩ := initO X0 hx hZ hown (hw _ (List.mem_of_getElem? (i := 16) rfl)) (hw _ (List.mem_of_getElem? (i := 7) rfl)) (hw _ (List.mem_of_getElem? (i := 8) rfl)) e0 (g := (mkF m 1 #[.val (.ref ob), .val .null, .val .null, .val (.long z1), .second, .val (.long z2), .second, .val .null] [(.ref ob)])) rfl (by rw [hml]; rfl) rfl (hb hby d3_1) (by decide) (W := 0) (by show 2 * 0 + _ ≤ _; exact Nat.le_of_eq rfl) (by decide)
  obtain ⟨T2, hX2, X2, e2, W2, st2⟩ := putF X1 hx hZ hown (host := "") (Or.inl (hw _ (List.mem_of_getElem? (i := 17) rfl))) Via.refl e1 I0 I8 (Or.inr ⟨(hw _ (List.mem_of_getElem? (i := 18) rfl)), rfl, hnm⟩) (hw _ (List.mem_of_getElem? (i := 11) rfl)) (ty := (.object "com/example/evenkeel/evenkeel/TenantAllocation")) (by decide) rfl rfl (g := (mkF m 6 #[.val (.ref ob), .val .null, .val .null, .val (.long z1), .second, .val (.long z2), .second, .val .null] [.null, (.ref ob)])) rfl rfl (hb hby d3_6)
  have N2 := Fr.snoc X2 N0 g_ob
  have F3 : Fld Z hX2 ob "com/example/evenkeel/evenkeel/QueuedTasks" "tenant" "Lcom/example/evenkeel/evenkeel/TenantAllocation;" .null := I0.same W2
  have F4 : Fld Z hX2 ob "com/example/evenkeel/evenkeel/QueuedTasks" "demand" "[J" .null := I1.other W2 (Or.inr (slot_ne (Or.inr (hw _ (List.mem_of_getElem? (i := 20) rfl))) (Or.inr (hw _ (List.mem_of_getElem? (i := 18) rfl))) (by decide) (t := (.array .long)) (t' := (.object "com/example/evenkeel/evenkeel/TenantAllocation")) (by decide) (by decide)))
  have F5 : Fld Z hX2 ob "com/example/evenkeel/evenkeel/QueuedTasks" "count" "J" (.long (0 : Int64)) := I2.other W2 (Or.inr (slot_ne (Or.inr (hw _ (List.mem_of_getElem? (i := 22) rfl))) (Or.inr (hw _ (List.mem_of_getElem? (i := 18) rfl))) (by decide) (t := .long) (t' := (.object "com/example/evenkeel/evenkeel/TenantAllocation")) (by decide) (by decide)))
  have F6 : Fld Z hX2 ob "com/example/evenkeel/evenkeel/QueuedTasks" "left" "J" (.long (0 : Int64)) := I3.other W2 (Or.inr (slot_ne (Or.inl (hw _ (List.mem_of_getElem? (i := 24) rfl))) (Or.inr (hw _ (List.mem_of_getElem? (i := 18) rfl))) (by decide) (t := .long) (t' := (.object "com/example/evenkeel/evenkeel/TenantAllocation")) (by decide) (by decide)))
  have F7 : Fld Z hX2 ob "com/example/evenkeel/evenkeel/QueuedTasks" "submission" "J" (.long (0 : Int64)) := I4.other W2 (Or.inr (slot_ne (Or.inr (hw _ (List.mem_of_getElem? (i := 26) rfl))) (Or.inr (hw _ (List.mem_of_getElem? (i := 18) rfl))) (by decide) (t := .long) (t' := (.object "com/example/evenkeel/evenkeel/TenantAllocation")) (by decide) (by decide)))
  have F8 : Fld Z hX2 ob "com/example/evenkeel/evenkeel/QueuedTasks" "stopped" "Lcom/example/evenkeel/evenkeel/Decision;" .null := I5.other W2 (Or.inr (slot_ne (Or.inr (hw _ (List.mem_of_getElem? (i := 28) rfl))) (Or.inr (hw _ (List.mem_of_getElem? (i := 18) rfl))) (by decide) (t := (.object "com/example/evenkeel/evenkeel/Decision")) (t' := (.object "com/example/evenkeel/evenkeel/TenantAllocation")) (by decide) (by decide)))
  have F9 : Fld Z hX2 ob "com/example/evenkeel/evenkeel/QueuedTasks" "before" "Lcom/example/evenkeel/evenkeel/QueuedTasks;" .null := I6.other W2 (Or.inr (slot_ne (Or.inl (hw _ (List.mem_of_getElem? (i := 57) rfl))) (Or.inr (hw _ (List.mem_of_getElem? (i := 18) rfl))) (by decide) (t := (.object "com/example/evenkeel/evenkeel/QueuedTasks")) (t' := (.object "com/example/evenkeel/evenkeel/TenantAllocation")) (by decide) (by decide)))
  have F10 : Fld Z hX2 ob "com/example/evenkeel/evenkeel/QueuedTasks" "after" "Lcom/example/evenkeel/evenkeel/QueuedTasks;" .null := I7.other W2 (Or.inr (slot_ne (Or.inl (hw _ (List.mem_of_getElem? (i := 48) rfl))) (Or.inr (hw _ (List.mem_of_getElem? (i := 18) rfl))) (by decide) (t := (.object "com/example/evenkeel/evenkeel/QueuedTasks")) (t' := (.object "com/example/evenkeel/evenkeel/TenantAllocation")) (by decide) (by decide)))
  have F11 : Exa Z hX2 ob "com/example/evenkeel/evenkeel/QueuedTasks" := I8.wr W2
  have Z12 : n0 ≤ hX2.size := Nat.le_trans Z0 (Keep.of_wr W2).1
  have K13 : Keep h0 hX2 [ob] := K0.wr W2 (Or.inl (List.mem_of_getElem? (i := 0) rfl))
  obtain ⟨T14, hX14, X14, e14, W14, st14⟩ := putF X2 hx hZ hown (host := "") (Or.inl (hw _ (List.mem_of_getElem? (i := 19) rfl))) Via.refl e2 F4 F11 (Or.inr ⟨(hw _ (List.mem_of_getElem? (i := 20) rfl)), rfl, hnm⟩) (hw _ (List.mem_of_getElem? (i := 11) rfl)) (ty := (.array .long)) (by decide) rfl rfl (g := (mkF m 11 #[.val (.ref ob), .val .null, .val .null, .val (.long z1), .second, .val (.long z2), .second, .val .null] [.null, (.ref ob)])) rfl rfl (hb hby d3_11)
  have N14 := Fr.snoc X14 N2 g_ob
  have F15 : Fld Z hX14 ob "com/example/evenkeel/evenkeel/QueuedTasks" "demand" "[J" .null := F4.same W14
  have F16 : Fld Z hX14 ob "com/example/evenkeel/evenkeel/QueuedTasks" "count" "J" (.long (0 : Int64)) := F5.other W14 (Or.inr (slot_ne (Or.inr (hw _ (List.mem_of_getElem? (i := 22) rfl))) (Or.inr (hw _ (List.mem_of_getElem? (i := 20) rfl))) (by decide) (t := .long) (t' := (.array .long)) (by decide) (by decide)))
  have F17 : Fld Z hX14 ob "com/example/evenkeel/evenkeel/QueuedTasks" "left" "J" (.long (0 : Int64)) := F6.other W14 (Or.inr (slot_ne (Or.inl (hw _ (List.mem_of_getElem? (i := 24) rfl))) (Or.inr (hw _ (List.mem_of_getElem? (i := 20) rfl))) (by decide) (t := .long) (t' := (.array .long)) (by decide) (by decide)))
  have F18 : Fld Z hX14 ob "com/example/evenkeel/evenkeel/QueuedTasks" "submission" "J" (.long (0 : Int64)) := F7.other W14 (Or.inr (slot_ne (Or.inr (hw _ (List.mem_of_getElem? (i := 26) rfl))) (Or.inr (hw _ (List.mem_of_getElem? (i := 20) rfl))) (by decide) (t := .long) (t' := (.array .long)) (by decide) (by decide)))
  have F19 : Fld Z hX14 ob "com/example/evenkeel/evenkeel/QueuedTasks" "stopped" "Lcom/example/evenkeel/evenkeel/Decision;" .null := F8.other W14 (Or.inr (slot_ne (Or.inr (hw _ (List.mem_of_getElem? (i := 28) rfl))) (Or.inr (hw _ (List.mem_of_getElem? (i := 20) rfl))) (by decide) (t := (.object "com/example/evenkeel/evenkeel/Decision")) (t' := (.array .long)) (by decide) (by decide)))
  have F20 : Fld Z hX14 ob "com/example/evenkeel/evenkeel/QueuedTasks" "before" "Lcom/example/evenkeel/evenkeel/QueuedTasks;" .null := F9.other W14 (Or.inr (slot_ne (Or.inl (hw _ (List.mem_of_getElem? (i := 57) rfl))) (Or.inr (hw _ (List.mem_of_getElem? (i := 20) rfl))) (by decide) (t := (.object "com/example/evenkeel/evenkeel/QueuedTasks")) (t' := (.array .long)) (by decide) (by decide)))
  have F21 : Fld Z hX14 ob "com/example/evenkeel/evenkeel/QueuedTasks" "after" "Lcom/example/evenkeel/evenkeel/QueuedTasks;" .null := F10.other W14 (Or.inr (slot_ne (Or.inl (hw _ (List.mem_of_getElem? (i := 48) rfl))) (Or.inr (hw _ (List.mem_of_getElem? (i := 20) rfl))) (by decide) (t := (.object "com/example/evenkeel/evenkeel/QueuedTasks")) (t' := (.array .long)) (by decide) (by decide)))
  have F22 : Exa Z hX14 ob "com/example/evenkeel/evenkeel/QueuedTasks" := F11.wr W14
  have F23 : Fld Z hX14 ob "com/example/evenkeel/evenkeel/QueuedTasks" "tenant" "Lcom/example/evenkeel/evenkeel/TenantAllocation;" .null := F3.other W14 (Or.inr (slot_ne (Or.inr (hw _ (List.mem_of_getElem? (i := 18) rfl))) (Or.inr (hw _ (List.mem_of_getElem? (i := 20) rfl))) (by decide) (t := (.object "com/example/evenkeel/evenkeel/TenantAllocation")) (t' := (.array .long)) (by decide) (by decide)))
  have Z24 : n0 ≤ hX14.size := Nat.le_trans Z12 (Keep.of_wr W14).1
  have K25 : Keep h0 hX14 [ob] := K13.wr W14 (Or.inl (List.mem_of_getElem? (i := 0) rfl))
  obtain ⟨T26, hX26, X26, e26, W26, st26⟩ := putF X14 hx hZ hown (host := "") (Or.inl (hw _ (List.mem_of_getElem? (i := 21) rfl))) Via.refl e14 F16 F22 (Or.inr ⟨(hw _ (List.mem_of_getElem? (i := 22) rfl)), rfl, hnm⟩) (hw _ (List.mem_of_getElem? (i := 11) rfl)) (ty := .long) (by decide) rfl rfl (g := (mkF m 16 #[.val (.ref ob), .val .null, .val .null, .val (.long z1), .second, .val (.long z2), .second, .val .null] [(.long z1), (.ref ob)])) rfl rfl (hb hby d3_16)
  have N26 := Fr.snoc X26 N14 g_ob
  have F27 : Fld Z hX26 ob "com/example/evenkeel/evenkeel/QueuedTasks" "count" "J" (.long z1) := F16.same W26
  have F28 : Fld Z hX26 ob "com/example/evenkeel/evenkeel/QueuedTasks" "left" "J" (.long (0 : Int64)) := F17.other W26 (Or.inr (slot_ne (Or.inl (hw _ (List.mem_of_getElem? (i := 24) rfl))) (Or.inr (hw _ (List.mem_of_getElem? (i := 22) rfl))) (by decide) (t := .long) (t' := .long) (by decide) (by decide)))
  have F29 : Fld Z hX26 ob "com/example/evenkeel/evenkeel/QueuedTasks" "submission" "J" (.long (0 : Int64)) := F18.other W26 (Or.inr (slot_ne (Or.inr (hw _ (List.mem_of_getElem? (i := 26) rfl))) (Or.inr (hw _ (List.mem_of_getElem? (i := 22) rfl))) (by decide) (t := .long) (t' := .long) (by decide) (by decide)))
  have F30 : Fld Z hX26 ob "com/example/evenkeel/evenkeel/QueuedTasks" "stopped" "Lcom/example/evenkeel/evenkeel/Decision;" .null := F19.other W26 (Or.inr (slot_ne (Or.inr (hw _ (List.mem_of_getElem? (i := 28) rfl))) (Or.inr (hw _ (List.mem_of_getElem? (i := 22) rfl))) (by decide) (t := (.object "com/example/evenkeel/evenkeel/Decision")) (t' := .long) (by decide) (by decide)))
  have F31 : Fld Z hX26 ob "com/example/evenkeel/evenkeel/QueuedTasks" "before" "Lcom/example/evenkeel/evenkeel/QueuedTasks;" .null := F20.other W26 (Or.inr (slot_ne (Or.inl (hw _ (List.mem_of_getElem? (i := 57) rfl))) (Or.inr (hw _ (List.mem_of_getElem? (i := 22) rfl))) (by decide) (t := (.object "com/example/evenkeel/evenkeel/QueuedTasks")) (t' := .long) (by decide) (by decide)))
  have F32 : Fld Z hX26 ob "com/example/evenkeel/evenkeel/QueuedTasks" "after" "Lcom/example/evenkeel/evenkeel/QueuedTasks;" .null := F21.other W26 (Or.inr (slot_ne (Or.inl (hw _ (List.mem_of_getElem? (i := 48) rfl))) (Or.inr (hw _ (List.mem_of_getElem? (i := 22) rfl))) (by decide) (t := (.object "com/example/evenkeel/evenkeel/QueuedTasks")) (t' := .long) (by decide) (by decide)))
  have F33 : Exa Z hX26 ob "com/example/evenkeel/evenkeel/QueuedTasks" := F22.wr W26
  have F34 : Fld Z hX26 ob "com/example/evenkeel/evenkeel/QueuedTasks" "tenant" "Lcom/example/evenkeel/evenkeel/TenantAllocation;" .null := F23.other W26 (Or.inr (slot_ne (Or.inr (hw _ (List.mem_of_getElem? (i := 18) rfl))) (Or.inr (hw _ (List.mem_of_getElem? (i := 22) rfl))) (by decide) (t := (.object "com/example/evenkeel/evenkeel/TenantAllocation")) (t' := .long) (by decide) (by decide)))
  have F35 : Fld Z hX26 ob "com/example/evenkeel/evenkeel/QueuedTasks" "demand" "[J" .null := F15.other W26 (Or.inr (slot_ne (Or.inr (hw _ (List.mem_of_getElem? (i := 20) rfl))) (Or.inr (hw _ (List.mem_of_getElem? (i := 22) rfl))) (by decide) (t := (.array .long)) (t' := .long) (by decide) (by decide)))
  have Z36 : n0 ≤ hX26.size := Nat.le_trans Z24 (Keep.of_wr W26).1
  have K37 : Keep h0 hX26 [ob] := K25.wr W26 (Or.inl (List.mem_of_getElem? (i := 0) rfl))
  obtain ⟨T38, hX38, X38, e38, W38, st38⟩ := putF X26 hx hZ hown (host := "") (Or.inl (hw _ (List.mem_of_getElem? (i := 23) rfl))) Via.refl e26 F28 F33 (Or.inl (hw _ (List.mem_of_getElem? (i := 24) rfl))) (hw _ (List.mem_of_getElem? (i := 11) rfl)) (ty := .long) (by decide) rfl rfl (g := (mkF m 21 #[.val (.ref ob), .val .null, .val .null, .val (.long z1), .second, .val (.long z2), .second, .val .null] [(.long z1), (.ref ob)])) rfl rfl (hb hby d3_21)
  have N38 := Fr.snoc X38 N26 g_ob
  have F39 : Fld Z hX38 ob "com/example/evenkeel/evenkeel/QueuedTasks" "left" "J" (.long z1) := F28.same W38
  have F40 : Fld Z hX38 ob "com/example/evenkeel/evenkeel/QueuedTasks" "submission" "J" (.long (0 : Int64)) := F29.other W38 (Or.inr (slot_ne (Or.inr (hw _ (List.mem_of_getElem? (i := 26) rfl))) (Or.inl (hw _ (List.mem_of_getElem? (i := 24) rfl))) (by decide) (t := .long) (t' := .long) (by decide) (by decide)))
  have F41 : Fld Z hX38 ob "com/example/evenkeel/evenkeel/QueuedTasks" "stopped" "Lcom/example/evenkeel/evenkeel/Decision;" .null := F30.other W38 (Or.inr (slot_ne (Or.inr (hw _ (List.mem_of_getElem? (i := 28) rfl))) (Or.inl (hw _ (List.mem_of_getElem? (i := 24) rfl))) (by decide) (t := (.object "com/example/evenkeel/evenkeel/Decision")) (t' := .long) (by decide) (by decide)))
  have F42 : Fld Z hX38 ob "com/example/evenkeel/evenkeel/QueuedTasks" "before" "Lcom/example/evenkeel/evenkeel/QueuedTasks;" .null := F31.other W38 (Or.inr (slot_ne (Or.inl (hw _ (List.mem_of_getElem? (i := 57) rfl))) (Or.inl (hw _ (List.mem_of_getElem? (i := 24) rfl))) (by decide) (t := (.object "com/example/evenkeel/evenkeel/QueuedTasks")) (t' := .long) (by decide) (by decide)))
  have F43 : Fld Z hX38 ob "com/example/evenkeel/evenkeel/QueuedTasks" "after" "Lcom/example/evenkeel/evenkeel/QueuedTasks;" .null := F32.other W38 (Or.inr (slot_ne (Or.inl (hw _ (List.mem_of_getElem? (i := 48) rfl))) (Or.inl (hw _ (List.mem_of_getElem? (i := 24) rfl))) (by decide) (t := (.object "com/example/evenkeel/evenkeel/QueuedTasks")) (t' := .long) (by decide) (by decide)))
  have F44 : Exa Z hX38 ob "com/example/evenkeel/evenkeel/QueuedTasks" := F33.wr W38
  have F45 : Fld Z hX38 ob "com/example/evenkeel/evenkeel/QueuedTasks" "tenant" "Lcom/example/evenkeel/evenkeel/TenantAllocation;" .null := F34.other W38 (Or.inr (slot_ne (Or.inr (hw _ (List.mem_of_getElem? (i := 18) rfl))) (Or.inl (hw _ (List.mem_of_getElem? (i := 24) rfl))) (by decide) (t := (.object "com/example/evenkeel/evenkeel/TenantAllocation")) (t' := .long) (by decide) (by decide)))
  have F46 : Fld Z hX38 ob "com/example/evenkeel/evenkeel/QueuedTasks" "demand" "[J" .null := F35.other W38 (Or.inr (slot_ne (Or.inr (hw _ (List.mem_of_getElem? (i := 20) rfl))) (Or.inl (hw _ (List.mem_of_getElem? (i := 24) rfl))) (by decide) (t := (.array .long)) (t' := .long) (by decide) (by decide)))
  have F47 : Fld Z hX38 ob "com/example/evenkeel/evenkeel/QueuedTasks" "count" "J" (.long z1) := F27.other W38 (Or.inr (slot_ne (Or.inr (hw _ (List.mem_of_getElem? (i := 22) rfl))) (Or.inl (hw _ (List.mem_of_getElem? (i := 24) rfl))) (by decide) (t := .long) (t' := .long) (by decide) (by decide)))
  have Z48 : n0 ≤ hX38.size := Nat.le_trans Z36 (Keep.of_wr W38).1
  have K49 : Keep h0 hX38 [ob] := K37.wr W38 (Or.inl (List.mem_of_getElem? (i := 0) rfl))
  obtain ⟨T50, hX50, X50, e50, W50, st50⟩ := putF X38 hx hZ hown (host := "") (Or.inl (hw _ (List.mem_of_getElem? (i := 25) rfl))) Via.refl e38 F40 F44 (Or.inr ⟨(hw _ (List.mem_of_getElem? (i := 26) rfl)), rfl, hnm⟩) (hw _ (List.mem_of_getElem? (i := 11) rfl)) (ty := .long) (by decide) rfl rfl (g := (mkF m 27 #[.val (.ref ob), .val .null, .val .null, .val (.long z1), .second, .val (.long z2), .second, .val .null] [(.long z2), (.ref ob)])) rfl rfl (hb hby d3_27)
  have N50 := Fr.snoc X50 N38 g_ob
  have F51 : Fld Z hX50 ob "com/example/evenkeel/evenkeel/QueuedTasks" "submission" "J" (.long z2) := F40.same W50
  have F52 : Fld Z hX50 ob "com/example/evenkeel/evenkeel/QueuedTasks" "stopped" "Lcom/example/evenkeel/evenkeel/Decision;" .null := F41.other W50 (Or.inr (slot_ne (Or.inr (hw _ (List.mem_of_getElem? (i := 28) rfl))) (Or.inr (hw _ (List.mem_of_getElem? (i := 26) rfl))) (by decide) (t := (.object "com/example/evenkeel/evenkeel/Decision")) (t' := .long) (by decide) (by decide)))
  have F53 : Fld Z hX50 ob "com/example/evenkeel/evenkeel/QueuedTasks" "before" "Lcom/example/evenkeel/evenkeel/QueuedTasks;" .null := F42.other W50 (Or.inr (slot_ne (Or.inl (hw _ (List.mem_of_getElem? (i := 57) rfl))) (Or.inr (hw _ (List.mem_of_getElem? (i := 26) rfl))) (by decide) (t := (.object "com/example/evenkeel/evenkeel/QueuedTasks")) (t' := .long) (by decide) (by decide)))
  have F54 : Fld Z hX50 ob "com/example/evenkeel/evenkeel/QueuedTasks" "after" "Lcom/example/evenkeel/evenkeel/QueuedTasks;" .null := F43.other W50 (Or.inr (slot_ne (Or.inl (hw _ (List.mem_of_getElem? (i := 48) rfl))) (Or.inr (hw _ (List.mem_of_getElem? (i := 26) rfl))) (by decide) (t := (.object "com/example/evenkeel/evenkeel/QueuedTasks")) (t' := .long) (by decide) (by decide)))
  have F55 : Exa Z hX50 ob "com/example/evenkeel/evenkeel/QueuedTasks" := F44.wr W50
  have F56 : Fld Z hX50 ob "com/example/evenkeel/evenkeel/QueuedTasks" "tenant" "Lcom/example/evenkeel/evenkeel/TenantAllocation;" .null := F45.other W50 (Or.inr (slot_ne (Or.inr (hw _ (List.mem_of_getElem? (i := 18) rfl))) (Or.inr (hw _ (List.mem_of_getElem? (i := 26) rfl))) (by decide) (t := (.object "com/example/evenkeel/evenkeel/TenantAllocation")) (t' := .long) (by decide) (by decide)))
  have F57 : Fld Z hX50 ob "com/example/evenkeel/evenkeel/QueuedTasks" "demand" "[J" .null := F46.other W50 (Or.inr (slot_ne (Or.inr (hw _ (List.mem_of_getElem? (i := 20) rfl))) (Or.inr (hw _ (List.mem_of_getElem? (i := 26) rfl))) (by decide) (t := (.array .long)) (t' := .long) (by decide) (by decide)))
  have F58 : Fld Z hX50 ob "com/example/evenkeel/evenkeel/QueuedTasks" "count" "J" (.long z1) := F47.other W50 (Or.inr (slot_ne (Or.inr (hw _ (List.mem_of_getElem? (i := 22) rfl))) (Or.inr (hw _ (List.mem_of_getElem? (i := 26) rfl))) (by decide) (t := .long) (t' := .long) (by decide) (by decide)))
  have F59 : Fld Z hX50 ob "com/example/evenkeel/evenkeel/QueuedTasks" "left" "J" (.long z1) := F39.other W50 (Or.inr (slot_ne (Or.inl (hw _ (List.mem_of_getElem? (i := 24) rfl))) (Or.inr (hw _ (List.mem_of_getElem? (i := 26) rfl))) (by decide) (t := .long) (t' := .long) (by decide) (by decide)))
  have Z60 : n0 ≤ hX50.size := Nat.le_trans Z48 (Keep.of_wr W50).1
  have K61 : Keep h0 hX50 [ob] := K49.wr W50 (Or.inl (List.mem_of_getElem? (i := 0) rfl))
  obtain ⟨T62, hX62, X62, e62, W62, st62⟩ := putF X50 hx hZ hown (host := "") (Or.inl (hw _ (List.mem_of_getElem? (i := 27) rfl))) Via.refl e50 F52 F55 (Or.inr ⟨(hw _ (List.mem_of_getElem? (i := 28) rfl)), rfl, hnm⟩) (hw _ (List.mem_of_getElem? (i := 11) rfl)) (ty := (.object "com/example/evenkeel/evenkeel/Decision")) (by decide) rfl rfl (g := (mkF m 33 #[.val (.ref ob), .val .null, .val .null, .val (.long z1), .second, .val (.long z2), .second, .val .null] [.null, (.ref ob)])) rfl rfl (hb hby d3_33)
  have N62 := Fr.snoc X62 N50 g_ob
  have F63 : Fld Z hX62 ob "com/example/evenkeel/evenkeel/QueuedTasks" "stopped" "Lcom/example/evenkeel/evenkeel/Decision;" .null := F52.same W62
  have F64 : Fld Z hX62 ob "com/example/evenkeel/evenkeel/QueuedTasks" "before" "Lcom/example/evenkeel/evenkeel/QueuedTasks;" .null := F53.other W62 (Or.inr (slot_ne (Or.inl (hw _ (List.mem_of_getElem? (i := 57) rfl))) (Or.inr (hw _ (List.mem_of_getElem? (i := 28) rfl))) (by decide) (t := (.object "com/example/evenkeel/evenkeel/QueuedTasks")) (t' := (.object "com/example/evenkeel/evenkeel/Decision")) (by decide) (by decide)))
  have F65 : Fld Z hX62 ob "com/example/evenkeel/evenkeel/QueuedTasks" "after" "Lcom/example/evenkeel/evenkeel/QueuedTasks;" .null := F54.other W62 (Or.inr (slot_ne (Or.inl (hw _ (List.mem_of_getElem? (i := 48) rfl))) (Or.inr (hw _ (List.mem_of_getElem? (i := 28) rfl))) (by decide) (t := (.object "com/example/evenkeel/evenkeel/QueuedTasks")) (t' := (.object "com/example/evenkeel/evenkeel/Decision")) (by decide) (by decide)))
  have F66 : Exa Z hX62 ob "com/example/evenkeel/evenkeel/QueuedTasks" := F55.wr W62
  have F67 : Fld Z hX62 ob "com/example/evenkeel/evenkeel/QueuedTasks" "tenant" "Lcom/example/evenkeel/evenkeel/TenantAllocation;" .null := F56.other W62 (Or.inr (slot_ne (Or.inr (hw _ (List.mem_of_getElem? (i := 18) rfl))) (Or.inr (hw _ (List.mem_of_getElem? (i := 28) rfl))) (by decide) (t := (.object "com/example/evenkeel/evenkeel/TenantAllocation")) (t' := (.object "com/example/evenkeel/evenkeel/Decision")) (by decide) (by decide)))
  have F68 : Fld Z hX62 ob "com/example/evenkeel/evenkeel/QueuedTasks" "demand" "[J" .null := F57.other W62 (Or.inr (slot_ne (Or.inr (hw _ (List.mem_of_getElem? (i := 20) rfl))) (Or.inr (hw _ (List.mem_of_getElem? (i := 28) rfl))) (by decide) (t := (.array .long)) (t' := (.object "com/example/evenkeel/evenkeel/Decision")) (by decide) (by decide)))
  have F69 : Fld Z hX62 ob "com/example/evenkeel/evenkeel/QueuedTasks" "count" "J" (.long z1) := F58.other W62 (Or.inr (slot_ne (Or.inr (hw _ (List.mem_of_getElem? (i := 22) rfl))) (Or.inr (hw _ (List.mem_of_getElem? (i := 28) rfl))) (by decide) (t := .long) (t' := (.object "com/example/evenkeel/evenkeel/Decision")) (by decide) (by decide)))
  have F70 : Fld Z hX62 ob "com/example/evenkeel/evenkeel/QueuedTasks" "left" "J" (.long z1) := F59.other W62 (Or.inr (slot_ne (Or.inl (hw _ (List.mem_of_getElem? (i := 24) rfl))) (Or.inr (hw _ (List.mem_of_getElem? (i := 28) rfl))) (by decide) (t := .long) (t' := (.object "com/example/evenkeel/evenkeel/Decision")) (by decide) (by decide)))
  have F71 : Fld Z hX62 ob "com/example/evenkeel/evenkeel/QueuedTasks" "submission" "J" (.long z2) := F51.other W62 (Or.inr (slot_ne (Or.inr (hw _ (List.mem_of_getElem? (i := 26) rfl))) (Or.inr (hw _ (List.mem_of_getElem? (i := 28) rfl))) (by decide) (t := .long) (t' := (.object "com/example/evenkeel/evenkeel/Decision")) (by decide) (by decide)))
  have Z72 : n0 ≤ hX62.size := Nat.le_trans Z60 (Keep.of_wr W62).1
  have K73 : Keep h0 hX62 [ob] := K61.wr W62 (Or.inl (List.mem_of_getElem? (i := 0) rfl))
  obtain ⟨fs, hr, hrun, hended, hW, hsame⟩ := X62.leave (v := none) (fun _ => rfl)
  refine ⟨_, _, pre0 _ ?_, hrun, hended, _, _, rfl, ?_, ⟨_, rfl⟩, hW, hsame.mono (by decide) (by decide)⟩
  · skip
    show Steps p.tables e below (s₁.setTop (mkF m 0 #[.val (.ref ob), .val .null, .val .null, .val (.long z1), .second, .val (.long z2), .second, .val .null] [])) _
    refine XS.aloadN X0.here hx rfl (hb hby d3_0) rfl rfl ?_
    show Steps p.tables e below (s₁.setTop (mkF m 1 #[.val (.ref ob), .val .null, .val .null, .val (.long z1), .second, .val (.long z2), .second, .val .null] [(.ref ob)])) _
    refine st1 _ ?_
    show Steps p.tables e below (T1.setTop (mkF m 4 #[.val (.ref ob), .val .null, .val .null, .val (.long z1), .second, .val (.long z2), .second, .val .null] [])) _
    refine XS.aloadN X1.here hx rfl (hb hby d3_4) rfl rfl ?_
    show Steps p.tables e below (T1.setTop (mkF m 5 #[.val (.ref ob), .val .null, .val .null, .val (.long z1), .second, .val (.long z2), .second, .val .null] [(.ref ob)])) _
    refine XS.aloadN X1.here hx rfl (hb hby d3_5) rfl rfl ?_
    show Steps p.tables e below (T1.setTop (mkF m 6 #[.val (.ref ob), .val .null, .val .null, .val (.long z1), .second, .val (.long z2), .second, .val .null] [.null, (.ref ob)])) _
    refine st2 _ ?_
    show Steps p.tables e below (T2.setTop (mkF m 9 #[.val (.ref ob), .val .null, .val .null, .val (.long z1), .second, .val (.long z2), .second, .val .null] [])) _
    refine XS.aloadN X2.here hx rfl (hb hby d3_9) rfl rfl ?_
    show Steps p.tables e below (T2.setTop (mkF m 10 #[.val (.ref ob), .val .null, .val .null, .val (.long z1), .second, .val (.long z2), .second, .val .null] [(.ref ob)])) _
    refine XS.aloadN X2.here hx rfl (hb hby d3_10) rfl rfl ?_
    show Steps p.tables e below (T2.setTop (mkF m 11 #[.val (.ref ob), .val .null, .val .null, .val (.long z1), .second, .val (.long z2), .second, .val .null] [.null, (.ref ob)])) _
    refine st14 _ ?_
    show Steps p.tables e below (T14.setTop (mkF m 14 #[.val (.ref ob), .val .null, .val .null, .val (.long z1), .second, .val (.long z2), .second, .val .null] [])) _
    refine XS.aloadN X14.here hx rfl (hb hby d3_14) rfl rfl ?_
    show Steps p.tables e below (T14.setTop (mkF m 15 #[.val (.ref ob), .val .null, .val .null, .val (.long z1), .second, .val (.long z2), .second, .val .null] [(.ref ob)])) _
    refine XS.lloadN X14.here hx rfl (hb hby d3_15) rfl ?_
    show Steps p.tables e below (T14.setTop (mkF m 16 #[.val (.ref ob), .val .null, .val .null, .val (.long z1), .second, .val (.long z2), .second, .val .null] [(.long z1), (.ref ob)])) _
    refine st26 _ ?_
    show Steps p.tables e below (T26.setTop (mkF m 19 #[.val (.ref ob), .val .null, .val .null, .val (.long z1), .second, .val (.long z2), .second, .val .null] [])) _
    refine XS.aloadN X26.here hx rfl (hb hby d3_19) rfl rfl ?_
    show Steps p.tables e below (T26.setTop (mkF m 20 #[.val (.ref ob), .val .null, .val .null, .val (.long z1), .second, .val (.long z2), .second, .val .null] [(.ref ob)])) _
    refine XS.lloadN X26.here hx rfl (hb hby d3_20) rfl ?_
    show Steps p.tables e below (T26.setTop (mkF m 21 #[.val (.ref ob), .val .null, .val .null, .val (.long z1), .second, .val (.long z2), .second, .val .null] [(.long z1), (.ref ob)])) _
    refine st38 _ ?_
    show Steps p.tables e below (T38.setTop (mkF m 24 #[.val (.ref ob), .val .null, .val .null, .val (.long z1), .second, .val (.long z2), .second, .val .null] [])) _
    refine XS.aloadN X38.here hx rfl (hb hby d3_24) rfl rfl ?_
    show Steps p.tables e below (T38.setTop (mkF m 25 #[.val (.ref ob), .val .null, .val .null, .val (.long z1), .second, .val (.long z2), .second, .val .null] [(.ref ob)])) _
    refine XS.lload X38.here hx rfl (hb hby d3_25) rfl ?_
    show Steps p.tables e below (T38.setTop (mkF m 27 #[.val (.ref ob), .val .null, .val .null, .val (.long z1), .second, .val (.long z2), .second, .val .null] [(.long z2), (.ref ob)])) _
    refine st50 _ ?_
    show Steps p.tables e below (T50.setTop (mkF m 30 #[.val (.ref ob), .val .null, .val .null, .val (.long z1), .second, .val (.long z2), .second, .val .null] [])) _
    refine XS.aloadN X50.here hx rfl (hb hby d3_30) rfl rfl ?_
    show Steps p.tables e below (T50.setTop (mkF m 31 #[.val (.ref ob), .val .null, .val .null, .val (.long z1), .second, .val (.long z2), .second, .val .null] [(.ref ob)])) _
    refine XS.aload X50.here hx rfl (hb hby d3_31) rfl rfl ?_
    show Steps p.tables e below (T50.setTop (mkF m 33 #[.val (.ref ob), .val .null, .val .null, .val (.long z1), .second, .val (.long z2), .second, .val .null] [.null, (.ref ob)])) _
    refine st62 _ ?_
    show Steps p.tables e below (T62.setTop (mkF m 36 #[.val (.ref ob), .val .null, .val .null, .val (.long z1), .second, .val (.long z2), .second, .val .null] [])) _
    exact X62.returnOut hx Bd.returns (hb hby d3_36) hr
  · show Q3 Z ob z1 z2 h0 n0 _ T62.heap _
    rw [e62]
    exact ⟨rfl, N62, K73, F66, F64, F65⟩
theorem d4_0 : decode prog_20_method_2_code 0 = .ok (.aload_n 0, 1) := by decide +kernel
theorem d4_1 : decode prog_20_method_2_code 1 = .ok (.getfield 7, 3) := by decide +kernel
theorem d4_4 : decode prog_20_method_2_code 4 = .ok (.ifnonnull 7, 3) := by decide +kernel
theorem d4_7 : decode prog_20_method_2_code 7 = .ok (.iconst 1, 1) := by decide +kernel
theorem d4_8 : decode prog_20_method_2_code 8 = .ok (.goto 4, 3) := by decide +kernel
theorem d4_12 : decode prog_20_method_2_code 12 = .ok (.ireturn, 1) := by decide +kernel
theorem pn_4 : plainName "com/example/evenkeel/evenkeel/TaskQueue" = true := by first | (simp [plainName, overriddenIn]; done) | decide +kernel
theorem ef_4 (m : MethodId) (x0 : Addr) : entryFrame m #[(.ref x0)] 1 = mkF m 0 #[.val (.ref x0)] [] := by first | (simp [entryFrame, mkF, argsToLocals, Value.category]; done) | rfl
def Q4 (Z : State) (ob : Addr) (h0 : Heap) (n0 : Nat) (v : Option Value) (h : Heap) (L : List Loc) : Prop := v = some (.int (1 : Int32)) ∧ Fr n0 L ∧ h = h0
set_option maxRecDepth 65536 in
set_option maxHeartbeats 40000000 in
theorem rm4 (l : Launch) (Z : State) (a0 : Array Value) (hw : ∀ d ∈ tables_1, d.before a0 Z = true) (ws : List Jvm.Cond) (ob : Addr) (h0 : Heap) (n0 : Nat) (Z0 : n0 ≤ h0.size) (I0 : Fld Z h0 ob "com/example/evenkeel/evenkeel/TaskQueue" "first" "Lcom/example/evenkeel/evenkeel/QueuedTasks;" .null) :
    MetFree l (⟨"com/example/evenkeel/evenkeel/TaskQueue", "isEmpty", "()Z"⟩ : MethodName) (head1 (Jvm.Cond.code (⟨"com/example/evenkeel/evenkeel/TaskQueue", "isEmpty", "()Z"⟩ : MethodName) prog_20_method_2_code 1 (some .boolean) :: ws) ({ frames := 0, cells := 0, slots := 0, locals := 0 } : Room)) (fun a U => a = #[(.ref ob)] ∧ Z.Warmed39 U.vm ∧ U.heap = h0) (fun _ _ _ _ _ => True) (fun _ U o U' => ∃ v L, o = .returned v ∧ Q4 Z ob h0 n0 v U'.heap L ∧ FrameEnd U o U' L ({ frames := 0, cells := 0, slots := 0, locals := 0 } : Room).cells ({ frames := 0, cells := 0, slots := 0, locals := 0 } : Room).slots) := by
  refine MetFree.of_bodySF (plainFor_of_name pn_4) hisR ?_
  intro p e s m args below meth c s₁ Bd hml0 hP hK
  obtain ⟨rfl, hZ, hh⟩ := hP
  have hx := Bd.exec
  have hby := Bd.bytes
  have hml : c.maxLocals = 1 := hml0
  have hown : s.vm.findClass "com/example/evenkeel/evenkeel/TaskQueue" = some m.cls := findClass_of_methodNamed Bd.named
  have hnm := (name_of_methodNamed Bd.named Bd.method).1
  have X0 : Stand p l e ({ frames := 0, cells := 0, slots := 0, locals := 0 } : Room) s m #[(.ref ob)] below meth c s₁ [] 0 0 := Stand.of_body Bd
  have e0 : s₁.heap = h0 := by rw [← hh, Bd.state]; rfl
  have N0 := Fr.nil n0
  have K0 : Keep h0 h0 [] := Keep.refl h0 _
  have pre0 : ∀ tq, Steps p.tables e below (s₁.setTop (mkF m 0 #[.val (.ref ob)] [])) tq → Steps p.tables e below (s₁.setTop (entryFrame m #[(.ref ob)] 1)) tq := fun tq kq => castTop (ef_4 m ob) kq
  obtain ⟨T1, X1, e1, st1⟩ := getF X0 hx hZ hown (host := "") (Or.inl (hw _ (List.mem_of_getElem? (i := 36) rfl))) Via.refl e0 I0 (g := (mkF m 1 #[.val (.ref ob)] [(.ref ob)])) rfl rfl (hb hby d4_1)
  obtain ⟨fs, hr, hrun, hended, hW, hsame⟩ := X1.leave (v := some (Value.int (1 : Int32))) (fun h => by rw [Bd.returns] at h; cases h)
  refine ⟨_, _, pre0 _ ?_, hrun, hended, _, _, rfl, ?_, ⟨_, rfl⟩, hW, hsame.mono (by decide) (by decide)⟩
  · skip
    show Steps p.tables e below (s₁.setTop (mkF m 0 #[.val (.ref ob)] [])) _
    refine XS.aloadN X0.here hx rfl (hb hby d4_0) rfl rfl ?_
    show Steps p.tables e below (s₁.setTop (mkF m 1 #[.val (.ref ob)] [(.ref ob)])) _
    refine st1 _ ?_
    show Steps p.tables e below (T1.setTop (mkF m 4 #[.val (.ref ob)] [.null])) _
    refine XS.ifnonnullNo X1.here hx rfl (hb hby d4_4) rfl ?_
    show Steps p.tables e below (T1.setTop (mkF m 7 #[.val (.ref ob)] [])) _
    refine XS.iconst X1.here hx rfl (hb hby d4_7) ?_
    show Steps p.tables e below (T1.setTop (mkF m 8 #[.val (.ref ob)] [(.int (1 : Int32))])) _
    refine XS.goto X1.here hx rfl (pc0 := 8) (pc' := 12) rfl (hb hby d4_8) (by decide) (by decide) ?_
    show Steps p.tables e below (T1.setTop (mkF m 12 #[.val (.ref ob)] [(.int (1 : Int32))])) _
    exact retN X1 hx (t := .boolean) Bd.returns (by simp) (hb hby d4_12) hr
  · show Q4 Z ob h0 n0 _ T1.heap _
    rw [e1]
    exact ⟨rfl, N0, rfl⟩
theorem d4_11 : decode prog_20_method_2_code 11 = .ok (.iconst 0, 1) := by decide +kernel
theorem ef_4_1 (m : MethodId) (x0 : Addr) : entryFrame m #[(.ref x0)] 1 = mkF m 0 #[.val (.ref x0)] [] := by first | (simp [entryFrame, mkF, argsToLocals, Value.category]; done) | rfl
def Q4_1 (Z : State) (ob : Addr) (ot : Addr) (h0 : Heap) (n0 : Nat) (v : Option Value) (h : Heap) (L : List Loc) : Prop := v = some (.int (0 : Int32)) ∧ Fr n0 L ∧ h = h0
set_option maxRecDepth 65536 in
set_option maxHeartbeats 40000000 in
theorem rm4_1 (l : Launch) (Z : State) (a0 : Array Value) (hw : ∀ d ∈ tables_1, d.before a0 Z = true) (ws : List Jvm.Cond) (ob : Addr) (ot : Addr) (h0 : Heap) (n0 : Nat) (Z0 : n0 ≤ h0.size) (I0 : Fld Z h0 ob "com/example/evenkeel/evenkeel/TaskQueue" "first" "Lcom/example/evenkeel/evenkeel/QueuedTasks;" (.ref ot)) :
    MetFree l (⟨"com/example/evenkeel/evenkeel/TaskQueue", "isEmpty", "()Z"⟩ : MethodName) (head1 (Jvm.Cond.code (⟨"com/example/evenkeel/evenkeel/TaskQueue", "isEmpty", "()Z"⟩ : MethodName) prog_20_method_2_code 1 (some .boolean) :: ws) ({ frames := 0, cells := 0, slots := 0, locals := 0 } : Room)) (fun a U => a = #[(.ref ob)] ∧ Z.Warmed39 U.vm ∧ U.heap = h0) (fun _ _ _ _ _ => True) (fun _ U o U' => ∃ v L, o = .returned v ∧ Q4_1 Z ob ot h0 n0 v U'.heap L ∧ FrameEnd U o U' L ({ frames := 0, cells := 0, slots := 0, locals := 0 } : Room).cells ({ frames := 0, cells := 0, slots := 0, locals := 0 } : Room).slots) := by
  refine MetFree.of_bodySF (plainFor_of_name pn_4) hisR ?_
  intro p e s m args below meth c s₁ Bd hml0 hP hK
  obtain ⟨rfl, hZ, hh⟩ := hP
  have hx := Bd.exec
  have hby := Bd.bytes
  have hml : c.maxLocals = 1 := hml0
  have hown : s.vm.findClass "com/example/evenkeel/evenkeel/TaskQueue" = some m.cls := findClass_of_methodNamed Bd.named
  have hnm := (name_of_methodNamed Bd.named Bd.method).1
  have X0 : Stand p l e ({ frames := 0, cells := 0, slots := 0, locals := 0 } : Room) s m #[(.ref ob)] below meth c s₁ [] 0 0 := Stand.of_body Bd
  have e0 : s₁.heap = h0 := by rw [← hh, Bd.state]; rfl
  have N0 := Fr.nil n0
  have K0 : Keep h0 h0 [] := Keep.refl h0 _
  have pre0 : ∀ tq, Steps p.tables e below (s₁.setTop (mkF m 0 #[.val (.ref ob)] [])) tq → Steps p.tables e below (s₁.setTop (entryFrame m #[(.ref ob)] 1)) tq := fun tq kq => castTop (ef_4_1 m ob) kq
  obtain ⟨T1, X1, e1, st1⟩ := getF X0 hx hZ hown (host := "") (Or.inl (hw _ (List.mem_of_getElem? (i := 36) rfl))) Via.refl e0 I0 (g := (mkF m 1 #[.val (.ref ob)] [(.ref ob)])) rfl rfl (hb hby d4_1)
  obtain ⟨fs, hr, hrun, hended, hW, hsame⟩ := X1.leave (v := some (Value.int (0 : Int32))) (fun h => by rw [Bd.returns] at h; cases h)
  refine ⟨_, _, pre0 _ ?_, hrun, hended, _, _, rfl, ?_, ⟨_, rfl⟩, hW, hsame.mono (by decide) (by decide)⟩
  · skip
    show Steps p.tables e below (s₁.setTop (mkF m 0 #[.val (.ref ob)] [])) _
    refine XS.aloadN X0.here hx rfl (hb hby d4_0) rfl rfl ?_
    show Steps p.tables e below (s₁.setTop (mkF m 1 #[.val (.ref ob)] [(.ref ob)])) _
    refine st1 _ ?_
    show Steps p.tables e below (T1.setTop (mkF m 4 #[.val (.ref ob)] [(.ref ot)])) _
    refine XS.ifnonnullYes X1.here hx rfl (pc0 := 4) (pc' := 11) rfl (hb hby d4_4) rfl (by decide) (by decide) ?_
    show Steps p.tables e below (T1.setTop (mkF m 11 #[.val (.ref ob)] [])) _
    refine XS.iconst X1.here hx rfl (hb hby d4_11) ?_
    show Steps p.tables e below (T1.setTop (mkF m 12 #[.val (.ref ob)] [(.int (0 : Int32))])) _
    exact retN X1 hx (t := .boolean) Bd.returns (by simp) (hb hby d4_12) hr
  · show Q4_1 Z ob ot h0 n0 _ T1.heap _
    rw [e1]
    exact ⟨rfl, N0, rfl⟩
theorem d8_0 : decode prog_20_method_6_code 0 = .ok (.aload_n 1, 1) := by decide +kernel
theorem d8_1 : decode prog_20_method_6_code 1 = .ok (.getfield 21, 3) := by decide +kernel
theorem d8_4 : decode prog_20_method_6_code 4 = .ok (.ifnonnull 14, 3) := by decide +kernel
theorem d8_7 : decode prog_20_method_6_code 7 = .ok (.aload_n 0, 1) := by decide +kernel
theorem d8_8 : decode prog_20_method_6_code 8 = .ok (.aload_n 1, 1) := by decide +kernel
theorem d8_9 : decode prog_20_method_6_code 9 = .ok (.getfield 13, 3) := by decide +kernel
theorem d8_12 : decode prog_20_method_6_code 12 = .ok (.putfield 7, 3) := by decide +kernel
theorem d8_15 : decode prog_20_method_6_code 15 = .ok (.goto 14, 3) := by decide +kernel
theorem d8_29 : decode prog_20_method_6_code 29 = .ok (.aload_n 1, 1) := by decide +kernel
theorem d8_30 : decode prog_20_method_6_code 30 = .ok (.getfield 13, 3) := by decide +kernel
theorem d8_33 : decode prog_20_method_6_code 33 = .ok (.ifnonnull 14, 3) := by decide +kernel
theorem d8_36 : decode prog_20_method_6_code 36 = .ok (.aload_n 0, 1) := by decide +kernel
theorem d8_37 : decode prog_20_method_6_code 37 = .ok (.aload_n 1, 1) := by decide +kernel
theorem d8_38 : decode prog_20_method_6_code 38 = .ok (.getfield 21, 3) := by decide +kernel
theorem d8_41 : decode prog_20_method_6_code 41 = .ok (.putfield 18, 3) := by decide +kernel
theorem d8_44 : decode prog_20_method_6_code 44 = .ok (.goto 14, 3) := by decide +kernel
theorem d8_58 : decode prog_20_method_6_code 58 = .ok (.aload_n 1, 1) := by decide +kernel
theorem d8_59 : decode prog_20_method_6_code 59 = .ok (.aconst_null, 1) := by decide +kernel
theorem d8_60 : decode prog_20_method_6_code 60 = .ok (.putfield 21, 3) := by decide +kernel
theorem d8_63 : decode prog_20_method_6_code 63 = .ok (.aload_n 1, 1) := by decide +kernel
theorem d8_64 : decode prog_20_method_6_code 64 = .ok (.aconst_null, 1) := by decide +kernel
theorem d8_65 : decode prog_20_method_6_code 65 = .ok (.putfield 13, 3) := by decide +kernel
theorem d8_68 : decode prog_20_method_6_code 68 = .ok (.return_, 1) := by decide +kernel
theorem pn_8 : plainName "com/example/evenkeel/evenkeel/TaskQueue" = true := by first | (simp [plainName, overriddenIn]; done) | decide +kernel
theorem ef_8 (m : MethodId) (x0 : Addr) (x1 : Addr) : entryFrame m #[(.ref x0), (.ref x1)] 2 = mkF m 0 #[.val (.ref x0), .val (.ref x1)] [] := by first | (simp [entryFrame, mkF, argsToLocals, Value.category]; done) | rfl
def Q8 (Z : State) (ob : Addr) (tk : Addr) (h0 : Heap) (n0 : Nat) (v : Option Value) (h : Heap) (L : List Loc) : Prop := v = none ∧ Fr n0 L ∧ Keep h0 h [ob, tk] ∧ Fld Z h ob "com/example/evenkeel/evenkeel/TaskQueue" "first" "Lcom/example/evenkeel/evenkeel/QueuedTasks;" .null ∧ Fld Z h ob "com/example/evenkeel/evenkeel/TaskQueue" "last" "Lcom/example/evenkeel/evenkeel/QueuedTasks;" .null ∧ Fld Z h tk "com/example/evenkeel/evenkeel/QueuedTasks" "before" "Lcom/example/evenkeel/evenkeel/QueuedTasks;" .null ∧ Fld Z h tk "com/example/evenkeel/evenkeel/QueuedTasks" "after" "Lcom/example/evenkeel/evenkeel/QueuedTasks;" .null ∧ Exa Z h ob "com/example/evenkeel/evenkeel/TaskQueue" ∧ Exa Z h tk "com/example/evenkeel/evenkeel/QueuedTasks"
set_option maxRecDepth 65536 in
set_option maxHeartbeats 40000000 in
theorem rm8 (l : Launch) (Z : State) (a0 : Array Value) (hw : ∀ d ∈ tables_1, d.before a0 Z = true) (ws : List Jvm.Cond) (ob : Addr) (tk : Addr) (h0 : Heap) (n0 : Nat) (Z0 : n0 ≤ h0.size) (I0 : Fld Z h0 ob "com/example/evenkeel/evenkeel/TaskQueue" "first" "Lcom/example/evenkeel/evenkeel/QueuedTasks;" (.ref tk)) (I1 : Fld Z h0 ob "com/example/evenkeel/evenkeel/TaskQueue" "last" "Lcom/example/evenkeel/evenkeel/QueuedTasks;" (.ref tk)) (I2 : Fld Z h0 tk "com/example/evenkeel/evenkeel/QueuedTasks" "before" "Lcom/example/evenkeel/evenkeel/QueuedTasks;" .null) (I3 : Fld Z h0 tk "com/example/evenkeel/evenkeel/QueuedTasks" "after" "Lcom/example/evenkeel/evenkeel/QueuedTasks;" .null) (I4 : Exa Z h0 ob "com/example/evenkeel/evenkeel/TaskQueue") (I5 : Exa Z h0 tk "com/example/evenkeel/evenkeel/QueuedTasks") (g_ob : n0 ≤ ob) (g_tk : n0 ≤ tk) (ne_ob_tk : ob ≠ tk) :
    MetFree l (⟨"com/example/evenkeel/evenkeel/TaskQueue", "remove", "(Lcom/example/evenkeel/evenkeel/QueuedTasks;)V"⟩ : MethodName) (head1 (Jvm.Cond.code (⟨"com/example/evenkeel/evenkeel/TaskQueue", "remove", "(Lcom/example/evenkeel/evenkeel/QueuedTasks;)V"⟩ : MethodName) prog_20_method_6_code 2 none :: ws) ({ frames := 0, cells := 0, slots := 0, locals := 0 } : Room)) (fun a U => a = #[(.ref ob), (.ref tk)] ∧ Z.Warmed39 U.vm ∧ U.heap = h0) (fun _ _ _ _ _ => True) (fun _ U o U' => ∃ v L, o = .returned v ∧ Q8 Z ob tk h0 n0 v U'.heap L ∧ FrameEnd U o U' L ({ frames := 0, cells := 0, slots := 0, locals := 0 } : Room).cells ({ frames := 0, cells := 0, slots := 0, locals := 0 } : Room).slots) := by
  refine MetFree.of_bodySF (plainFor_of_name pn_8) hisR ?_
  intro p e s m args below meth c s₁ Bd hml0 hP hK
  obtain ⟨rfl, hZ, hh⟩ := hP
  have hx := Bd.exec
  have hby := Bd.bytes
  have hml : c.maxLocals = 2 := hml0
  have hown : s.vm.findClass "com/example/evenkeel/evenkeel/TaskQueue" = some m.cls := findClass_of_methodNamed Bd.named
  have hnm := (name_of_methodNamed Bd.named Bd.method).1
  have X0 : Stand p l e ({ frames := 0, cells := 0, slots := 0, locals := 0 } : Room) s m #[(.ref ob), (.ref tk)] below meth c s₁ [] 0 0 := Stand.of_body Bd
  have e0 : s₁.heap = h0 := by rw [← hh, Bd.state]; rfl
  have N0 := Fr.nil n0
  have K0 : Keep h0 h0 [ob, tk] := Keep.refl h0 _
  have pre0 : ∀ tq, Steps p.tables e below (s₁.setTop (mkF m 0 #[.val (.ref ob), .val (.ref tk)] [])) tq → Steps p.tables e below (s₁.setTop (entryFrame m #[(.ref ob), (.ref tk)] 2)) tq := fun tq kq => castTop (ef_8 m ob tk) kq
  obtain ⟨T1, X1, e1, st1⟩ := getF X0 hx hZ hown (host := "") (Or.inl (hw _ (List.mem_of_getElem? (i := 56) rfl))) Via.refl e0 I2 (g := (mkF m 1 #[.val (.ref ob), .val (.ref tk)] [(.ref tk)])) rfl rfl (hb hby d8_1)
  obtain ⟨T2, X2, e2, st2⟩ := getF X1 hx hZ hown (host := "") (Or.inl (hw _ (List.mem_of_getElem? (i := 47) rfl))) Via.refl e1 I3 (g := (mkF m 9 #[.val (.ref ob), .val (.ref tk)] [(.ref tk), (.ref ob)])) rfl rfl (hb hby d8_9)
  obtain ⟨T3, hX3, X3, e3, W3, st3⟩ := putF X2 hx hZ hown (host := "") (Or.inl (hw _ (List.mem_of_getElem? (i := 36) rfl))) Via.refl e2 I0 I4 (Or.inl (hw _ (List.mem_of_getElem? (i := 37) rfl))) (hw _ (List.mem_of_getElem? (i := 1) rfl)) (ty := (.object "com/example/evenkeel/evenkeel/QueuedTasks")) (by decide) rfl rfl (g := (mkF m 12 #[.val (.ref ob), .val (.ref tk)] [.null, (.ref ob)])) rfl rfl (hb hby d8_12)
  have N3 := Fr.snoc X3 N0 g_ob
  have F4 : Fld Z hX3 ob "com/example/evenkeel/evenkeel/TaskQueue" "first" "Lcom/example/evenkeel/evenkeel/QueuedTasks;" .null := I0.same W3
  have F5 : Fld Z hX3 ob "com/example/evenkeel/evenkeel/TaskQueue" "last" "Lcom/example/evenkeel/evenkeel/QueuedTasks;" (.ref tk) := I1.other W3 (Or.inr (slot_ne (Or.inl (hw _ (List.mem_of_getElem? (i := 50) rfl))) (Or.inl (hw _ (List.mem_of_getElem? (i := 37) rfl))) (by decide) (t := (.object "com/example/evenkeel/evenkeel/QueuedTasks")) (t' := (.object "com/example/evenkeel/evenkeel/QueuedTasks")) (by decide) (by decide)))
  have F6 : Fld Z hX3 tk "com/example/evenkeel/evenkeel/QueuedTasks" "before" "Lcom/example/evenkeel/evenkeel/QueuedTasks;" .null := I2.other W3 (Or.inl (Ne.symm ne_ob_tk))
  have F7 : Fld Z hX3 tk "com/example/evenkeel/evenkeel/QueuedTasks" "after" "Lcom/example/evenkeel/evenkeel/QueuedTasks;" .null := I3.other W3 (Or.inl (Ne.symm ne_ob_tk))
  have F8 : Exa Z hX3 ob "com/example/evenkeel/evenkeel/TaskQueue" := I4.wr W3
  have F9 : Exa Z hX3 tk "com/example/evenkeel/evenkeel/QueuedTasks" := I5.wr W3
  have Z10 : n0 ≤ hX3.size := Nat.le_trans Z0 (Keep.of_wr W3).1
  have K11 : Keep h0 hX3 [ob, tk] := K0.wr W3 (Or.inl (List.mem_of_getElem? (i := 0) rfl))
  obtain ⟨T12, X12, e12, st12⟩ := getF X3 hx hZ hown (host := "") (Or.inl (hw _ (List.mem_of_getElem? (i := 47) rfl))) Via.refl e3 F7 (g := (mkF m 30 #[.val (.ref ob), .val (.ref tk)] [(.ref tk)])) rfl rfl (hb hby d8_30)
  obtain ⟨T13, X13, e13, st13⟩ := getF X12 hx hZ hown (host := "") (Or.inl (hw _ (List.mem_of_getElem? (i := 56) rfl))) Via.refl e12 F6 (g := (mkF m 38 #[.val (.ref ob), .val (.ref tk)] [(.ref tk), (.ref ob)])) rfl rfl (hb hby d8_38)
  obtain ⟨T14, hX14, X14, e14, W14, st14⟩ := putF X13 hx hZ hown (host := "") (Or.inl (hw _ (List.mem_of_getElem? (i := 49) rfl))) Via.refl e13 F5 F8 (Or.inl (hw _ (List.mem_of_getElem? (i := 50) rfl))) (hw _ (List.mem_of_getElem? (i := 1) rfl)) (ty := (.object "com/example/evenkeel/evenkeel/QueuedTasks")) (by decide) rfl rfl (g := (mkF m 41 #[.val (.ref ob), .val (.ref tk)] [.null, (.ref ob)])) rfl rfl (hb hby d8_41)
  have N14 := Fr.snoc X14 N3 g_ob
  have F15 : Fld Z hX14 ob "com/example/evenkeel/evenkeel/TaskQueue" "last" "Lcom/example/evenkeel/evenkeel/QueuedTasks;" .null := F5.same W14
  have F16 : Fld Z hX14 tk "com/example/evenkeel/evenkeel/QueuedTasks" "before" "Lcom/example/evenkeel/evenkeel/QueuedTasks;" .null := F6.other W14 (Or.inl (Ne.symm ne_ob_tk))
  have F17 : Fld Z hX14 tk "com/example/evenkeel/evenkeel/QueuedTasks" "after" "Lcom/example/evenkeel/evenkeel/QueuedTasks;" .null := F7.other W14 (Or.inl (Ne.symm ne_ob_tk))
  have F18 : Exa Z hX14 ob "com/example/evenkeel/evenkeel/TaskQueue" := F8.wr W14
  have F19 : Exa Z hX14 tk "com/example/evenkeel/evenkeel/QueuedTasks" := F9.wr W14
  have F20 : Fld Z hX14 ob "com/example/evenkeel/evenkeel/TaskQueue" "first" "Lcom/example/evenkeel/evenkeel/QueuedTasks;" .null := F4.other W14 (Or.inr (slot_ne (Or.inl (hw _ (List.mem_of_getElem? (i := 37) rfl))) (Or.inl (hw _ (List.mem_of_getElem? (i := 50) rfl))) (by decide) (t := (.object "com/example/evenkeel/evenkeel/QueuedTasks")) (t' := (.object "com/example/evenkeel/evenkeel/QueuedTasks")) (by decide) (by decide)))
  have Z21 : n0 ≤ hX14.size := Nat.le_trans Z10 (Keep.of_wr W14).1
  have K22 : Keep h0 hX14 [ob, tk] := K11.wr W14 (Or.inl (List.mem_of_getElem? (i := 0) rfl))
  obtain ⟨T23, hX23, X23, e23, W23, st23⟩ := putF X14 hx hZ hown (host := "") (Or.inl (hw _ (List.mem_of_getElem? (i := 56) rfl))) Via.refl e14 F16 F19 (Or.inl (hw _ (List.mem_of_getElem? (i := 57) rfl))) (hw _ (List.mem_of_getElem? (i := 11) rfl)) (ty := (.object "com/example/evenkeel/evenkeel/QueuedTasks")) (by decide) rfl rfl (g := (mkF m 60 #[.val (.ref ob), .val (.ref tk)] [.null, (.ref tk)])) rfl rfl (hb hby d8_60)
  have N23 := Fr.snoc X23 N14 g_tk
  have F24 : Fld Z hX23 tk "com/example/evenkeel/evenkeel/QueuedTasks" "before" "Lcom/example/evenkeel/evenkeel/QueuedTasks;" .null := F16.same W23
  have F25 : Fld Z hX23 tk "com/example/evenkeel/evenkeel/QueuedTasks" "after" "Lcom/example/evenkeel/evenkeel/QueuedTasks;" .null := F17.other W23 (Or.inr (slot_ne (Or.inl (hw _ (List.mem_of_getElem? (i := 48) rfl))) (Or.inl (hw _ (List.mem_of_getElem? (i := 57) rfl))) (by decide) (t := (.object "com/example/evenkeel/evenkeel/QueuedTasks")) (t' := (.object "com/example/evenkeel/evenkeel/QueuedTasks")) (by decide) (by decide)))
  have F26 : Exa Z hX23 ob "com/example/evenkeel/evenkeel/TaskQueue" := F18.wr W23
  have F27 : Exa Z hX23 tk "com/example/evenkeel/evenkeel/QueuedTasks" := F19.wr W23
  have F28 : Fld Z hX23 ob "com/example/evenkeel/evenkeel/TaskQueue" "first" "Lcom/example/evenkeel/evenkeel/QueuedTasks;" .null := F20.other W23 (Or.inl ne_ob_tk)
  have F29 : Fld Z hX23 ob "com/example/evenkeel/evenkeel/TaskQueue" "last" "Lcom/example/evenkeel/evenkeel/QueuedTasks;" .null := F15.other W23 (Or.inl ne_ob_tk)
  have Z30 : n0 ≤ hX23.size := Nat.le_trans Z21 (Keep.of_wr W23).1
  have K31 : Keep h0 hX23 [ob, tk] := K22.wr W23 (Or.inl (List.mem_of_getElem? (i := 1) rfl))
  obtain ⟨T32, hX32, X32, e32, W32, st32⟩ := putF X23 hx hZ hown (host := "") (Or.inl (hw _ (List.mem_of_getElem? (i := 47) rfl))) Via.refl e23 F25 F27 (Or.inl (hw _ (List.mem_of_getElem? (i := 48) rfl))) (hw _ (List.mem_of_getElem? (i := 11) rfl)) (ty := (.object "com/example/evenkeel/evenkeel/QueuedTasks")) (by decide) rfl rfl (g := (mkF m 65 #[.val (.ref ob), .val (.ref tk)] [.null, (.ref tk)])) rfl rfl (hb hby d8_65)
  have N32 := Fr.snoc X32 N23 g_tk
  have F33 : Fld Z hX32 tk "com/example/evenkeel/evenkeel/QueuedTasks" "after" "Lcom/example/evenkeel/evenkeel/QueuedTasks;" .null := F25.same W32
  have F34 : Exa Z hX32 ob "com/example/evenkeel/evenkeel/TaskQueue" := F26.wr W32
  have F35 : Exa Z hX32 tk "com/example/evenkeel/evenkeel/QueuedTasks" := F27.wr W32
  have F36 : Fld Z hX32 ob "com/example/evenkeel/evenkeel/TaskQueue" "first" "Lcom/example/evenkeel/evenkeel/QueuedTasks;" .null := F28.other W32 (Or.inl ne_ob_tk)
  have F37 : Fld Z hX32 ob "com/example/evenkeel/evenkeel/TaskQueue" "last" "Lcom/example/evenkeel/evenkeel/QueuedTasks;" .null := F29.other W32 (Or.inl ne_ob_tk)
  have F38 : Fld Z hX32 tk "com/example/evenkeel/evenkeel/QueuedTasks" "before" "Lcom/example/evenkeel/evenkeel/QueuedTasks;" .null := F24.other W32 (Or.inr (slot_ne (Or.inl (hw _ (List.mem_of_getElem? (i := 57) rfl))) (Or.inl (hw _ (List.mem_of_getElem? (i := 48) rfl))) (by decide) (t := (.object "com/example/evenkeel/evenkeel/QueuedTasks")) (t' := (.object "com/example/evenkeel/evenkeel/QueuedTasks")) (by decide) (by decide)))
  have Z39 : n0 ≤ hX32.size := Nat.le_trans Z30 (Keep.of_wr W32).1
  have K40 : Keep h0 hX32 [ob, tk] := K31.wr W32 (Or.inl (List.mem_of_getElem? (i := 1) rfl))
  obtain ⟨fs, hr, hrun, hended, hW, hsame⟩ := X32.leave (v := none) (fun _ => rfl)
  refine ⟨_, _, pre0 _ ?_, hrun, hended, _, _, rfl, ?_, ⟨_, rfl⟩, hW, hsame.mono (by decide) (by decide)⟩
  · skip
    show Steps p.tables e below (s₁.setTop (mkF m 0 #[.val (.ref ob), .val (.ref tk)] [])) _
    refine XS.aloadN X0.here hx rfl (hb hby d8_0) rfl rfl ?_
    show Steps p.tables e below (s₁.setTop (mkF m 1 #[.val (.ref ob), .val (.ref tk)] [(.ref tk)])) _
    refine st1 _ ?_
    show Steps p.tables e below (T1.setTop (mkF m 4 #[.val (.ref ob), .val (.ref tk)] [.null])) _
    refine XS.ifnonnullNo X1.here hx rfl (hb hby d8_4) rfl ?_
    show Steps p.tables e below (T1.setTop (mkF m 7 #[.val (.ref ob), .val (.ref tk)] [])) _
    refine XS.aloadN X1.here hx rfl (hb hby d8_7) rfl rfl ?_
    show Steps p.tables e below (T1.setTop (mkF m 8 #[.val (.ref ob), .val (.ref tk)] [(.ref ob)])) _
    refine XS.aloadN X1.here hx rfl (hb hby d8_8) rfl rfl ?_
    show Steps p.tables e below (T1.setTop (mkF m 9 #[.val (.ref ob), .val (.ref tk)] [(.ref tk), (.ref ob)])) _
    refine st2 _ ?_
    show Steps p.tables e below (T2.setTop (mkF m 12 #[.val (.ref ob), .val (.ref tk)] [.null, (.ref ob)])) _
    refine st3 _ ?_
    show Steps p.tables e below (T3.setTop (mkF m 15 #[.val (.ref ob), .val (.ref tk)] [])) _
    refine XS.goto X3.here hx rfl (pc0 := 15) (pc' := 29) rfl (hb hby d8_15) (by decide) (by decide) ?_
    show Steps p.tables e below (T3.setTop (mkF m 29 #[.val (.ref ob), .val (.ref tk)] [])) _
    refine XS.aloadN X3.here hx rfl (hb hby d8_29) rfl rfl ?_
    show Steps p.tables e below (T3.setTop (mkF m 30 #[.val (.ref ob), .val (.ref tk)] [(.ref tk)])) _
    refine st12 _ ?_
    show Steps p.tables e below (T12.setTop (mkF m 33 #[.val (.ref ob), .val (.ref tk)] [.null])) _
    refine XS.ifnonnullNo X12.here hx rfl (hb hby d8_33) rfl ?_
    show Steps p.tables e below (T12.setTop (mkF m 36 #[.val (.ref ob), .val (.ref tk)] [])) _
    refine XS.aloadN X12.here hx rfl (hb hby d8_36) rfl rfl ?_
    show Steps p.tables e below (T12.setTop (mkF m 37 #[.val (.ref ob), .val (.ref tk)] [(.ref ob)])) _
    refine XS.aloadN X12.here hx rfl (hb hby d8_37) rfl rfl ?_
    show Steps p.tables e below (T12.setTop (mkF m 38 #[.val (.ref ob), .val (.ref tk)] [(.ref tk), (.ref ob)])) _
    refine st13 _ ?_
    show Steps p.tables e below (T13.setTop (mkF m 41 #[.val (.ref ob), .val (.ref tk)] [.null, (.ref ob)])) _
    refine st14 _ ?_
    show Steps p.tables e below (T14.setTop (mkF m 44 #[.val (.ref ob), .val (.ref tk)] [])) _
    refine XS.goto X14.here hx rfl (pc0 := 44) (pc' := 58) rfl (hb hby d8_44) (by decide) (by decide) ?_
    show Steps p.tables e below (T14.setTop (mkF m 58 #[.val (.ref ob), .val (.ref tk)] [])) _
    refine XS.aloadN X14.here hx rfl (hb hby d8_58) rfl rfl ?_
    show Steps p.tables e below (T14.setTop (mkF m 59 #[.val (.ref ob), .val (.ref tk)] [(.ref tk)])) _
    refine XS.aconstNull X14.here hx rfl (hb hby d8_59) ?_
    show Steps p.tables e below (T14.setTop (mkF m 60 #[.val (.ref ob), .val (.ref tk)] [.null, (.ref tk)])) _
    refine st23 _ ?_
    show Steps p.tables e below (T23.setTop (mkF m 63 #[.val (.ref ob), .val (.ref tk)] [])) _
    refine XS.aloadN X23.here hx rfl (hb hby d8_63) rfl rfl ?_
    show Steps p.tables e below (T23.setTop (mkF m 64 #[.val (.ref ob), .val (.ref tk)] [(.ref tk)])) _
    refine XS.aconstNull X23.here hx rfl (hb hby d8_64) ?_
    show Steps p.tables e below (T23.setTop (mkF m 65 #[.val (.ref ob), .val (.ref tk)] [.null, (.ref tk)])) _
    refine st32 _ ?_
    show Steps p.tables e below (T32.setTop (mkF m 68 #[.val (.ref ob), .val (.ref tk)] [])) _
    exact X32.returnOut hx Bd.returns (hb hby d8_68) hr
  · show Q8 Z ob tk h0 n0 _ T32.heap _
    rw [e32]
    exact ⟨rfl, N32, K40, F36, F37, F38, F33, F34, F35⟩
theorem d8_47 : decode prog_20_method_6_code 47 = .ok (.aload_n 1, 1) := by decide +kernel
theorem d8_48 : decode prog_20_method_6_code 48 = .ok (.getfield 13, 3) := by decide +kernel
theorem d8_51 : decode prog_20_method_6_code 51 = .ok (.aload_n 1, 1) := by decide +kernel
theorem d8_52 : decode prog_20_method_6_code 52 = .ok (.getfield 21, 3) := by decide +kernel
theorem d8_55 : decode prog_20_method_6_code 55 = .ok (.putfield 21, 3) := by decide +kernel
theorem ef_8_1 (m : MethodId) (x0 : Addr) (x1 : Addr) : entryFrame m #[(.ref x0), (.ref x1)] 2 = mkF m 0 #[.val (.ref x0), .val (.ref x1)] [] := by first | (simp [entryFrame, mkF, argsToLocals, Value.category]; done) | rfl
def Q8_1 (Z : State) (ob : Addr) (tk : Addr) (ot : Addr) (h0 : Heap) (n0 : Nat) (v : Option Value) (h : Heap) (L : List Loc) : Prop := v = none ∧ Fr n0 L ∧ Keep h0 h [ob, tk, ot] ∧ Fld Z h ob "com/example/evenkeel/evenkeel/TaskQueue" "first" "Lcom/example/evenkeel/evenkeel/QueuedTasks;" (.ref ot) ∧ Fld Z h ob "com/example/evenkeel/evenkeel/TaskQueue" "last" "Lcom/example/evenkeel/evenkeel/QueuedTasks;" (.ref ot) ∧ Fld Z h tk "com/example/evenkeel/evenkeel/QueuedTasks" "before" "Lcom/example/evenkeel/evenkeel/QueuedTasks;" .null ∧ Fld Z h tk "com/example/evenkeel/evenkeel/QueuedTasks" "after" "Lcom/example/evenkeel/evenkeel/QueuedTasks;" .null ∧ Fld Z h ot "com/example/evenkeel/evenkeel/QueuedTasks" "before" "Lcom/example/evenkeel/evenkeel/QueuedTasks;" .null ∧ Fld Z h ot "com/example/evenkeel/evenkeel/QueuedTasks" "after" "Lcom/example/evenkeel/evenkeel/QueuedTasks;" .null ∧ Exa Z h ot "com/example/evenkeel/evenkeel/QueuedTasks" ∧ Exa Z h ob "com/example/evenkeel/evenkeel/TaskQueue" ∧ Exa Z h tk "com/example/evenkeel/evenkeel/QueuedTasks"
set_option maxRecDepth 65536 in
set_option maxHeartbeats 40000000 in
theorem rm8_1 (l : Launch) (Z : State) (a0 : Array Value) (hw : ∀ d ∈ tables_1, d.before a0 Z = true) (ws : List Jvm.Cond) (ob : Addr) (tk : Addr) (ot : Addr) (h0 : Heap) (n0 : Nat) (Z0 : n0 ≤ h0.size) (I0 : Fld Z h0 tk "com/example/evenkeel/evenkeel/QueuedTasks" "after" "Lcom/example/evenkeel/evenkeel/QueuedTasks;" (.ref ot)) (I1 : Fld Z h0 ob "com/example/evenkeel/evenkeel/TaskQueue" "first" "Lcom/example/evenkeel/evenkeel/QueuedTasks;" (.ref tk)) (I2 : Fld Z h0 ob "com/example/evenkeel/evenkeel/TaskQueue" "last" "Lcom/example/evenkeel/evenkeel/QueuedTasks;" (.ref ot)) (I3 : Fld Z h0 tk "com/example/evenkeel/evenkeel/QueuedTasks" "before" "Lcom/example/evenkeel/evenkeel/QueuedTasks;" .null) (I4 : Fld Z h0 ot "com/example/evenkeel/evenkeel/QueuedTasks" "before" "Lcom/example/evenkeel/evenkeel/QueuedTasks;" (.ref tk)) (I5 : Fld Z h0 ot "com/example/evenkeel/evenkeel/QueuedTasks" "after" "Lcom/example/evenkeel/evenkeel/QueuedTasks;" .null) (I6 : Exa Z h0 ot "com/example/evenkeel/evenkeel/QueuedTasks") (I7 : Exa Z h0 ob "com/example/evenkeel/evenkeel/TaskQueue") (I8 : Exa Z h0 tk "com/example/evenkeel/evenkeel/QueuedTasks") (g_ob : n0 ≤ ob) (g_tk : n0 ≤ tk) (g_ot : n0 ≤ ot) (ne_ob_tk : ob ≠ tk) (ne_ob_ot : ob ≠ ot) (ne_tk_ot : tk ≠ ot) :
    MetFree l (⟨"com/example/evenkeel/evenkeel/TaskQueue", "remove", "(Lcom/example/evenkeel/evenkeel/QueuedTasks;)V"⟩ : MethodName) (head1 (Jvm.Cond.code (⟨"com/example/evenkeel/evenkeel/TaskQueue", "remove", "(Lcom/example/evenkeel/evenkeel/QueuedTasks;)V"⟩ : MethodName) prog_20_method_6_code 2 none :: ws) ({ frames := 0, cells := 0, slots := 0, locals := 0 } : Room)) (fun a U => a = #[(.ref ob), (.ref tk)] ∧ Z.Warmed39 U.vm ∧ U.heap = h0) (fun _ _ _ _ _ => True) (fun _ U o U' => ∃ v L, o = .returned v ∧ Q8_1 Z ob tk ot h0 n0 v U'.heap L ∧ FrameEnd U o U' L ({ frames := 0, cells := 0, slots := 0, locals := 0 } : Room).cells ({ frames := 0, cells := 0, slots := 0, locals := 0 } : Room).slots) := by
  refine MetFree.of_bodySF (plainFor_of_name pn_8) hisR ?_
  intro p e s m args below meth c s₁ Bd hml0 hP hK
  obtain ⟨rfl, hZ, hh⟩ := hP
  have hx := Bd.exec
  have hby := Bd.bytes
  have hml : c.maxLocals = 2 := hml0
  have hown : s.vm.findClass "com/example/evenkeel/evenkeel/TaskQueue" = some m.cls := findClass_of_methodNamed Bd.named
  have hnm := (name_of_methodNamed Bd.named Bd.method).1
  have X0 : Stand p l e ({ frames := 0, cells := 0, slots := 0, locals := 0 } : Room) s m #[(.ref ob), (.ref tk)] below meth c s₁ [] 0 0 := Stand.of_body Bd
  have e0 : s₁.heap = h0 := by rw [← hh, Bd.state]; rfl
  have N0 := Fr.nil n0
  have K0 : Keep h0 h0 [ob, tk, ot] := Keep.refl h0 _
  have pre0 : ∀ tq, Steps p.tables e below (s₁.setTop (mkF m 0 #[.val (.ref ob), .val (.ref tk)] [])) tq → Steps p.tables e below (s₁.setTop (entryFrame m #[(.ref ob), (.ref tk)] 2)) tq := fun tq kq => castTop (ef_8_1 m ob tk) kq
  obtain ⟨T1, X1, e1, st1⟩ := getF X0 hx hZ hown (host := "") (Or.inl (hw _ (List.mem_of_getElem? (i := 56) rfl))) Via.refl e0 I3 (g := (mkF m 1 #[.val (.ref ob), .val (.ref tk)] [(.ref tk)])) rfl rfl (hb hby d8_1)
  obtain ⟨T2, X2, e2, st2⟩ := getF X1 hx hZ hown (host := "") (Or.inl (hw _ (List.mem_of_getElem? (i := 47) rfl))) Via.refl e1 I0 (g := (mkF m 9 #[.val (.ref ob), .val (.ref tk)] [(.ref tk), (.ref ob)])) rfl rfl (hb hby d8_9)
  obtain ⟨T3, hX3, X3, e3, W3, st3⟩ := putF X2 hx hZ hown (host := "") (Or.inl (hw _ (List.mem_of_getElem? (i := 36) rfl))) Via.refl e2 I1 I7 (Or.inl (hw _ (List.mem_of_getElem? (i := 37) rfl))) (hw _ (List.mem_of_getElem? (i := 1) rfl)) (ty := (.object "com/example/evenkeel/evenkeel/QueuedTasks")) (by decide) rfl rfl (g := (mkF m 12 #[.val (.ref ob), .val (.ref tk)] [(.ref ot), (.ref ob)])) rfl rfl (hb hby d8_12)
  have N3 := Fr.snoc X3 N0 g_ob
  have F4 : Fld Z hX3 ob "com/example/evenkeel/evenkeel/TaskQueue" "first" "Lcom/example/evenkeel/evenkeel/QueuedTasks;" (.ref ot) := I1.same W3
  have F5 : Fld Z hX3 tk "com/example/evenkeel/evenkeel/QueuedTasks" "after" "Lcom/example/evenkeel/evenkeel/QueuedTasks;" (.ref ot) := I0.other W3 (Or.inl (Ne.symm ne_ob_tk))
  have F6 : Fld Z hX3 ob "com/example/evenkeel/evenkeel/TaskQueue" "last" "Lcom/example/evenkeel/evenkeel/QueuedTasks;" (.ref ot) := I2.other W3 (Or.inr (slot_ne (Or.inl (hw _ (List.mem_of_getElem? (i := 50) rfl))) (Or.inl (hw _ (List.mem_of_getElem? (i := 37) rfl))) (by decide) (t := (.object "com/example/evenkeel/evenkeel/QueuedTasks")) (t' := (.object "com/example/evenkeel/evenkeel/QueuedTasks")) (by decide) (by decide)))
  have F7 : Fld Z hX3 tk "com/example/evenkeel/evenkeel/QueuedTasks" "before" "Lcom/example/evenkeel/evenkeel/QueuedTasks;" .null := I3.other W3 (Or.inl (Ne.symm ne_ob_tk))
  have F8 : Fld Z hX3 ot "com/example/evenkeel/evenkeel/QueuedTasks" "before" "Lcom/example/evenkeel/evenkeel/QueuedTasks;" (.ref tk) := I4.other W3 (Or.inl (Ne.symm ne_ob_ot))
  have F9 : Fld Z hX3 ot "com/example/evenkeel/evenkeel/QueuedTasks" "after" "Lcom/example/evenkeel/evenkeel/QueuedTasks;" .null := I5.other W3 (Or.inl (Ne.symm ne_ob_ot))
  have F10 : Exa Z hX3 ot "com/example/evenkeel/evenkeel/QueuedTasks" := I6.wr W3
  have F11 : Exa Z hX3 ob "com/example/evenkeel/evenkeel/TaskQueue" := I7.wr W3
  have F12 : Exa Z hX3 tk "com/example/evenkeel/evenkeel/QueuedTasks" := I8.wr W3
  have Z13 : n0 ≤ hX3.size := Nat.le_trans Z0 (Keep.of_wr W3).1
  have K14 : Keep h0 hX3 [ob, tk, ot] := K0.wr W3 (Or.inl (List.mem_of_getElem? (i := 0) rfl))
  obtain ⟨T15, X15, e15, st15⟩ := getF X3 hx hZ hown (host := "") (Or.inl (hw _ (List.mem_of_getElem? (i := 47) rfl))) Via.refl e3 F5 (g := (mkF m 30 #[.val (.ref ob), .val (.ref tk)] [(.ref tk)])) rfl rfl (hb hby d8_30)
  obtain ⟨T16, X16, e16, st16⟩ := getF X15 hx hZ hown (host := "") (Or.inl (hw _ (List.mem_of_getElem? (i := 47) rfl))) Via.refl e15 F5 (g := (mkF m 48 #[.val (.ref ob), .val (.ref tk)] [(.ref tk)])) rfl rfl (hb hby d8_48)
  obtain ⟨T17, X17, e17, st17⟩ := getF X16 hx hZ hown (host := "") (Or.inl (hw _ (List.mem_of_getElem? (i := 56) rfl))) Via.refl e16 F7 (g := (mkF m 52 #[.val (.ref ob), .val (.ref tk)] [(.ref tk), (.ref ot)])) rfl rfl (hb hby d8_52)
  obtain ⟨T18, hX18, X18, e18, W18, st18⟩ := putF X17 hx hZ hown (host := "") (Or.inl (hw _ (List.mem_of_getElem? (i := 56) rfl))) Via.refl e17 F8 F10 (Or.inl (hw _ (List.mem_of_getElem? (i := 57) rfl))) (hw _ (List.mem_of_getElem? (i := 11) rfl)) (ty := (.object "com/example/evenkeel/evenkeel/QueuedTasks")) (by decide) rfl rfl (g := (mkF m 55 #[.val (.ref ob), .val (.ref tk)] [.null, (.ref ot)])) rfl rfl (hb hby d8_55)
  have N18 := Fr.snoc X18 N3 g_ot
  have F19 : Fld Z hX18 ot "com/example/evenkeel/evenkeel/QueuedTasks" "before" "Lcom/example/evenkeel/evenkeel/QueuedTasks;" .null := F8.same W18
  have F20 : Fld Z hX18 tk "com/example/evenkeel/evenkeel/QueuedTasks" "after" "Lcom/example/evenkeel/evenkeel/QueuedTasks;" (.ref ot) := F5.other W18 (Or.inl ne_tk_ot)
  have F21 : Fld Z hX18 ob "com/example/evenkeel/evenkeel/TaskQueue" "last" "Lcom/example/evenkeel/evenkeel/QueuedTasks;" (.ref ot) := F6.other W18 (Or.inl ne_ob_ot)
  have F22 : Fld Z hX18 tk "com/example/evenkeel/evenkeel/QueuedTasks" "before" "Lcom/example/evenkeel/evenkeel/QueuedTasks;" .null := F7.other W18 (Or.inl ne_tk_ot)
  have F23 : Fld Z hX18 ot "com/example/evenkeel/evenkeel/QueuedTasks" "after" "Lcom/example/evenkeel/evenkeel/QueuedTasks;" .null := F9.other W18 (Or.inr (slot_ne (Or.inl (hw _ (List.mem_of_getElem? (i := 48) rfl))) (Or.inl (hw _ (List.mem_of_getElem? (i := 57) rfl))) (by decide) (t := (.object "com/example/evenkeel/evenkeel/QueuedTasks")) (t' := (.object "com/example/evenkeel/evenkeel/QueuedTasks")) (by decide) (by decide)))
  have F24 : Exa Z hX18 ot "com/example/evenkeel/evenkeel/QueuedTasks" := F10.wr W18
  have F25 : Exa Z hX18 ob "com/example/evenkeel/evenkeel/TaskQueue" := F11.wr W18
  have F26 : Exa Z hX18 tk "com/example/evenkeel/evenkeel/QueuedTasks" := F12.wr W18
  have F27 : Fld Z hX18 ob "com/example/evenkeel/evenkeel/TaskQueue" "first" "Lcom/example/evenkeel/evenkeel/QueuedTasks;" (.ref ot) := F4.other W18 (Or.inl ne_ob_ot)
  have Z28 : n0 ≤ hX18.size := Nat.le_trans Z13 (Keep.of_wr W18).1
  have K29 : Keep h0 hX18 [ob, tk, ot] := K14.wr W18 (Or.inl (List.mem_of_getElem? (i := 2) rfl))
  obtain ⟨T30, hX30, X30, e30, W30, st30⟩ := putF X18 hx hZ hown (host := "") (Or.inl (hw _ (List.mem_of_getElem? (i := 56) rfl))) Via.refl e18 F22 F26 (Or.inl (hw _ (List.mem_of_getElem? (i := 57) rfl))) (hw _ (List.mem_of_getElem? (i := 11) rfl)) (ty := (.object "com/example/evenkeel/evenkeel/QueuedTasks")) (by decide) rfl rfl (g := (mkF m 60 #[.val (.ref ob), .val (.ref tk)] [.null, (.ref tk)])) rfl rfl (hb hby d8_60)
  have N30 := Fr.snoc X30 N18 g_tk
  have F31 : Fld Z hX30 tk "com/example/evenkeel/evenkeel/QueuedTasks" "before" "Lcom/example/evenkeel/evenkeel/QueuedTasks;" .null := F22.same W30
  have F32 : Fld Z hX30 tk "com/example/evenkeel/evenkeel/QueuedTasks" "after" "Lcom/example/evenkeel/evenkeel/QueuedTasks;" (.ref ot) := F20.other W30 (Or.inr (slot_ne (Or.inl (hw _ (List.mem_of_getElem? (i := 48) rfl))) (Or.inl (hw _ (List.mem_of_getElem? (i := 57) rfl))) (by decide) (t := (.object "com/example/evenkeel/evenkeel/QueuedTasks")) (t' := (.object "com/example/evenkeel/evenkeel/QueuedTasks")) (by decide) (by decide)))
  have F33 : Fld Z hX30 ob "com/example/evenkeel/evenkeel/TaskQueue" "last" "Lcom/example/evenkeel/evenkeel/QueuedTasks;" (.ref ot) := F21.other W30 (Or.inl ne_ob_tk)
  have F34 : Fld Z hX30 ot "com/example/evenkeel/evenkeel/QueuedTasks" "after" "Lcom/example/evenkeel/evenkeel/QueuedTasks;" .null := F23.other W30 (Or.inl (Ne.symm ne_tk_ot))
  have F35 : Exa Z hX30 ot "com/example/evenkeel/evenkeel/QueuedTasks" := F24.wr W30
  have F36 : Exa Z hX30 ob "com/example/evenkeel/evenkeel/TaskQueue" := F25.wr W30
  have F37 : Exa Z hX30 tk "com/example/evenkeel/evenkeel/QueuedTasks" := F26.wr W30
  have F38 : Fld Z hX30 ob "com/example/evenkeel/evenkeel/TaskQueue" "first" "Lcom/example/evenkeel/evenkeel/QueuedTasks;" (.ref ot) := F27.other W30 (Or.inl ne_ob_tk)
  have F39 : Fld Z hX30 ot "com/example/evenkeel/evenkeel/QueuedTasks" "before" "Lcom/example/evenkeel/evenkeel/QueuedTasks;" .null := F19.other W30 (Or.inl (Ne.symm ne_tk_ot))
  have Z40 : n0 ≤ hX30.size := Nat.le_trans Z28 (Keep.of_wr W30).1
  have K41 : Keep h0 hX30 [ob, tk, ot] := K29.wr W30 (Or.inl (List.mem_of_getElem? (i := 1) rfl))
  obtain ⟨T42, hX42, X42, e42, W42, st42⟩ := putF X30 hx hZ hown (host := "") (Or.inl (hw _ (List.mem_of_getElem? (i := 47) rfl))) Via.refl e30 F32 F37 (Or.inl (hw _ (List.mem_of_getElem? (i := 48) rfl))) (hw _ (List.mem_of_getElem? (i := 11) rfl)) (ty := (.object "com/example/evenkeel/evenkeel/QueuedTasks")) (by decide) rfl rfl (g := (mkF m 65 #[.val (.ref ob), .val (.ref tk)] [.null, (.ref tk)])) rfl rfl (hb hby d8_65)
  have N42 := Fr.snoc X42 N30 g_tk
  have F43 : Fld Z hX42 tk "com/example/evenkeel/evenkeel/QueuedTasks" "after" "Lcom/example/evenkeel/evenkeel/QueuedTasks;" .null := F32.same W42
  have F44 : Fld Z hX42 ob "com/example/evenkeel/evenkeel/TaskQueue" "last" "Lcom/example/evenkeel/evenkeel/QueuedTasks;" (.ref ot) := F33.other W42 (Or.inl ne_ob_tk)
  have F45 : Fld Z hX42 ot "com/example/evenkeel/evenkeel/QueuedTasks" "after" "Lcom/example/evenkeel/evenkeel/QueuedTasks;" .null := F34.other W42 (Or.inl (Ne.symm ne_tk_ot))
  have F46 : Exa Z hX42 ot "com/example/evenkeel/evenkeel/QueuedTasks" := F35.wr W42
  have F47 : Exa Z hX42 ob "com/example/evenkeel/evenkeel/TaskQueue" := F36.wr W42
  have F48 : Exa Z hX42 tk "com/example/evenkeel/evenkeel/QueuedTasks" := F37.wr W42
  have F49 : Fld Z hX42 ob "com/example/evenkeel/evenkeel/TaskQueue" "first" "Lcom/example/evenkeel/evenkeel/QueuedTasks;" (.ref ot) := F38.other W42 (Or.inl ne_ob_tk)
  have F50 : Fld Z hX42 ot "com/example/evenkeel/evenkeel/QueuedTasks" "before" "Lcom/example/evenkeel/evenkeel/QueuedTasks;" .null := F39.other W42 (Or.inl (Ne.symm ne_tk_ot))
  have F51 : Fld Z hX42 tk "com/example/evenkeel/evenkeel/QueuedTasks" "before" "Lcom/example/evenkeel/evenkeel/QueuedTasks;" .null := F31.other W42 (Or.inr (slot_ne (Or.inl (hw _ (List.mem_of_getElem? (i := 57) rfl))) (Or.inl (hw _ (List.mem_of_getElem? (i := 48) rfl))) (by decide) (t := (.object "com/example/evenkeel/evenkeel/QueuedTasks")) (t' := (.object "com/example/evenkeel/evenkeel/QueuedTasks")) (by decide) (by decide)))
  have Z52 : n0 ≤ hX42.size := Nat.le_trans Z40 (Keep.of_wr W42).1
  have K53 : Keep h0 hX42 [ob, tk, ot] := K41.wr W42 (Or.inl (List.mem_of_getElem? (i := 1) rfl))
  obtain ⟨fs, hr, hrun, hended, hW, hsame⟩ := X42.leave (v := none) (fun _ => rfl)
  refine ⟨_, _, pre0 _ ?_, hrun, hended, _, _, rfl, ?_, ⟨_, rfl⟩, hW, hsame.mono (by decide) (by decide)⟩
  · skip
    show Steps p.tables e below (s₁.setTop (mkF m 0 #[.val (.ref ob), .val (.ref tk)] [])) _
    refine XS.aloadN X0.here hx rfl (hb hby d8_0) rfl rfl ?_
    show Steps p.tables e below (s₁.setTop (mkF m 1 #[.val (.ref ob), .val (.ref tk)] [(.ref tk)])) _
    refine st1 _ ?_
    show Steps p.tables e below (T1.setTop (mkF m 4 #[.val (.ref ob), .val (.ref tk)] [.null])) _
    refine XS.ifnonnullNo X1.here hx rfl (hb hby d8_4) rfl ?_
    show Steps p.tables e below (T1.setTop (mkF m 7 #[.val (.ref ob), .val (.ref tk)] [])) _
    refine XS.aloadN X1.here hx rfl (hb hby d8_7) rfl rfl ?_
    show Steps p.tables e below (T1.setTop (mkF m 8 #[.val (.ref ob), .val (.ref tk)] [(.ref ob)])) _
    refine XS.aloadN X1.here hx rfl (hb hby d8_8) rfl rfl ?_
    show Steps p.tables e below (T1.setTop (mkF m 9 #[.val (.ref ob), .val (.ref tk)] [(.ref tk), (.ref ob)])) _
    refine st2 _ ?_
    show Steps p.tables e below (T2.setTop (mkF m 12 #[.val (.ref ob), .val (.ref tk)] [(.ref ot), (.ref ob)])) _
    refine st3 _ ?_
    show Steps p.tables e below (T3.setTop (mkF m 15 #[.val (.ref ob), .val (.ref tk)] [])) _
    refine XS.goto X3.here hx rfl (pc0 := 15) (pc' := 29) rfl (hb hby d8_15) (by decide) (by decide) ?_
    show Steps p.tables e below (T3.setTop (mkF m 29 #[.val (.ref ob), .val (.ref tk)] [])) _
    refine XS.aloadN X3.here hx rfl (hb hby d8_29) rfl rfl ?_
    show Steps p.tables e below (T3.setTop (mkF m 30 #[.val (.ref ob), .val (.ref tk)] [(.ref tk)])) _
    refine st15 _ ?_
    show Steps p.tables e below (T15.setTop (mkF m 33 #[.val (.ref ob), .val (.ref tk)] [(.ref ot)])) _
    refine XS.ifnonnullYes X15.here hx rfl (pc0 := 33) (pc' := 47) rfl (hb hby d8_33) rfl (by decide) (by decide) ?_
    show Steps p.tables e below (T15.setTop (mkF m 47 #[.val (.ref ob), .val (.ref tk)] [])) _
    refine XS.aloadN X15.here hx rfl (hb hby d8_47) rfl rfl ?_
    show Steps p.tables e below (T15.setTop (mkF m 48 #[.val (.ref ob), .val (.ref tk)] [(.ref tk)])) _
    refine st16 _ ?_
    show Steps p.tables e below (T16.setTop (mkF m 51 #[.val (.ref ob), .val (.ref tk)] [(.ref ot)])) _
    refine XS.aloadN X16.here hx rfl (hb hby d8_51) rfl rfl ?_
    show Steps p.tables e below (T16.setTop (mkF m 52 #[.val (.ref ob), .val (.ref tk)] [(.ref tk), (.ref ot)])) _
    refine st17 _ ?_
    show Steps p.tables e below (T17.setTop (mkF m 55 #[.val (.ref ob), .val (.ref tk)] [.null, (.ref ot)])) _
    refine st18 _ ?_
    show Steps p.tables e below (T18.setTop (mkF m 58 #[.val (.ref ob), .val (.ref tk)] [])) _
    refine XS.aloadN X18.here hx rfl (hb hby d8_58) rfl rfl ?_
    show Steps p.tables e below (T18.setTop (mkF m 59 #[.val (.ref ob), .val (.ref tk)] [(.ref tk)])) _
    refine XS.aconstNull X18.here hx rfl (hb hby d8_59) ?_
    show Steps p.tables e below (T18.setTop (mkF m 60 #[.val (.ref ob), .val (.ref tk)] [.null, (.ref tk)])) _
    refine st30 _ ?_
    show Steps p.tables e below (T30.setTop (mkF m 63 #[.val (.ref ob), .val (.ref tk)] [])) _
    refine XS.aloadN X30.here hx rfl (hb hby d8_63) rfl rfl ?_
    show Steps p.tables e below (T30.setTop (mkF m 64 #[.val (.ref ob), .val (.ref tk)] [(.ref tk)])) _
    refine XS.aconstNull X30.here hx rfl (hb hby d8_64) ?_
    show Steps p.tables e below (T30.setTop (mkF m 65 #[.val (.ref ob), .val (.ref tk)] [.null, (.ref tk)])) _
    refine st42 _ ?_
    show Steps p.tables e below (T42.setTop (mkF m 68 #[.val (.ref ob), .val (.ref tk)] [])) _
    exact X42.returnOut hx Bd.returns (hb hby d8_68) hr
  · show Q8_1 Z ob tk ot h0 n0 _ T42.heap _
    rw [e42]
    exact ⟨rfl, N42, K53, F49, F44, F51, F43, F50, F45, F46, F47, F48⟩
theorem d8_18 : decode prog_20_method_6_code 18 = .ok (.aload_n 1, 1) := by decide +kernel
theorem d8_19 : decode prog_20_method_6_code 19 = .ok (.getfield 21, 3) := by decide +kernel
theorem d8_22 : decode prog_20_method_6_code 22 = .ok (.aload_n 1, 1) := by decide +kernel
theorem d8_23 : decode prog_20_method_6_code 23 = .ok (.getfield 13, 3) := by decide +kernel
theorem d8_26 : decode prog_20_method_6_code 26 = .ok (.putfield 13, 3) := by decide +kernel
theorem ef_8_2 (m : MethodId) (x0 : Addr) (x1 : Addr) : entryFrame m #[(.ref x0), (.ref x1)] 2 = mkF m 0 #[.val (.ref x0), .val (.ref x1)] [] := by first | (simp [entryFrame, mkF, argsToLocals, Value.category]; done) | rfl
def Q8_2 (Z : State) (ob : Addr) (tk : Addr) (ot : Addr) (h0 : Heap) (n0 : Nat) (v : Option Value) (h : Heap) (L : List Loc) : Prop := v = none ∧ Fr n0 L ∧ Keep h0 h [ob, tk, ot] ∧ Fld Z h ob "com/example/evenkeel/evenkeel/TaskQueue" "first" "Lcom/example/evenkeel/evenkeel/QueuedTasks;" (.ref ot) ∧ Fld Z h ob "com/example/evenkeel/evenkeel/TaskQueue" "last" "Lcom/example/evenkeel/evenkeel/QueuedTasks;" (.ref ot) ∧ Fld Z h tk "com/example/evenkeel/evenkeel/QueuedTasks" "before" "Lcom/example/evenkeel/evenkeel/QueuedTasks;" .null ∧ Fld Z h tk "com/example/evenkeel/evenkeel/QueuedTasks" "after" "Lcom/example/evenkeel/evenkeel/QueuedTasks;" .null ∧ Fld Z h ot "com/example/evenkeel/evenkeel/QueuedTasks" "before" "Lcom/example/evenkeel/evenkeel/QueuedTasks;" .null ∧ Fld Z h ot "com/example/evenkeel/evenkeel/QueuedTasks" "after" "Lcom/example/evenkeel/evenkeel/QueuedTasks;" .null ∧ Exa Z h ot "com/example/evenkeel/evenkeel/QueuedTasks" ∧ Exa Z h ob "com/example/evenkeel/evenkeel/TaskQueue" ∧ Exa Z h tk "com/example/evenkeel/evenkeel/QueuedTasks"
set_option maxRecDepth 65536 in
set_option maxHeartbeats 40000000 in
theorem rm8_2 (l : Launch) (Z : State) (a0 : Array Value) (hw : ∀ d ∈ tables_1, d.before a0 Z = true) (ws : List Jvm.Cond) (ob : Addr) (tk : Addr) (ot : Addr) (h0 : Heap) (n0 : Nat) (Z0 : n0 ≤ h0.size) (I0 : Fld Z h0 tk "com/example/evenkeel/evenkeel/QueuedTasks" "before" "Lcom/example/evenkeel/evenkeel/QueuedTasks;" (.ref ot)) (I1 : Fld Z h0 ob "com/example/evenkeel/evenkeel/TaskQueue" "first" "Lcom/example/evenkeel/evenkeel/QueuedTasks;" (.ref ot)) (I2 : Fld Z h0 ob "com/example/evenkeel/evenkeel/TaskQueue" "last" "Lcom/example/evenkeel/evenkeel/QueuedTasks;" (.ref tk)) (I3 : Fld Z h0 tk "com/example/evenkeel/evenkeel/QueuedTasks" "after" "Lcom/example/evenkeel/evenkeel/QueuedTasks;" .null) (I4 : Fld Z h0 ot "com/example/evenkeel/evenkeel/QueuedTasks" "before" "Lcom/example/evenkeel/evenkeel/QueuedTasks;" .null) (I5 : Fld Z h0 ot "com/example/evenkeel/evenkeel/QueuedTasks" "after" "Lcom/example/evenkeel/evenkeel/QueuedTasks;" (.ref tk)) (I6 : Exa Z h0 ot "com/example/evenkeel/evenkeel/QueuedTasks") (I7 : Exa Z h0 ob "com/example/evenkeel/evenkeel/TaskQueue") (I8 : Exa Z h0 tk "com/example/evenkeel/evenkeel/QueuedTasks") (g_ob : n0 ≤ ob) (g_tk : n0 ≤ tk) (g_ot : n0 ≤ ot) (ne_ob_tk : ob ≠ tk) (ne_ob_ot : ob ≠ ot) (ne_tk_ot : tk ≠ ot) :
    MetFree l (⟨"com/example/evenkeel/evenkeel/TaskQueue", "remove", "(Lcom/example/evenkeel/evenkeel/QueuedTasks;)V"⟩ : MethodName) (head1 (Jvm.Cond.code (⟨"com/example/evenkeel/evenkeel/TaskQueue", "remove", "(Lcom/example/evenkeel/evenkeel/QueuedTasks;)V"⟩ : MethodName) prog_20_method_6_code 2 none :: ws) ({ frames := 0, cells := 0, slots := 0, locals := 0 } : Room)) (fun a U => a = #[(.ref ob), (.ref tk)] ∧ Z.Warmed39 U.vm ∧ U.heap = h0) (fun _ _ _ _ _ => True) (fun _ U o U' => ∃ v L, o = .returned v ∧ Q8_2 Z ob tk ot h0 n0 v U'.heap L ∧ FrameEnd U o U' L ({ frames := 0, cells := 0, slots := 0, locals := 0 } : Room).cells ({ frames := 0, cells := 0, slots := 0, locals := 0 } : Room).slots) := by
  refine MetFree.of_bodySF (plainFor_of_name pn_8) hisR ?_
  intro p e s m args below meth c s₁ Bd hml0 hP hK
  obtain ⟨rfl, hZ, hh⟩ := hP
  have hx := Bd.exec
  have hby := Bd.bytes
  have hml : c.maxLocals = 2 := hml0
  have hown : s.vm.findClass "com/example/evenkeel/evenkeel/TaskQueue" = some m.cls := findClass_of_methodNamed Bd.named
  have hnm := (name_of_methodNamed Bd.named Bd.method).1
  have X0 : Stand p l e ({ frames := 0, cells := 0, slots := 0, locals := 0 } : Room) s m #[(.ref ob), (.ref tk)] below meth c s₁ [] 0 0 := Stand.of_body Bd
  have e0 : s₁.heap = h0 := by rw [← hh, Bd.state]; rfl
  have N0 := Fr.nil n0
  have K0 : Keep h0 h0 [ob, tk, ot] := Keep.refl h0 _
  have pre0 : ∀ tq, Steps p.tables e below (s₁.setTop (mkF m 0 #[.val (.ref ob), .val (.ref tk)] [])) tq → Steps p.tables e below (s₁.setTop (entryFrame m #[(.ref ob), (.ref tk)] 2)) tq := fun tq kq => castTop (ef_8_2 m ob tk) kq
  obtain ⟨T1, X1, e1, st1⟩ := getF X0 hx hZ hown (host := "") (Or.inl (hw _ (List.mem_of_getElem? (i := 56) rfl))) Via.refl e0 I0 (g := (mkF m 1 #[.val (.ref ob), .val (.ref tk)] [(.ref tk)])) rfl rfl (hb hby d8_1)
  obtain ⟨T2, X2, e2, st2⟩ := getF X1 hx hZ hown (host := "") (Or.inl (hw _ (List.mem_of_getElem? (i := 56) rfl))) Via.refl e1 I0 (g := (mkF m 19 #[.val (.ref ob), .val (.ref tk)] [(.ref tk)])) rfl rfl (hb hby d8_19)
  obtain ⟨T3, X3, e3, st3⟩ := getF X2 hx hZ hown (host := "") (Or.inl (hw _ (List.mem_of_getElem? (i := 47) rfl))) Via.refl e2 I3 (g := (mkF m 23 #[.val (.ref ob), .val (.ref tk)] [(.ref tk), (.ref ot)])) rfl rfl (hb hby d8_23)
  obtain ⟨T4, hX4, X4, e4, W4, st4⟩ := putF X3 hx hZ hown (host := "") (Or.inl (hw _ (List.mem_of_getElem? (i := 47) rfl))) Via.refl e3 I5 I6 (Or.inl (hw _ (List.mem_of_getElem? (i := 48) rfl))) (hw _ (List.mem_of_getElem? (i := 11) rfl)) (ty := (.object "com/example/evenkeel/evenkeel/QueuedTasks")) (by decide) rfl rfl (g := (mkF m 26 #[.val (.ref ob), .val (.ref tk)] [.null, (.ref ot)])) rfl rfl (hb hby d8_26)
  have N4 := Fr.snoc X4 N0 g_ot
  have F5 : Fld Z hX4 ot "com/example/evenkeel/evenkeel/QueuedTasks" "after" "Lcom/example/evenkeel/evenkeel/QueuedTasks;" .null := I5.same W4
  have F6 : Fld Z hX4 tk "com/example/evenkeel/evenkeel/QueuedTasks" "before" "Lcom/example/evenkeel/evenkeel/QueuedTasks;" (.ref ot) := I0.other W4 (Or.inl ne_tk_ot)
  have F7 : Fld Z hX4 ob "com/example/evenkeel/evenkeel/TaskQueue" "first" "Lcom/example/evenkeel/evenkeel/QueuedTasks;" (.ref ot) := I1.other W4 (Or.inl ne_ob_ot)
  have F8 : Fld Z hX4 ob "com/example/evenkeel/evenkeel/TaskQueue" "last" "Lcom/example/evenkeel/evenkeel/QueuedTasks;" (.ref tk) := I2.other W4 (Or.inl ne_ob_ot)
  have F9 : Fld Z hX4 tk "com/example/evenkeel/evenkeel/QueuedTasks" "after" "Lcom/example/evenkeel/evenkeel/QueuedTasks;" .null := I3.other W4 (Or.inl ne_tk_ot)
  have F10 : Fld Z hX4 ot "com/example/evenkeel/evenkeel/QueuedTasks" "before" "Lcom/example/evenkeel/evenkeel/QueuedTasks;" .null := I4.other W4 (Or.inr (slot_ne (Or.inl (hw _ (List.mem_of_getElem? (i := 57) rfl))) (Or.inl (hw _ (List.mem_of_getElem? (i := 48) rfl))) (by decide) (t := (.object "com/example/evenkeel/evenkeel/QueuedTasks")) (t' := (.object "com/example/evenkeel/evenkeel/QueuedTasks")) (by decide) (by decide)))
  have F11 : Exa Z hX4 ot "com/example/evenkeel/evenkeel/QueuedTasks" := I6.wr W4
  have F12 : Exa Z hX4 ob "com/example/evenkeel/evenkeel/TaskQueue" := I7.wr W4
  have F13 : Exa Z hX4 tk "com/example/evenkeel/evenkeel/QueuedTasks" := I8.wr W4
  have Z14 : n0 ≤ hX4.size := Nat.le_trans Z0 (Keep.of_wr W4).1
  have K15 : Keep h0 hX4 [ob, tk, ot] := K0.wr W4 (Or.inl (List.mem_of_getElem? (i := 2) rfl))
  obtain ⟨T16, X16, e16, st16⟩ := getF X4 hx hZ hown (host := "") (Or.inl (hw _ (List.mem_of_getElem? (i := 47) rfl))) Via.refl e4 F9 (g := (mkF m 30 #[.val (.ref ob), .val (.ref tk)] [(.ref tk)])) rfl rfl (hb hby d8_30)
  obtain ⟨T17, X17, e17, st17⟩ := getF X16 hx hZ hown (host := "") (Or.inl (hw _ (List.mem_of_getElem? (i := 56) rfl))) Via.refl e16 F6 (g := (mkF m 38 #[.val (.ref ob), .val (.ref tk)] [(.ref tk), (.ref ob)])) rfl rfl (hb hby d8_38)
  obtain ⟨T18, hX18, X18, e18, W18, st18⟩ := putF X17 hx hZ hown (host := "") (Or.inl (hw _ (List.mem_of_getElem? (i := 49) rfl))) Via.refl e17 F8 F12 (Or.inl (hw _ (List.mem_of_getElem? (i := 50) rfl))) (hw _ (List.mem_of_getElem? (i := 1) rfl)) (ty := (.object "com/example/evenkeel/evenkeel/QueuedTasks")) (by decide) rfl rfl (g := (mkF m 41 #[.val (.ref ob), .val (.ref tk)] [(.ref ot), (.ref ob)])) rfl rfl (hb hby d8_41)
  have N18 := Fr.snoc X18 N4 g_ob
  have F19 : Fld Z hX18 ob "com/example/evenkeel/evenkeel/TaskQueue" "last" "Lcom/example/evenkeel/evenkeel/QueuedTasks;" (.ref ot) := F8.same W18
  have F20 : Fld Z hX18 tk "com/example/evenkeel/evenkeel/QueuedTasks" "before" "Lcom/example/evenkeel/evenkeel/QueuedTasks;" (.ref ot) := F6.other W18 (Or.inl (Ne.symm ne_ob_tk))
  have F21 : Fld Z hX18 ob "com/example/evenkeel/evenkeel/TaskQueue" "first" "Lcom/example/evenkeel/evenkeel/QueuedTasks;" (.ref ot) := F7.other W18 (Or.inr (slot_ne (Or.inl (hw _ (List.mem_of_getElem? (i := 37) rfl))) (Or.inl (hw _ (List.mem_of_getElem? (i := 50) rfl))) (by decide) (t := (.object "com/example/evenkeel/evenkeel/QueuedTasks")) (t' := (.object "com/example/evenkeel/evenkeel/QueuedTasks")) (by decide) (by decide)))
  have F22 : Fld Z hX18 tk "com/example/evenkeel/evenkeel/QueuedTasks" "after" "Lcom/example/evenkeel/evenkeel/QueuedTasks;" .null := F9.other W18 (Or.inl (Ne.symm ne_ob_tk))
  have F23 : Fld Z hX18 ot "com/example/evenkeel/evenkeel/QueuedTasks" "before" "Lcom/example/evenkeel/evenkeel/QueuedTasks;" .null := F10.other W18 (Or.inl (Ne.symm ne_ob_ot))
  have F24 : Exa Z hX18 ot "com/example/evenkeel/evenkeel/QueuedTasks" := F11.wr W18
  have F25 : Exa Z hX18 ob "com/example/evenkeel/evenkeel/TaskQueue" := F12.wr W18
  have F26 : Exa Z hX18 tk "com/example/evenkeel/evenkeel/QueuedTasks" := F13.wr W18
  have F27 : Fld Z hX18 ot "com/example/evenkeel/evenkeel/QueuedTasks" "after" "Lcom/example/evenkeel/evenkeel/QueuedTasks;" .null := F5.other W18 (Or.inl (Ne.symm ne_ob_ot))
  have Z28 : n0 ≤ hX18.size := Nat.le_trans Z14 (Keep.of_wr W18).1
  have K29 : Keep h0 hX18 [ob, tk, ot] := K15.wr W18 (Or.inl (List.mem_of_getElem? (i := 0) rfl))
  obtain ⟨T30, hX30, X30, e30, W30, st30⟩ := putF X18 hx hZ hown (host := "") (Or.inl (hw _ (List.mem_of_getElem? (i := 56) rfl))) Via.refl e18 F20 F26 (Or.inl (hw _ (List.mem_of_getElem? (i := 57) rfl))) (hw _ (List.mem_of_getElem? (i := 11) rfl)) (ty := (.object "com/example/evenkeel/evenkeel/QueuedTasks")) (by decide) rfl rfl (g := (mkF m 60 #[.val (.ref ob), .val (.ref tk)] [.null, (.ref tk)])) rfl rfl (hb hby d8_60)
  have N30 := Fr.snoc X30 N18 g_tk
  have F31 : Fld Z hX30 tk "com/example/evenkeel/evenkeel/QueuedTasks" "before" "Lcom/example/evenkeel/evenkeel/QueuedTasks;" .null := F20.same W30
  have F32 : Fld Z hX30 ob "com/example/evenkeel/evenkeel/TaskQueue" "first" "Lcom/example/evenkeel/evenkeel/QueuedTasks;" (.ref ot) := F21.other W30 (Or.inl ne_ob_tk)
  have F33 : Fld Z hX30 tk "com/example/evenkeel/evenkeel/QueuedTasks" "after" "Lcom/example/evenkeel/evenkeel/QueuedTasks;" .null := F22.other W30 (Or.inr (slot_ne (Or.inl (hw _ (List.mem_of_getElem? (i := 48) rfl))) (Or.inl (hw _ (List.mem_of_getElem? (i := 57) rfl))) (by decide) (t := (.object "com/example/evenkeel/evenkeel/QueuedTasks")) (t' := (.object "com/example/evenkeel/evenkeel/QueuedTasks")) (by decide) (by decide)))
  have F34 : Fld Z hX30 ot "com/example/evenkeel/evenkeel/QueuedTasks" "before" "Lcom/example/evenkeel/evenkeel/QueuedTasks;" .null := F23.other W30 (Or.inl (Ne.symm ne_tk_ot))
  have F35 : Exa Z hX30 ot "com/example/evenkeel/evenkeel/QueuedTasks" := F24.wr W30
  have F36 : Exa Z hX30 ob "com/example/evenkeel/evenkeel/TaskQueue" := F25.wr W30
  have F37 : Exa Z hX30 tk "com/example/evenkeel/evenkeel/QueuedTasks" := F26.wr W30
  have F38 : Fld Z hX30 ot "com/example/evenkeel/evenkeel/QueuedTasks" "after" "Lcom/example/evenkeel/evenkeel/QueuedTasks;" .null := F27.other W30 (Or.inl (Ne.symm ne_tk_ot))
  have F39 : Fld Z hX30 ob "com/example/evenkeel/evenkeel/TaskQueue" "last" "Lcom/example/evenkeel/evenkeel/QueuedTasks;" (.ref ot) := F19.other W30 (Or.inl ne_ob_tk)
  have Z40 : n0 ≤ hX30.size := Nat.le_trans Z28 (Keep.of_wr W30).1
  have K41 : Keep h0 hX30 [ob, tk, ot] := K29.wr W30 (Or.inl (List.mem_of_getElem? (i := 1) rfl))
  obtain ⟨T42, hX42, X42, e42, W42, st42⟩ := putF X30 hx hZ hown (host := "") (Or.inl (hw _ (List.mem_of_getElem? (i := 47) rfl))) Via.refl e30 F33 F37 (Or.inl (hw _ (List.mem_of_getElem? (i := 48) rfl))) (hw _ (List.mem_of_getElem? (i := 11) rfl)) (ty := (.object "com/example/evenkeel/evenkeel/QueuedTasks")) (by decide) rfl rfl (g := (mkF m 65 #[.val (.ref ob), .val (.ref tk)] [.null, (.ref tk)])) rfl rfl (hb hby d8_65)
  have N42 := Fr.snoc X42 N30 g_tk
  have F43 : Fld Z hX42 tk "com/example/evenkeel/evenkeel/QueuedTasks" "after" "Lcom/example/evenkeel/evenkeel/QueuedTasks;" .null := F33.same W42
  have F44 : Fld Z hX42 ob "com/example/evenkeel/evenkeel/TaskQueue" "first" "Lcom/example/evenkeel/evenkeel/QueuedTasks;" (.ref ot) := F32.other W42 (Or.inl ne_ob_tk)
  have F45 : Fld Z hX42 ot "com/example/evenkeel/evenkeel/QueuedTasks" "before" "Lcom/example/evenkeel/evenkeel/QueuedTasks;" .null := F34.other W42 (Or.inl (Ne.symm ne_tk_ot))
  have F46 : Exa Z hX42 ot "com/example/evenkeel/evenkeel/QueuedTasks" := F35.wr W42
  have F47 : Exa Z hX42 ob "com/example/evenkeel/evenkeel/TaskQueue" := F36.wr W42
  have F48 : Exa Z hX42 tk "com/example/evenkeel/evenkeel/QueuedTasks" := F37.wr W42
  have F49 : Fld Z hX42 ot "com/example/evenkeel/evenkeel/QueuedTasks" "after" "Lcom/example/evenkeel/evenkeel/QueuedTasks;" .null := F38.other W42 (Or.inl (Ne.symm ne_tk_ot))
  have F50 : Fld Z hX42 ob "com/example/evenkeel/evenkeel/TaskQueue" "last" "Lcom/example/evenkeel/evenkeel/QueuedTasks;" (.ref ot) := F39.other W42 (Or.inl ne_ob_tk)
  have F51 : Fld Z hX42 tk "com/example/evenkeel/evenkeel/QueuedTasks" "before" "Lcom/example/evenkeel/evenkeel/QueuedTasks;" .null := F31.other W42 (Or.inr (slot_ne (Or.inl (hw _ (List.mem_of_getElem? (i := 57) rfl))) (Or.inl (hw _ (List.mem_of_getElem? (i := 48) rfl))) (by decide) (t := (.object "com/example/evenkeel/evenkeel/QueuedTasks")) (t' := (.object "com/example/evenkeel/evenkeel/QueuedTasks")) (by decide) (by decide)))
  have Z52 : n0 ≤ hX42.size := Nat.le_trans Z40 (Keep.of_wr W42).1
  have K53 : Keep h0 hX42 [ob, tk, ot] := K41.wr W42 (Or.inl (List.mem_of_getElem? (i := 1) rfl))
  obtain ⟨fs, hr, hrun, hended, hW, hsame⟩ := X42.leave (v := none) (fun _ => rfl)
  refine ⟨_, _, pre0 _ ?_, hrun, hended, _, _, rfl, ?_, ⟨_, rfl⟩, hW, hsame.mono (by decide) (by decide)⟩
  · skip
    show Steps p.tables e below (s₁.setTop (mkF m 0 #[.val (.ref ob), .val (.ref tk)] [])) _
    refine XS.aloadN X0.here hx rfl (hb hby d8_0) rfl rfl ?_
    show Steps p.tables e below (s₁.setTop (mkF m 1 #[.val (.ref ob), .val (.ref tk)] [(.ref tk)])) _
    refine st1 _ ?_
    show Steps p.tables e below (T1.setTop (mkF m 4 #[.val (.ref ob), .val (.ref tk)] [(.ref ot)])) _
    refine XS.ifnonnullYes X1.here hx rfl (pc0 := 4) (pc' := 18) rfl (hb hby d8_4) rfl (by decide) (by decide) ?_
    show Steps p.tables e below (T1.setTop (mkF m 18 #[.val (.ref ob), .val (.ref tk)] [])) _
    refine XS.aloadN X1.here hx rfl (hb hby d8_18) rfl rfl ?_
    show Steps p.tables e below (T1.setTop (mkF m 19 #[.val (.ref ob), .val (.ref tk)] [(.ref tk)])) _
    refine st2 _ ?_
    show Steps p.tables e below (T2.setTop (mkF m 22 #[.val (.ref ob), .val (.ref tk)] [(.ref ot)])) _
    refine XS.aloadN X2.here hx rfl (hb hby d8_22) rfl rfl ?_
    show Steps p.tables e below (T2.setTop (mkF m 23 #[.val (.ref ob), .val (.ref tk)] [(.ref tk), (.ref ot)])) _
    refine st3 _ ?_
    show Steps p.tables e below (T3.setTop (mkF m 26 #[.val (.ref ob), .val (.ref tk)] [.null, (.ref ot)])) _
    refine st4 _ ?_
    show Steps p.tables e below (T4.setTop (mkF m 29 #[.val (.ref ob), .val (.ref tk)] [])) _
    refine XS.aloadN X4.here hx rfl (hb hby d8_29) rfl rfl ?_
    show Steps p.tables e below (T4.setTop (mkF m 30 #[.val (.ref ob), .val (.ref tk)] [(.ref tk)])) _
    refine st16 _ ?_
    show Steps p.tables e below (T16.setTop (mkF m 33 #[.val (.ref ob), .val (.ref tk)] [.null])) _
    refine XS.ifnonnullNo X16.here hx rfl (hb hby d8_33) rfl ?_
    show Steps p.tables e below (T16.setTop (mkF m 36 #[.val (.ref ob), .val (.ref tk)] [])) _
    refine XS.aloadN X16.here hx rfl (hb hby d8_36) rfl rfl ?_
    show Steps p.tables e below (T16.setTop (mkF m 37 #[.val (.ref ob), .val (.ref tk)] [(.ref ob)])) _
    refine XS.aloadN X16.here hx rfl (hb hby d8_37) rfl rfl ?_
    show Steps p.tables e below (T16.setTop (mkF m 38 #[.val (.ref ob), .val (.ref tk)] [(.ref tk), (.ref ob)])) _
    refine st17 _ ?_
    show Steps p.tables e below (T17.setTop (mkF m 41 #[.val (.ref ob), .val (.ref tk)] [(.ref ot), (.ref ob)])) _
    refine st18 _ ?_
    show Steps p.tables e below (T18.setTop (mkF m 44 #[.val (.ref ob), .val (.ref tk)] [])) _
    refine XS.goto X18.here hx rfl (pc0 := 44) (pc' := 58) rfl (hb hby d8_44) (by decide) (by decide) ?_
    show Steps p.tables e below (T18.setTop (mkF m 58 #[.val (.ref ob), .val (.ref tk)] [])) _
    refine XS.aloadN X18.here hx rfl (hb hby d8_58) rfl rfl ?_
    show Steps p.tables e below (T18.setTop (mkF m 59 #[.val (.ref ob), .val (.ref tk)] [(.ref tk)])) _
    refine XS.aconstNull X18.here hx rfl (hb hby d8_59) ?_
    show Steps p.tables e below (T18.setTop (mkF m 60 #[.val (.ref ob), .val (.ref tk)] [.null, (.ref tk)])) _
    refine st30 _ ?_
    show Steps p.tables e below (T30.setTop (mkF m 63 #[.val (.ref ob), .val (.ref tk)] [])) _
    refine XS.aloadN X30.here hx rfl (hb hby d8_63) rfl rfl ?_
    show Steps p.tables e below (T30.setTop (mkF m 64 #[.val (.ref ob), .val (.ref tk)] [(.ref tk)])) _
    refine XS.aconstNull X30.here hx rfl (hb hby d8_64) ?_
    show Steps p.tables e below (T30.setTop (mkF m 65 #[.val (.ref ob), .val (.ref tk)] [.null, (.ref tk)])) _
    refine st42 _ ?_
    show Steps p.tables e below (T42.setTop (mkF m 68 #[.val (.ref ob), .val (.ref tk)] [])) _
    exact X42.returnOut hx Bd.returns (hb hby d8_68) hr
  · show Q8_2 Z ob tk ot h0 n0 _ T42.heap _
    rw [e42]
    exact ⟨rfl, N42, K53, F44, F50, F51, F43, F45, F49, F46, F47, F48⟩
theorem d6_0 : decode prog_20_method_4_code 0 = .ok (.aload_n 1, 1) := by decide +kernel
theorem d6_1 : decode prog_20_method_4_code 1 = .ok (.aload_n 0, 1) := by decide +kernel
theorem d6_2 : decode prog_20_method_4_code 2 = .ok (.getfield 7, 3) := by decide +kernel
theorem d6_5 : decode prog_20_method_4_code 5 = .ok (.putfield 13, 3) := by decide +kernel
theorem d6_8 : decode prog_20_method_4_code 8 = .ok (.aload_n 0, 1) := by decide +kernel
theorem d6_9 : decode prog_20_method_4_code 9 = .ok (.getfield 7, 3) := by decide +kernel
theorem d6_12 : decode prog_20_method_4_code 12 = .ok (.ifnonnull 11, 3) := by decide +kernel
theorem d6_15 : decode prog_20_method_4_code 15 = .ok (.aload_n 0, 1) := by decide +kernel
theorem d6_16 : decode prog_20_method_4_code 16 = .ok (.aload_n 1, 1) := by decide +kernel
theorem d6_17 : decode prog_20_method_4_code 17 = .ok (.putfield 18, 3) := by decide +kernel
theorem d6_20 : decode prog_20_method_4_code 20 = .ok (.goto 11, 3) := by decide +kernel
theorem d6_31 : decode prog_20_method_4_code 31 = .ok (.aload_n 0, 1) := by decide +kernel
theorem d6_32 : decode prog_20_method_4_code 32 = .ok (.aload_n 1, 1) := by decide +kernel
theorem d6_33 : decode prog_20_method_4_code 33 = .ok (.putfield 7, 3) := by decide +kernel
theorem d6_36 : decode prog_20_method_4_code 36 = .ok (.return_, 1) := by decide +kernel
theorem pn_6 : plainName "com/example/evenkeel/evenkeel/TaskQueue" = true := by first | (simp [plainName, overriddenIn]; done) | decide +kernel
theorem ef_6 (m : MethodId) (x0 : Addr) (x1 : Addr) : entryFrame m #[(.ref x0), (.ref x1)] 2 = mkF m 0 #[.val (.ref x0), .val (.ref x1)] [] := by first | (simp [entryFrame, mkF, argsToLocals, Value.category]; done) | rfl
def Q6 (Z : State) (ob : Addr) (tk : Addr) (h0 : Heap) (n0 : Nat) (v : Option Value) (h : Heap) (L : List Loc) : Prop := v = none ∧ Fr n0 L ∧ Keep h0 h [ob, tk] ∧ Fld Z h ob "com/example/evenkeel/evenkeel/TaskQueue" "first" "Lcom/example/evenkeel/evenkeel/QueuedTasks;" (.ref tk) ∧ Fld Z h ob "com/example/evenkeel/evenkeel/TaskQueue" "last" "Lcom/example/evenkeel/evenkeel/QueuedTasks;" (.ref tk) ∧ Fld Z h tk "com/example/evenkeel/evenkeel/QueuedTasks" "before" "Lcom/example/evenkeel/evenkeel/QueuedTasks;" .null ∧ Fld Z h tk "com/example/evenkeel/evenkeel/QueuedTasks" "after" "Lcom/example/evenkeel/evenkeel/QueuedTasks;" .null ∧ Exa Z h ob "com/example/evenkeel/evenkeel/TaskQueue" ∧ Exa Z h tk "com/example/evenkeel/evenkeel/QueuedTasks"
set_option maxRecDepth 65536 in
set_option maxHeartbeats 40000000 in
theorem rm6 (l : Launch) (Z : State) (a0 : Array Value) (hw : ∀ d ∈ tables_1, d.before a0 Z = true) (ws : List Jvm.Cond) (ob : Addr) (tk : Addr) (h0 : Heap) (n0 : Nat) (Z0 : n0 ≤ h0.size) (I0 : Fld Z h0 ob "com/example/evenkeel/evenkeel/TaskQueue" "first" "Lcom/example/evenkeel/evenkeel/QueuedTasks;" .null) (I1 : Fld Z h0 ob "com/example/evenkeel/evenkeel/TaskQueue" "last" "Lcom/example/evenkeel/evenkeel/QueuedTasks;" .null) (I2 : Fld Z h0 tk "com/example/evenkeel/evenkeel/QueuedTasks" "before" "Lcom/example/evenkeel/evenkeel/QueuedTasks;" .null) (I3 : Fld Z h0 tk "com/example/evenkeel/evenkeel/QueuedTasks" "after" "Lcom/example/evenkeel/evenkeel/QueuedTasks;" .null) (I4 : Exa Z h0 ob "com/example/evenkeel/evenkeel/TaskQueue") (I5 : Exa Z h0 tk "com/example/evenkeel/evenkeel/QueuedTasks") (g_ob : n0 ≤ ob) (g_tk : n0 ≤ tk) (ne_ob_tk : ob ≠ tk) :
    MetFree l (⟨"com/example/evenkeel/evenkeel/TaskQueue", "addFirst", "(Lcom/example/evenkeel/evenkeel/QueuedTasks;)V"⟩ : MethodName) (head1 (Jvm.Cond.code (⟨"com/example/evenkeel/evenkeel/TaskQueue", "addFirst", "(Lcom/example/evenkeel/evenkeel/QueuedTasks;)V"⟩ : MethodName) prog_20_method_4_code 2 none :: ws) ({ frames := 0, cells := 0, slots := 0, locals := 0 } : Room)) (fun a U => a = #[(.ref ob), (.ref tk)] ∧ Z.Warmed39 U.vm ∧ U.heap = h0) (fun _ _ _ _ _ => True) (fun _ U o U' => ∃ v L, o = .returned v ∧ Q6 Z ob tk h0 n0 v U'.heap L ∧ FrameEnd U o U' L ({ frames := 0, cells := 0, slots := 0, locals := 0 } : Room).cells ({ frames := 0, cells := 0, slots := 0, locals := 0 } : Room).slots) := by
  refine MetFree.of_bodySF (plainFor_of_name pn_6) hisR ?_
  intro p e s m args below meth c s₁ Bd hml0 hP hK
  obtain ⟨rfl, hZ, hh⟩ := hP
  have hx := Bd.exec
  have hby := Bd.bytes
  have hml : c.maxLocals = 2 := hml0
  have hown : s.vm.findClass "com/example/evenkeel/evenkeel/TaskQueue" = some m.cls := findClass_of_methodNamed Bd.named
  have hnm := (name_of_methodNamed Bd.named Bd.method).1
  have X0 : Stand p l e ({ frames := 0, cells := 0, slots := 0, locals := 0 } : Room) s m #[(.ref ob), (.ref tk)] below meth c s₁ [] 0 0 := Stand.of_body Bd
  have e0 : s₁.heap = h0 := by rw [← hh, Bd.state]; rfl
  have N0 := Fr.nil n0
  have K0 : Keep h0 h0 [ob, tk] := Keep.refl h0 _
  have pre0 : ∀ tq, Steps p.tables e below (s₁.setTop (mkF m 0 #[.val (.ref ob), .val (.ref tk)] [])) tq → Steps p.tables e below (s₁.setTop (entryFrame m #[(.ref ob), (.ref tk)] 2)) tq := fun tq kq => castTop (ef_6 m ob tk) kq
  obtain ⟨T1, X1, e1, st1⟩ := getF X0 hx hZ hown (host := "") (Or.inl (hw _ (List.mem_of_getElem? (i := 36) rfl))) Via.refl e0 I0 (g := (mkF m 2 #[.val (.ref ob), .val (.ref tk)] [(.ref ob), (.ref tk)])) rfl rfl (hb hby d6_2)
  obtain ⟨T2, hX2, X2, e2, W2, st2⟩ := putF X1 hx hZ hown (host := "") (Or.inl (hw _ (List.mem_of_getElem? (i := 47) rfl))) Via.refl e1 I3 I5 (Or.inl (hw _ (List.mem_of_getElem? (i := 48) rfl))) (hw _ (List.mem_of_getElem? (i := 11) rfl)) (ty := (.object "com/example/evenkeel/evenkeel/QueuedTasks")) (by decide) rfl rfl (g := (mkF m 5 #[.val (.ref ob), .val (.ref tk)] [.null, (.ref tk)])) rfl rfl (hb hby d6_5)
  have N2 := Fr.snoc X2 N0 g_tk
  have F3 : Fld Z hX2 tk "com/example/evenkeel/evenkeel/QueuedTasks" "after" "Lcom/example/evenkeel/evenkeel/QueuedTasks;" .null := I3.same W2
  have F4 : Fld Z hX2 ob "com/example/evenkeel/evenkeel/TaskQueue" "first" "Lcom/example/evenkeel/evenkeel/QueuedTasks;" .null := I0.other W2 (Or.inl ne_ob_tk)
  have F5 : Fld Z hX2 ob "com/example/evenkeel/evenkeel/TaskQueue" "last" "Lcom/example/evenkeel/evenkeel/QueuedTasks;" .null := I1.other W2 (Or.inl ne_ob_tk)
  have F6 : Fld Z hX2 tk "com/example/evenkeel/evenkeel/QueuedTasks" "before" "Lcom/example/evenkeel/evenkeel/QueuedTasks;" .null := I2.other W2 (Or.inr (slot_ne (Or.inl (hw _ (List.mem_of_getElem? (i := 57) rfl))) (Or.inl (hw _ (List.mem_of_getElem? (i := 48) rfl))) (by decide) (t := (.object "com/example/evenkeel/evenkeel/QueuedTasks")) (t' := (.object "com/example/evenkeel/evenkeel/QueuedTasks")) (by decide) (by decide)))
  have F7 : Exa Z hX2 ob "com/example/evenkeel/evenkeel/TaskQueue" := I4.wr W2
  have F8 : Exa Z hX2 tk "com/example/evenkeel/evenkeel/QueuedTasks" := I5.wr W2
  have Z9 : n0 ≤ hX2.size := Nat.le_trans Z0 (Keep.of_wr W2).1
  have K10 : Keep h0 hX2 [ob, tk] := K0.wr W2 (Or.inl (List.mem_of_getElem? (i := 1) rfl))
  obtain ⟨T11, X11, e11, st11⟩ := getF X2 hx hZ hown (host := "") (Or.inl (hw _ (List.mem_of_getElem? (i := 36) rfl))) Via.refl e2 F4 (g := (mkF m 9 #[.val (.ref ob), .val (.ref tk)] [(.ref ob)])) rfl rfl (hb hby d6_9)
  obtain ⟨T12, hX12, X12, e12, W12, st12⟩ := putF X11 hx hZ hown (host := "") (Or.inl (hw _ (List.mem_of_getElem? (i := 49) rfl))) Via.refl e11 F5 F7 (Or.inl (hw _ (List.mem_of_getElem? (i := 50) rfl))) (hw _ (List.mem_of_getElem? (i := 1) rfl)) (ty := (.object "com/example/evenkeel/evenkeel/QueuedTasks")) (by decide) rfl rfl (g := (mkF m 17 #[.val (.ref ob), .val (.ref tk)] [(.ref tk), (.ref ob)])) rfl rfl (hb hby d6_17)
  have N12 := Fr.snoc X12 N2 g_ob
  have F13 : Fld Z hX12 ob "com/example/evenkeel/evenkeel/TaskQueue" "last" "Lcom/example/evenkeel/evenkeel/QueuedTasks;" (.ref tk) := F5.same W12
  have F14 : Fld Z hX12 ob "com/example/evenkeel/evenkeel/TaskQueue" "first" "Lcom/example/evenkeel/evenkeel/QueuedTasks;" .null := F4.other W12 (Or.inr (slot_ne (Or.inl (hw _ (List.mem_of_getElem? (i := 37) rfl))) (Or.inl (hw _ (List.mem_of_getElem? (i := 50) rfl))) (by decide) (t := (.object "com/example/evenkeel/evenkeel/QueuedTasks")) (t' := (.object "com/example/evenkeel/evenkeel/QueuedTasks")) (by decide) (by decide)))
  have F15 : Fld Z hX12 tk "com/example/evenkeel/evenkeel/QueuedTasks" "before" "Lcom/example/evenkeel/evenkeel/QueuedTasks;" .null := F6.other W12 (Or.inl (Ne.symm ne_ob_tk))
  have F16 : Exa Z hX12 ob "com/example/evenkeel/evenkeel/TaskQueue" := F7.wr W12
  have F17 : Exa Z hX12 tk "com/example/evenkeel/evenkeel/QueuedTasks" := F8.wr W12
  have F18 : Fld Z hX12 tk "com/example/evenkeel/evenkeel/QueuedTasks" "after" "Lcom/example/evenkeel/evenkeel/QueuedTasks;" .null := F3.other W12 (Or.inl (Ne.symm ne_ob_tk))
  have Z19 : n0 ≤ hX12.size := Nat.le_trans Z9 (Keep.of_wr W12).1
  have K20 : Keep h0 hX12 [ob, tk] := K10.wr W12 (Or.inl (List.mem_of_getElem? (i := 0) rfl))
  obtain ⟨T21, hX21, X21, e21, W21, st21⟩ := putF X12 hx hZ hown (host := "") (Or.inl (hw _ (List.mem_of_getElem? (i := 36) rfl))) Via.refl e12 F14 F16 (Or.inl (hw _ (List.mem_of_getElem? (i := 37) rfl))) (hw _ (List.mem_of_getElem? (i := 1) rfl)) (ty := (.object "com/example/evenkeel/evenkeel/QueuedTasks")) (by decide) rfl rfl (g := (mkF m 33 #[.val (.ref ob), .val (.ref tk)] [(.ref tk), (.ref ob)])) rfl rfl (hb hby d6_33)
  have N21 := Fr.snoc X21 N12 g_ob
  have F22 : Fld Z hX21 ob "com/example/evenkeel/evenkeel/TaskQueue" "first" "Lcom/example/evenkeel/evenkeel/QueuedTasks;" (.ref tk) := F14.same W21
  have F23 : Fld Z hX21 tk "com/example/evenkeel/evenkeel/QueuedTasks" "before" "Lcom/example/evenkeel/evenkeel/QueuedTasks;" .null := F15.other W21 (Or.inl (Ne.symm ne_ob_tk))
  have F24 : Exa Z hX21 ob "com/example/evenkeel/evenkeel/TaskQueue" := F16.wr W21
  have F25 : Exa Z hX21 tk "com/example/evenkeel/evenkeel/QueuedTasks" := F17.wr W21
  have F26 : Fld Z hX21 tk "com/example/evenkeel/evenkeel/QueuedTasks" "after" "Lcom/example/evenkeel/evenkeel/QueuedTasks;" .null := F18.other W21 (Or.inl (Ne.symm ne_ob_tk))
  have F27 : Fld Z hX21 ob "com/example/evenkeel/evenkeel/TaskQueue" "last" "Lcom/example/evenkeel/evenkeel/QueuedTasks;" (.ref tk) := F13.other W21 (Or.inr (slot_ne (Or.inl (hw _ (List.mem_of_getElem? (i := 50) rfl))) (Or.inl (hw _ (List.mem_of_getElem? (i := 37) rfl))) (by decide) (t := (.object "com/example/evenkeel/evenkeel/QueuedTasks")) (t' := (.object "com/example/evenkeel/evenkeel/QueuedTasks")) (by decide) (by decide)))
  have Z28 : n0 ≤ hX21.size := Nat.le_trans Z19 (Keep.of_wr W21).1
  have K29 : Keep h0 hX21 [ob, tk] := K20.wr W21 (Or.inl (List.mem_of_getElem? (i := 0) rfl))
  obtain ⟨fs, hr, hrun, hended, hW, hsame⟩ := X21.leave (v := none) (fun _ => rfl)
  refine ⟨_, _, pre0 _ ?_, hrun, hended, _, _, rfl, ?_, ⟨_, rfl⟩, hW, hsame.mono (by decide) (by decide)⟩
  · skip
    show Steps p.tables e below (s₁.setTop (mkF m 0 #[.val (.ref ob), .val (.ref tk)] [])) _
    refine XS.aloadN X0.here hx rfl (hb hby d6_0) rfl rfl ?_
    show Steps p.tables e below (s₁.setTop (mkF m 1 #[.val (.ref ob), .val (.ref tk)] [(.ref tk)])) _
    refine XS.aloadN X0.here hx rfl (hb hby d6_1) rfl rfl ?_
    show Steps p.tables e below (s₁.setTop (mkF m 2 #[.val (.ref ob), .val (.ref tk)] [(.ref ob), (.ref tk)])) _
    refine st1 _ ?_
    show Steps p.tables e below (T1.setTop (mkF m 5 #[.val (.ref ob), .val (.ref tk)] [.null, (.ref tk)])) _
    refine st2 _ ?_
    show Steps p.tables e below (T2.setTop (mkF m 8 #[.val (.ref ob), .val (.ref tk)] [])) _
    refine XS.aloadN X2.here hx rfl (hb hby d6_8) rfl rfl ?_
    show Steps p.tables e below (T2.setTop (mkF m 9 #[.val (.ref ob), .val (.ref tk)] [(.ref ob)])) _
    refine st11 _ ?_
    show Steps p.tables e below (T11.setTop (mkF m 12 #[.val (.ref ob), .val (.ref tk)] [.null])) _
    refine XS.ifnonnullNo X11.here hx rfl (hb hby d6_12) rfl ?_
    show Steps p.tables e below (T11.setTop (mkF m 15 #[.val (.ref ob), .val (.ref tk)] [])) _
    refine XS.aloadN X11.here hx rfl (hb hby d6_15) rfl rfl ?_
    show Steps p.tables e below (T11.setTop (mkF m 16 #[.val (.ref ob), .val (.ref tk)] [(.ref ob)])) _
    refine XS.aloadN X11.here hx rfl (hb hby d6_16) rfl rfl ?_
    show Steps p.tables e below (T11.setTop (mkF m 17 #[.val (.ref ob), .val (.ref tk)] [(.ref tk), (.ref ob)])) _
    refine st12 _ ?_
    show Steps p.tables e below (T12.setTop (mkF m 20 #[.val (.ref ob), .val (.ref tk)] [])) _
    refine XS.goto X12.here hx rfl (pc0 := 20) (pc' := 31) rfl (hb hby d6_20) (by decide) (by decide) ?_
    show Steps p.tables e below (T12.setTop (mkF m 31 #[.val (.ref ob), .val (.ref tk)] [])) _
    refine XS.aloadN X12.here hx rfl (hb hby d6_31) rfl rfl ?_
    show Steps p.tables e below (T12.setTop (mkF m 32 #[.val (.ref ob), .val (.ref tk)] [(.ref ob)])) _
    refine XS.aloadN X12.here hx rfl (hb hby d6_32) rfl rfl ?_
    show Steps p.tables e below (T12.setTop (mkF m 33 #[.val (.ref ob), .val (.ref tk)] [(.ref tk), (.ref ob)])) _
    refine st21 _ ?_
    show Steps p.tables e below (T21.setTop (mkF m 36 #[.val (.ref ob), .val (.ref tk)] [])) _
    exact X21.returnOut hx Bd.returns (hb hby d6_36) hr
  · show Q6 Z ob tk h0 n0 _ T21.heap _
    rw [e21]
    exact ⟨rfl, N21, K29, F22, F27, F23, F26, F24, F25⟩
theorem d6_23 : decode prog_20_method_4_code 23 = .ok (.aload_n 0, 1) := by decide +kernel
theorem d6_24 : decode prog_20_method_4_code 24 = .ok (.getfield 7, 3) := by decide +kernel
theorem d6_27 : decode prog_20_method_4_code 27 = .ok (.aload_n 1, 1) := by decide +kernel
theorem d6_28 : decode prog_20_method_4_code 28 = .ok (.putfield 21, 3) := by decide +kernel
theorem ef_6_1 (m : MethodId) (x0 : Addr) (x1 : Addr) : entryFrame m #[(.ref x0), (.ref x1)] 2 = mkF m 0 #[.val (.ref x0), .val (.ref x1)] [] := by first | (simp [entryFrame, mkF, argsToLocals, Value.category]; done) | rfl
def Q6_1 (Z : State) (ob : Addr) (tk : Addr) (ot : Addr) (h0 : Heap) (n0 : Nat) (v : Option Value) (h : Heap) (L : List Loc) : Prop := v = none ∧ Fr n0 L ∧ Keep h0 h [ob, tk, ot] ∧ Fld Z h ob "com/example/evenkeel/evenkeel/TaskQueue" "first" "Lcom/example/evenkeel/evenkeel/QueuedTasks;" (.ref tk) ∧ Fld Z h ob "com/example/evenkeel/evenkeel/TaskQueue" "last" "Lcom/example/evenkeel/evenkeel/QueuedTasks;" (.ref ot) ∧ Fld Z h tk "com/example/evenkeel/evenkeel/QueuedTasks" "before" "Lcom/example/evenkeel/evenkeel/QueuedTasks;" .null ∧ Fld Z h tk "com/example/evenkeel/evenkeel/QueuedTasks" "after" "Lcom/example/evenkeel/evenkeel/QueuedTasks;" (.ref ot) ∧ Fld Z h ot "com/example/evenkeel/evenkeel/QueuedTasks" "before" "Lcom/example/evenkeel/evenkeel/QueuedTasks;" (.ref tk) ∧ Fld Z h ot "com/example/evenkeel/evenkeel/QueuedTasks" "after" "Lcom/example/evenkeel/evenkeel/QueuedTasks;" .null ∧ Exa Z h ot "com/example/evenkeel/evenkeel/QueuedTasks" ∧ Exa Z h ob "com/example/evenkeel/evenkeel/TaskQueue" ∧ Exa Z h tk "com/example/evenkeel/evenkeel/QueuedTasks"
set_option maxRecDepth 65536 in
set_option maxHeartbeats 40000000 in
theorem rm6_1 (l : Launch) (Z : State) (a0 : Array Value) (hw : ∀ d ∈ tables_1, d.before a0 Z = true) (ws : List Jvm.Cond) (ob : Addr) (tk : Addr) (ot : Addr) (h0 : Heap) (n0 : Nat) (Z0 : n0 ≤ h0.size) (I0 : Fld Z h0 ob "com/example/evenkeel/evenkeel/TaskQueue" "first" "Lcom/example/evenkeel/evenkeel/QueuedTasks;" (.ref ot)) (I1 : Fld Z h0 ob "com/example/evenkeel/evenkeel/TaskQueue" "last" "Lcom/example/evenkeel/evenkeel/QueuedTasks;" (.ref ot)) (I2 : Fld Z h0 tk "com/example/evenkeel/evenkeel/QueuedTasks" "before" "Lcom/example/evenkeel/evenkeel/QueuedTasks;" .null) (I3 : Fld Z h0 tk "com/example/evenkeel/evenkeel/QueuedTasks" "after" "Lcom/example/evenkeel/evenkeel/QueuedTasks;" .null) (I4 : Fld Z h0 ot "com/example/evenkeel/evenkeel/QueuedTasks" "before" "Lcom/example/evenkeel/evenkeel/QueuedTasks;" .null) (I5 : Fld Z h0 ot "com/example/evenkeel/evenkeel/QueuedTasks" "after" "Lcom/example/evenkeel/evenkeel/QueuedTasks;" .null) (I6 : Exa Z h0 ot "com/example/evenkeel/evenkeel/QueuedTasks") (I7 : Exa Z h0 ob "com/example/evenkeel/evenkeel/TaskQueue") (I8 : Exa Z h0 tk "com/example/evenkeel/evenkeel/QueuedTasks") (g_ob : n0 ≤ ob) (g_tk : n0 ≤ tk) (g_ot : n0 ≤ ot) (ne_ob_tk : ob ≠ tk) (ne_ob_ot : ob ≠ ot) (ne_tk_ot : tk ≠ ot) :
    MetFree l (⟨"com/example/evenkeel/evenkeel/TaskQueue", "addFirst", "(Lcom/example/evenkeel/evenkeel/QueuedTasks;)V"⟩ : MethodName) (head1 (Jvm.Cond.code (⟨"com/example/evenkeel/evenkeel/TaskQueue", "addFirst", "(Lcom/example/evenkeel/evenkeel/QueuedTasks;)V"⟩ : MethodName) prog_20_method_4_code 2 none :: ws) ({ frames := 0, cells := 0, slots := 0, locals := 0 } : Room)) (fun a U => a = #[(.ref ob), (.ref tk)] ∧ Z.Warmed39 U.vm ∧ U.heap = h0) (fun _ _ _ _ _ => True) (fun _ U o U' => ∃ v L, o = .returned v ∧ Q6_1 Z ob tk ot h0 n0 v U'.heap L ∧ FrameEnd U o U' L ({ frames := 0, cells := 0, slots := 0, locals := 0 } : Room).cells ({ frames := 0, cells := 0, slots := 0, locals := 0 } : Room).slots) := by
  refine MetFree.of_bodySF (plainFor_of_name pn_6) hisR ?_
  intro p e s m args below meth c s₁ Bd hml0 hP hK
  obtain ⟨rfl, hZ, hh⟩ := hP
  have hx := Bd.exec
  have hby := Bd.bytes
  have hml : c.maxLocals = 2 := hml0
  have hown : s.vm.findClass "com/example/evenkeel/evenkeel/TaskQueue" = some m.cls := findClass_of_methodNamed Bd.named
  have hnm := (name_of_methodNamed Bd.named Bd.method).1
  have X0 : Stand p l e ({ frames := 0, cells := 0, slots := 0, locals := 0 } : Room) s m #[(.ref ob), (.ref tk)] below meth c s₁ [] 0 0 := Stand.of_body Bd
  have e0 : s₁.heap = h0 := by rw [← hh, Bd.state]; rfl
  have N0 := Fr.nil n0
  have K0 : Keep h0 h0 [ob, tk, ot] := Keep.refl h0 _
  have pre0 : ∀ tq, Steps p.tables e below (s₁.setTop (mkF m 0 #[.val (.ref ob), .val (.ref tk)] [])) tq → Steps p.tables e below (s₁.setTop (entryFrame m #[(.ref ob), (.ref tk)] 2)) tq := fun tq kq => castTop (ef_6_1 m ob tk) kq
  obtain ⟨T1, X1, e1, st1⟩ := getF X0 hx hZ hown (host := "") (Or.inl (hw _ (List.mem_of_getElem? (i := 36) rfl))) Via.refl e0 I0 (g := (mkF m 2 #[.val (.ref ob), .val (.ref tk)] [(.ref ob), (.ref tk)])) rfl rfl (hb hby d6_2)
  obtain ⟨T2, hX2, X2, e2, W2, st2⟩ := putF X1 hx hZ hown (host := "") (Or.inl (hw _ (List.mem_of_getElem? (i := 47) rfl))) Via.refl e1 I3 I8 (Or.inl (hw _ (List.mem_of_getElem? (i := 48) rfl))) (hw _ (List.mem_of_getElem? (i := 11) rfl)) (ty := (.object "com/example/evenkeel/evenkeel/QueuedTasks")) (by decide) rfl rfl (g := (mkF m 5 #[.val (.ref ob), .val (.ref tk)] [(.ref ot), (.ref tk)])) rfl rfl (hb hby d6_5)
  have N2 := Fr.snoc X2 N0 g_tk
  have F3 : Fld Z hX2 tk "com/example/evenkeel/evenkeel/QueuedTasks" "after" "Lcom/example/evenkeel/evenkeel/QueuedTasks;" (.ref ot) := I3.same W2
  have F4 : Fld Z hX2 ob "com/example/evenkeel/evenkeel/TaskQueue" "first" "Lcom/example/evenkeel/evenkeel/QueuedTasks;" (.ref ot) := I0.other W2 (Or.inl ne_ob_tk)
  have F5 : Fld Z hX2 ob "com/example/evenkeel/evenkeel/TaskQueue" "last" "Lcom/example/evenkeel/evenkeel/QueuedTasks;" (.ref ot) := I1.other W2 (Or.inl ne_ob_tk)
  have F6 : Fld Z hX2 tk "com/example/evenkeel/evenkeel/QueuedTasks" "before" "Lcom/example/evenkeel/evenkeel/QueuedTasks;" .null := I2.other W2 (Or.inr (slot_ne (Or.inl (hw _ (List.mem_of_getElem? (i := 57) rfl))) (Or.inl (hw _ (List.mem_of_getElem? (i := 48) rfl))) (by decide) (t := (.object "com/example/evenkeel/evenkeel/QueuedTasks")) (t' := (.object "com/example/evenkeel/evenkeel/QueuedTasks")) (by decide) (by decide)))
  have F7 : Fld Z hX2 ot "com/example/evenkeel/evenkeel/QueuedTasks" "before" "Lcom/example/evenkeel/evenkeel/QueuedTasks;" .null := I4.other W2 (Or.inl (Ne.symm ne_tk_ot))
  have F8 : Fld Z hX2 ot "com/example/evenkeel/evenkeel/QueuedTasks" "after" "Lcom/example/evenkeel/evenkeel/QueuedTasks;" .null := I5.other W2 (Or.inl (Ne.symm ne_tk_ot))
  have F9 : Exa Z hX2 ot "com/example/evenkeel/evenkeel/QueuedTasks" := I6.wr W2
  have F10 : Exa Z hX2 ob "com/example/evenkeel/evenkeel/TaskQueue" := I7.wr W2
  have F11 : Exa Z hX2 tk "com/example/evenkeel/evenkeel/QueuedTasks" := I8.wr W2
  have Z12 : n0 ≤ hX2.size := Nat.le_trans Z0 (Keep.of_wr W2).1
  have K13 : Keep h0 hX2 [ob, tk, ot] := K0.wr W2 (Or.inl (List.mem_of_getElem? (i := 1) rfl))
  obtain ⟨T14, X14, e14, st14⟩ := getF X2 hx hZ hown (host := "") (Or.inl (hw _ (List.mem_of_getElem? (i := 36) rfl))) Via.refl e2 F4 (g := (mkF m 9 #[.val (.ref ob), .val (.ref tk)] [(.ref ob)])) rfl rfl (hb hby d6_9)
  obtain ⟨T15, X15, e15, st15⟩ := getF X14 hx hZ hown (host := "") (Or.inl (hw _ (List.mem_of_getElem? (i := 36) rfl))) Via.refl e14 F4 (g := (mkF m 24 #[.val (.ref ob), .val (.ref tk)] [(.ref ob)])) rfl rfl (hb hby d6_24)
  obtain ⟨T16, hX16, X16, e16, W16, st16⟩ := putF X15 hx hZ hown (host := "") (Or.inl (hw _ (List.mem_of_getElem? (i := 56) rfl))) Via.refl e15 F7 F9 (Or.inl (hw _ (List.mem_of_getElem? (i := 57) rfl))) (hw _ (List.mem_of_getElem? (i := 11) rfl)) (ty := (.object "com/example/evenkeel/evenkeel/QueuedTasks")) (by decide) rfl rfl (g := (mkF m 28 #[.val (.ref ob), .val (.ref tk)] [(.ref tk), (.ref ot)])) rfl rfl (hb hby d6_28)
  have N16 := Fr.snoc X16 N2 g_ot
  have F17 : Fld Z hX16 ot "com/example/evenkeel/evenkeel/QueuedTasks" "before" "Lcom/example/evenkeel/evenkeel/QueuedTasks;" (.ref tk) := F7.same W16
  have F18 : Fld Z hX16 ob "com/example/evenkeel/evenkeel/TaskQueue" "first" "Lcom/example/evenkeel/evenkeel/QueuedTasks;" (.ref ot) := F4.other W16 (Or.inl ne_ob_ot)
  have F19 : Fld Z hX16 ob "com/example/evenkeel/evenkeel/TaskQueue" "last" "Lcom/example/evenkeel/evenkeel/QueuedTasks;" (.ref ot) := F5.other W16 (Or.inl ne_ob_ot)
  have F20 : Fld Z hX16 tk "com/example/evenkeel/evenkeel/QueuedTasks" "before" "Lcom/example/evenkeel/evenkeel/QueuedTasks;" .null := F6.other W16 (Or.inl ne_tk_ot)
  have F21 : Fld Z hX16 ot "com/example/evenkeel/evenkeel/QueuedTasks" "after" "Lcom/example/evenkeel/evenkeel/QueuedTasks;" .null := F8.other W16 (Or.inr (slot_ne (Or.inl (hw _ (List.mem_of_getElem? (i := 48) rfl))) (Or.inl (hw _ (List.mem_of_getElem? (i := 57) rfl))) (by decide) (t := (.object "com/example/evenkeel/evenkeel/QueuedTasks")) (t' := (.object "com/example/evenkeel/evenkeel/QueuedTasks")) (by decide) (by decide)))
  have F22 : Exa Z hX16 ot "com/example/evenkeel/evenkeel/QueuedTasks" := F9.wr W16
  have F23 : Exa Z hX16 ob "com/example/evenkeel/evenkeel/TaskQueue" := F10.wr W16
  have F24 : Exa Z hX16 tk "com/example/evenkeel/evenkeel/QueuedTasks" := F11.wr W16
  have F25 : Fld Z hX16 tk "com/example/evenkeel/evenkeel/QueuedTasks" "after" "Lcom/example/evenkeel/evenkeel/QueuedTasks;" (.ref ot) := F3.other W16 (Or.inl ne_tk_ot)
  have Z26 : n0 ≤ hX16.size := Nat.le_trans Z12 (Keep.of_wr W16).1
  have K27 : Keep h0 hX16 [ob, tk, ot] := K13.wr W16 (Or.inl (List.mem_of_getElem? (i := 2) rfl))
  obtain ⟨T28, hX28, X28, e28, W28, st28⟩ := putF X16 hx hZ hown (host := "") (Or.inl (hw _ (List.mem_of_getElem? (i := 36) rfl))) Via.refl e16 F18 F23 (Or.inl (hw _ (List.mem_of_getElem? (i := 37) rfl))) (hw _ (List.mem_of_getElem? (i := 1) rfl)) (ty := (.object "com/example/evenkeel/evenkeel/QueuedTasks")) (by decide) rfl rfl (g := (mkF m 33 #[.val (.ref ob), .val (.ref tk)] [(.ref tk), (.ref ob)])) rfl rfl (hb hby d6_33)
  have N28 := Fr.snoc X28 N16 g_ob
  have F29 : Fld Z hX28 ob "com/example/evenkeel/evenkeel/TaskQueue" "first" "Lcom/example/evenkeel/evenkeel/QueuedTasks;" (.ref tk) := F18.same W28
  have F30 : Fld Z hX28 ob "com/example/evenkeel/evenkeel/TaskQueue" "last" "Lcom/example/evenkeel/evenkeel/QueuedTasks;" (.ref ot) := F19.other W28 (Or.inr (slot_ne (Or.inl (hw _ (List.mem_of_getElem? (i := 50) rfl))) (Or.inl (hw _ (List.mem_of_getElem? (i := 37) rfl))) (by decide) (t := (.object "com/example/evenkeel/evenkeel/QueuedTasks")) (t' := (.object "com/example/evenkeel/evenkeel/QueuedTasks")) (by decide) (by decide)))
  have F31 : Fld Z hX28 tk "com/example/evenkeel/evenkeel/QueuedTasks" "before" "Lcom/example/evenkeel/evenkeel/QueuedTasks;" .null := F20.other W28 (Or.inl (Ne.symm ne_ob_tk))
  have F32 : Fld Z hX28 ot "com/example/evenkeel/evenkeel/QueuedTasks" "after" "Lcom/example/evenkeel/evenkeel/QueuedTasks;" .null := F21.other W28 (Or.inl (Ne.symm ne_ob_ot))
  have F33 : Exa Z hX28 ot "com/example/evenkeel/evenkeel/QueuedTasks" := F22.wr W28
  have F34 : Exa Z hX28 ob "com/example/evenkeel/evenkeel/TaskQueue" := F23.wr W28
  have F35 : Exa Z hX28 tk "com/example/evenkeel/evenkeel/QueuedTasks" := F24.wr W28
  have F36 : Fld Z hX28 tk "com/example/evenkeel/evenkeel/QueuedTasks" "after" "Lcom/example/evenkeel/evenkeel/QueuedTasks;" (.ref ot) := F25.other W28 (Or.inl (Ne.symm ne_ob_tk))
  have F37 : Fld Z hX28 ot "com/example/evenkeel/evenkeel/QueuedTasks" "before" "Lcom/example/evenkeel/evenkeel/QueuedTasks;" (.ref tk) := F17.other W28 (Or.inl (Ne.symm ne_ob_ot))
  have Z38 : n0 ≤ hX28.size := Nat.le_trans Z26 (Keep.of_wr W28).1
  have K39 : Keep h0 hX28 [ob, tk, ot] := K27.wr W28 (Or.inl (List.mem_of_getElem? (i := 0) rfl))
  obtain ⟨fs, hr, hrun, hended, hW, hsame⟩ := X28.leave (v := none) (fun _ => rfl)
  refine ⟨_, _, pre0 _ ?_, hrun, hended, _, _, rfl, ?_, ⟨_, rfl⟩, hW, hsame.mono (by decide) (by decide)⟩
  · skip
    show Steps p.tables e below (s₁.setTop (mkF m 0 #[.val (.ref ob), .val (.ref tk)] [])) _
    refine XS.aloadN X0.here hx rfl (hb hby d6_0) rfl rfl ?_
    show Steps p.tables e below (s₁.setTop (mkF m 1 #[.val (.ref ob), .val (.ref tk)] [(.ref tk)])) _
    refine XS.aloadN X0.here hx rfl (hb hby d6_1) rfl rfl ?_
    show Steps p.tables e below (s₁.setTop (mkF m 2 #[.val (.ref ob), .val (.ref tk)] [(.ref ob), (.ref tk)])) _
    refine st1 _ ?_
    show Steps p.tables e below (T1.setTop (mkF m 5 #[.val (.ref ob), .val (.ref tk)] [(.ref ot), (.ref tk)])) _
    refine st2 _ ?_
    show Steps p.tables e below (T2.setTop (mkF m 8 #[.val (.ref ob), .val (.ref tk)] [])) _
    refine XS.aloadN X2.here hx rfl (hb hby d6_8) rfl rfl ?_
    show Steps p.tables e below (T2.setTop (mkF m 9 #[.val (.ref ob), .val (.ref tk)] [(.ref ob)])) _
    refine st14 _ ?_
    show Steps p.tables e below (T14.setTop (mkF m 12 #[.val (.ref ob), .val (.ref tk)] [(.ref ot)])) _
    refine XS.ifnonnullYes X14.here hx rfl (pc0 := 12) (pc' := 23) rfl (hb hby d6_12) rfl (by decide) (by decide) ?_
    show Steps p.tables e below (T14.setTop (mkF m 23 #[.val (.ref ob), .val (.ref tk)] [])) _
    refine XS.aloadN X14.here hx rfl (hb hby d6_23) rfl rfl ?_
    show Steps p.tables e below (T14.setTop (mkF m 24 #[.val (.ref ob), .val (.ref tk)] [(.ref ob)])) _
    refine st15 _ ?_
    show Steps p.tables e below (T15.setTop (mkF m 27 #[.val (.ref ob), .val (.ref tk)] [(.ref ot)])) _
    refine XS.aloadN X15.here hx rfl (hb hby d6_27) rfl rfl ?_
    show Steps p.tables e below (T15.setTop (mkF m 28 #[.val (.ref ob), .val (.ref tk)] [(.ref tk), (.ref ot)])) _
    refine st16 _ ?_
    show Steps p.tables e below (T16.setTop (mkF m 31 #[.val (.ref ob), .val (.ref tk)] [])) _
    refine XS.aloadN X16.here hx rfl (hb hby d6_31) rfl rfl ?_
    show Steps p.tables e below (T16.setTop (mkF m 32 #[.val (.ref ob), .val (.ref tk)] [(.ref ob)])) _
    refine XS.aloadN X16.here hx rfl (hb hby d6_32) rfl rfl ?_
    show Steps p.tables e below (T16.setTop (mkF m 33 #[.val (.ref ob), .val (.ref tk)] [(.ref tk), (.ref ob)])) _
    refine st28 _ ?_
    show Steps p.tables e below (T28.setTop (mkF m 36 #[.val (.ref ob), .val (.ref tk)] [])) _
    exact X28.returnOut hx Bd.returns (hb hby d6_36) hr
  · show Q6_1 Z ob tk ot h0 n0 _ T28.heap _
    rw [e28]
    exact ⟨rfl, N28, K39, F29, F30, F31, F36, F37, F32, F33, F34, F35⟩
theorem d7_0 : decode prog_20_method_5_code 0 = .ok (.aload_n 1, 1) := by decide +kernel
theorem d7_1 : decode prog_20_method_5_code 1 = .ok (.aload_n 0, 1) := by decide +kernel
theorem d7_2 : decode prog_20_method_5_code 2 = .ok (.getfield 18, 3) := by decide +kernel
theorem d7_5 : decode prog_20_method_5_code 5 = .ok (.putfield 21, 3) := by decide +kernel
theorem d7_8 : decode prog_20_method_5_code 8 = .ok (.aload_n 0, 1) := by decide +kernel
theorem d7_9 : decode prog_20_method_5_code 9 = .ok (.getfield 18, 3) := by decide +kernel
theorem d7_12 : decode prog_20_method_5_code 12 = .ok (.ifnonnull 11, 3) := by decide +kernel
theorem d7_15 : decode prog_20_method_5_code 15 = .ok (.aload_n 0, 1) := by decide +kernel
theorem d7_16 : decode prog_20_method_5_code 16 = .ok (.aload_n 1, 1) := by decide +kernel
theorem d7_17 : decode prog_20_method_5_code 17 = .ok (.putfield 7, 3) := by decide +kernel
theorem d7_20 : decode prog_20_method_5_code 20 = .ok (.goto 11, 3) := by decide +kernel
theorem d7_31 : decode prog_20_method_5_code 31 = .ok (.aload_n 0, 1) := by decide +kernel
theorem d7_32 : decode prog_20_method_5_code 32 = .ok (.aload_n 1, 1) := by decide +kernel
theorem d7_33 : decode prog_20_method_5_code 33 = .ok (.putfield 18, 3) := by decide +kernel
theorem d7_36 : decode prog_20_method_5_code 36 = .ok (.return_, 1) := by decide +kernel
theorem pn_7 : plainName "com/example/evenkeel/evenkeel/TaskQueue" = true := by first | (simp [plainName, overriddenIn]; done) | decide +kernel
theorem ef_7 (m : MethodId) (x0 : Addr) (x1 : Addr) : entryFrame m #[(.ref x0), (.ref x1)] 2 = mkF m 0 #[.val (.ref x0), .val (.ref x1)] [] := by first | (simp [entryFrame, mkF, argsToLocals, Value.category]; done) | rfl
def Q7 (Z : State) (ob : Addr) (tk : Addr) (h0 : Heap) (n0 : Nat) (v : Option Value) (h : Heap) (L : List Loc) : Prop := v = none ∧ Fr n0 L ∧ Keep h0 h [ob, tk] ∧ Fld Z h ob "com/example/evenkeel/evenkeel/TaskQueue" "first" "Lcom/example/evenkeel/evenkeel/QueuedTasks;" (.ref tk) ∧ Fld Z h ob "com/example/evenkeel/evenkeel/TaskQueue" "last" "Lcom/example/evenkeel/evenkeel/QueuedTasks;" (.ref tk) ∧ Fld Z h tk "com/example/evenkeel/evenkeel/QueuedTasks" "before" "Lcom/example/evenkeel/evenkeel/QueuedTasks;" .null ∧ Fld Z h tk "com/example/evenkeel/evenkeel/QueuedTasks" "after" "Lcom/example/evenkeel/evenkeel/QueuedTasks;" .null ∧ Exa Z h ob "com/example/evenkeel/evenkeel/TaskQueue" ∧ Exa Z h tk "com/example/evenkeel/evenkeel/QueuedTasks"
set_option maxRecDepth 65536 in
set_option maxHeartbeats 40000000 in
theorem rm7 (l : Launch) (Z : State) (a0 : Array Value) (hw : ∀ d ∈ tables_1, d.before a0 Z = true) (ws : List Jvm.Cond) (ob : Addr) (tk : Addr) (h0 : Heap) (n0 : Nat) (Z0 : n0 ≤ h0.size) (I0 : Fld Z h0 ob "com/example/evenkeel/evenkeel/TaskQueue" "first" "Lcom/example/evenkeel/evenkeel/QueuedTasks;" .null) (I1 : Fld Z h0 ob "com/example/evenkeel/evenkeel/TaskQueue" "last" "Lcom/example/evenkeel/evenkeel/QueuedTasks;" .null) (I2 : Fld Z h0 tk "com/example/evenkeel/evenkeel/QueuedTasks" "before" "Lcom/example/evenkeel/evenkeel/QueuedTasks;" .null) (I3 : Fld Z h0 tk "com/example/evenkeel/evenkeel/QueuedTasks" "after" "Lcom/example/evenkeel/evenkeel/QueuedTasks;" .null) (I4 : Exa Z h0 ob "com/example/evenkeel/evenkeel/TaskQueue") (I5 : Exa Z h0 tk "com/example/evenkeel/evenkeel/QueuedTasks") (g_ob : n0 ≤ ob) (g_tk : n0 ≤ tk) (ne_ob_tk : ob ≠ tk) :
    MetFree l (⟨"com/example/evenkeel/evenkeel/TaskQueue", "addLast", "(Lcom/example/evenkeel/evenkeel/QueuedTasks;)V"⟩ : MethodName) (head1 (Jvm.Cond.code (⟨"com/example/evenkeel/evenkeel/TaskQueue", "addLast", "(Lcom/example/evenkeel/evenkeel/QueuedTasks;)V"⟩ : MethodName) prog_20_method_5_code 2 none :: ws) ({ frames := 0, cells := 0, slots := 0, locals := 0 } : Room)) (fun a U => a = #[(.ref ob), (.ref tk)] ∧ Z.Warmed39 U.vm ∧ U.heap = h0) (fun _ _ _ _ _ => True) (fun _ U o U' => ∃ v L, o = .returned v ∧ Q7 Z ob tk h0 n0 v U'.heap L ∧ FrameEnd U o U' L ({ frames := 0, cells := 0, slots := 0, locals := 0 } : Room).cells ({ frames := 0, cells := 0, slots := 0, locals := 0 } : Room).slots) := by
  refine MetFree.of_bodySF (plainFor_of_name pn_7) hisR ?_
  intro p e s m args below meth c s₁ Bd hml0 hP hK
  obtain ⟨rfl, hZ, hh⟩ := hP
  have hx := Bd.exec
  have hby := Bd.bytes
  have hml : c.maxLocals = 2 := hml0
  have hown : s.vm.findClass "com/example/evenkeel/evenkeel/TaskQueue" = some m.cls := findClass_of_methodNamed Bd.named
  have hnm := (name_of_methodNamed Bd.named Bd.method).1
  have X0 : Stand p l e ({ frames := 0, cells := 0, slots := 0, locals := 0 } : Room) s m #[(.ref ob), (.ref tk)] below meth c s₁ [] 0 0 := Stand.of_body Bd
  have e0 : s₁.heap = h0 := by rw [← hh, Bd.state]; rfl
  have N0 := Fr.nil n0
  have K0 : Keep h0 h0 [ob, tk] := Keep.refl h0 _
  have pre0 : ∀ tq, Steps p.tables e below (s₁.setTop (mkF m 0 #[.val (.ref ob), .val (.ref tk)] [])) tq → Steps p.tables e below (s₁.setTop (entryFrame m #[(.ref ob), (.ref tk)] 2)) tq := fun tq kq => castTop (ef_7 m ob tk) kq
  obtain ⟨T1, X1, e1, st1⟩ := getF X0 hx hZ hown (host := "") (Or.inl (hw _ (List.mem_of_getElem? (i := 49) rfl))) Via.refl e0 I1 (g := (mkF m 2 #[.val (.ref ob), .val (.ref tk)] [(.ref ob), (.ref tk)])) rfl rfl (hb hby d7_2)
  obtain ⟨T2, hX2, X2, e2, W2, st2⟩ := putF X1 hx hZ hown (host := "") (Or.inl (hw _ (List.mem_of_getElem? (i := 56) rfl))) Via.refl e1 I2 I5 (Or.inl (hw _ (List.mem_of_getElem? (i := 57) rfl))) (hw _ (List.mem_of_getElem? (i := 11) rfl)) (ty := (.object "com/example/evenkeel/evenkeel/QueuedTasks")) (by decide) rfl rfl (g := (mkF m 5 #[.val (.ref ob), .val (.ref tk)] [.null, (.ref tk)])) rfl rfl (hb hby d7_5)
  have N2 := Fr.snoc X2 N0 g_tk
  have F3 : Fld Z hX2 tk "com/example/evenkeel/evenkeel/QueuedTasks" "before" "Lcom/example/evenkeel/evenkeel/QueuedTasks;" .null := I2.same W2
  have F4 : Fld Z hX2 ob "com/example/evenkeel/evenkeel/TaskQueue" "first" "Lcom/example/evenkeel/evenkeel/QueuedTasks;" .null := I0.other W2 (Or.inl ne_ob_tk)
  have F5 : Fld Z hX2 ob "com/example/evenkeel/evenkeel/TaskQueue" "last" "Lcom/example/evenkeel/evenkeel/QueuedTasks;" .null := I1.other W2 (Or.inl ne_ob_tk)
  have F6 : Fld Z hX2 tk "com/example/evenkeel/evenkeel/QueuedTasks" "after" "Lcom/example/evenkeel/evenkeel/QueuedTasks;" .null := I3.other W2 (Or.inr (slot_ne (Or.inl (hw _ (List.mem_of_getElem? (i := 48) rfl))) (Or.inl (hw _ (List.mem_of_getElem? (i := 57) rfl))) (by decide) (t := (.object "com/example/evenkeel/evenkeel/QueuedTasks")) (t' := (.object "com/example/evenkeel/evenkeel/QueuedTasks")) (by decide) (by decide)))
  have F7 : Exa Z hX2 ob "com/example/evenkeel/evenkeel/TaskQueue" := I4.wr W2
  have F8 : Exa Z hX2 tk "com/example/evenkeel/evenkeel/QueuedTasks" := I5.wr W2
  have Z9 : n0 ≤ hX2.size := Nat.le_trans Z0 (Keep.of_wr W2).1
  have K10 : Keep h0 hX2 [ob, tk] := K0.wr W2 (Or.inl (List.mem_of_getElem? (i := 1) rfl))
  obtain ⟨T11, X11, e11, st11⟩ := getF X2 hx hZ hown (host := "") (Or.inl (hw _ (List.mem_of_getElem? (i := 49) rfl))) Via.refl e2 F5 (g := (mkF m 9 #[.val (.ref ob), .val (.ref tk)] [(.ref ob)])) rfl rfl (hb hby d7_9)
  obtain ⟨T12, hX12, X12, e12, W12, st12⟩ := putF X11 hx hZ hown (host := "") (Or.inl (hw _ (List.mem_of_getElem? (i := 36) rfl))) Via.refl e11 F4 F7 (Or.inl (hw _ (List.mem_of_getElem? (i := 37) rfl))) (hw _ (List.mem_of_getElem? (i := 1) rfl)) (ty := (.object "com/example/evenkeel/evenkeel/QueuedTasks")) (by decide) rfl rfl (g := (mkF m 17 #[.val (.ref ob), .val (.ref tk)] [(.ref tk), (.ref ob)])) rfl rfl (hb hby d7_17)
  have N12 := Fr.snoc X12 N2 g_ob
  have F13 : Fld Z hX12 ob "com/example/evenkeel/evenkeel/TaskQueue" "first" "Lcom/example/evenkeel/evenkeel/QueuedTasks;" (.ref tk) := F4.same W12
  have F14 : Fld Z hX12 ob "com/example/evenkeel/evenkeel/TaskQueue" "last" "Lcom/example/evenkeel/evenkeel/QueuedTasks;" .null := F5.other W12 (Or.inr (slot_ne (Or.inl (hw _ (List.mem_of_getElem? (i := 50) rfl))) (Or.inl (hw _ (List.mem_of_getElem? (i := 37) rfl))) (by decide) (t := (.object "com/example/evenkeel/evenkeel/QueuedTasks")) (t' := (.object "com/example/evenkeel/evenkeel/QueuedTasks")) (by decide) (by decide)))
  have F15 : Fld Z hX12 tk "com/example/evenkeel/evenkeel/QueuedTasks" "after" "Lcom/example/evenkeel/evenkeel/QueuedTasks;" .null := F6.other W12 (Or.inl (Ne.symm ne_ob_tk))
  have F16 : Exa Z hX12 ob "com/example/evenkeel/evenkeel/TaskQueue" := F7.wr W12
  have F17 : Exa Z hX12 tk "com/example/evenkeel/evenkeel/QueuedTasks" := F8.wr W12
  have F18 : Fld Z hX12 tk "com/example/evenkeel/evenkeel/QueuedTasks" "before" "Lcom/example/evenkeel/evenkeel/QueuedTasks;" .null := F3.other W12 (Or.inl (Ne.symm ne_ob_tk))
  have Z19 : n0 ≤ hX12.size := Nat.le_trans Z9 (Keep.of_wr W12).1
  have K20 : Keep h0 hX12 [ob, tk] := K10.wr W12 (Or.inl (List.mem_of_getElem? (i := 0) rfl))
  obtain ⟨T21, hX21, X21, e21, W21, st21⟩ := putF X12 hx hZ hown (host := "") (Or.inl (hw _ (List.mem_of_getElem? (i := 49) rfl))) Via.refl e12 F14 F16 (Or.inl (hw _ (List.mem_of_getElem? (i := 50) rfl))) (hw _ (List.mem_of_getElem? (i := 1) rfl)) (ty := (.object "com/example/evenkeel/evenkeel/QueuedTasks")) (by decide) rfl rfl (g := (mkF m 33 #[.val (.ref ob), .val (.ref tk)] [(.ref tk), (.ref ob)])) rfl rfl (hb hby d7_33)
  have N21 := Fr.snoc X21 N12 g_ob
  have F22 : Fld Z hX21 ob "com/example/evenkeel/evenkeel/TaskQueue" "last" "Lcom/example/evenkeel/evenkeel/QueuedTasks;" (.ref tk) := F14.same W21
  have F23 : Fld Z hX21 tk "com/example/evenkeel/evenkeel/QueuedTasks" "after" "Lcom/example/evenkeel/evenkeel/QueuedTasks;" .null := F15.other W21 (Or.inl (Ne.symm ne_ob_tk))
  have F24 : Exa Z hX21 ob "com/example/evenkeel/evenkeel/TaskQueue" := F16.wr W21
  have F25 : Exa Z hX21 tk "com/example/evenkeel/evenkeel/QueuedTasks" := F17.wr W21
  have F26 : Fld Z hX21 tk "com/example/evenkeel/evenkeel/QueuedTasks" "before" "Lcom/example/evenkeel/evenkeel/QueuedTasks;" .null := F18.other W21 (Or.inl (Ne.symm ne_ob_tk))
  have F27 : Fld Z hX21 ob "com/example/evenkeel/evenkeel/TaskQueue" "first" "Lcom/example/evenkeel/evenkeel/QueuedTasks;" (.ref tk) := F13.other W21 (Or.inr (slot_ne (Or.inl (hw _ (List.mem_of_getElem? (i := 37) rfl))) (Or.inl (hw _ (List.mem_of_getElem? (i := 50) rfl))) (by decide) (t := (.object "com/example/evenkeel/evenkeel/QueuedTasks")) (t' := (.object "com/example/evenkeel/evenkeel/QueuedTasks")) (by decide) (by decide)))
  have Z28 : n0 ≤ hX21.size := Nat.le_trans Z19 (Keep.of_wr W21).1
  have K29 : Keep h0 hX21 [ob, tk] := K20.wr W21 (Or.inl (List.mem_of_getElem? (i := 0) rfl))
  obtain ⟨fs, hr, hrun, hended, hW, hsame⟩ := X21.leave (v := none) (fun _ => rfl)
  refine ⟨_, _, pre0 _ ?_, hrun, hended, _, _, rfl, ?_, ⟨_, rfl⟩, hW, hsame.mono (by decide) (by decide)⟩
  · skip
    show Steps p.tables e below (s₁.setTop (mkF m 0 #[.val (.ref ob), .val (.ref tk)] [])) _
    refine XS.aloadN X0.here hx rfl (hb hby d7_0) rfl rfl ?_
    show Steps p.tables e below (s₁.setTop (mkF m 1 #[.val (.ref ob), .val (.ref tk)] [(.ref tk)])) _
    refine XS.aloadN X0.here hx rfl (hb hby d7_1) rfl rfl ?_
    show Steps p.tables e below (s₁.setTop (mkF m 2 #[.val (.ref ob), .val (.ref tk)] [(.ref ob), (.ref tk)])) _
    refine st1 _ ?_
    show Steps p.tables e below (T1.setTop (mkF m 5 #[.val (.ref ob), .val (.ref tk)] [.null, (.ref tk)])) _
    refine st2 _ ?_
    show Steps p.tables e below (T2.setTop (mkF m 8 #[.val (.ref ob), .val (.ref tk)] [])) _
    refine XS.aloadN X2.here hx rfl (hb hby d7_8) rfl rfl ?_
    show Steps p.tables e below (T2.setTop (mkF m 9 #[.val (.ref ob), .val (.ref tk)] [(.ref ob)])) _
    refine st11 _ ?_
    show Steps p.tables e below (T11.setTop (mkF m 12 #[.val (.ref ob), .val (.ref tk)] [.null])) _
    refine XS.ifnonnullNo X11.here hx rfl (hb hby d7_12) rfl ?_
    show Steps p.tables e below (T11.setTop (mkF m 15 #[.val (.ref ob), .val (.ref tk)] [])) _
    refine XS.aloadN X11.here hx rfl (hb hby d7_15) rfl rfl ?_
    show Steps p.tables e below (T11.setTop (mkF m 16 #[.val (.ref ob), .val (.ref tk)] [(.ref ob)])) _
    refine XS.aloadN X11.here hx rfl (hb hby d7_16) rfl rfl ?_
    show Steps p.tables e below (T11.setTop (mkF m 17 #[.val (.ref ob), .val (.ref tk)] [(.ref tk), (.ref ob)])) _
    refine st12 _ ?_
    show Steps p.tables e below (T12.setTop (mkF m 20 #[.val (.ref ob), .val (.ref tk)] [])) _
    refine XS.goto X12.here hx rfl (pc0 := 20) (pc' := 31) rfl (hb hby d7_20) (by decide) (by decide) ?_
    show Steps p.tables e below (T12.setTop (mkF m 31 #[.val (.ref ob), .val (.ref tk)] [])) _
    refine XS.aloadN X12.here hx rfl (hb hby d7_31) rfl rfl ?_
    show Steps p.tables e below (T12.setTop (mkF m 32 #[.val (.ref ob), .val (.ref tk)] [(.ref ob)])) _
    refine XS.aloadN X12.here hx rfl (hb hby d7_32) rfl rfl ?_
    show Steps p.tables e below (T12.setTop (mkF m 33 #[.val (.ref ob), .val (.ref tk)] [(.ref tk), (.ref ob)])) _
    refine st21 _ ?_
    show Steps p.tables e below (T21.setTop (mkF m 36 #[.val (.ref ob), .val (.ref tk)] [])) _
    exact X21.returnOut hx Bd.returns (hb hby d7_36) hr
  · show Q7 Z ob tk h0 n0 _ T21.heap _
    rw [e21]
    exact ⟨rfl, N21, K29, F27, F22, F26, F23, F24, F25⟩
theorem d7_23 : decode prog_20_method_5_code 23 = .ok (.aload_n 0, 1) := by decide +kernel
theorem d7_24 : decode prog_20_method_5_code 24 = .ok (.getfield 18, 3) := by decide +kernel
theorem d7_27 : decode prog_20_method_5_code 27 = .ok (.aload_n 1, 1) := by decide +kernel
theorem d7_28 : decode prog_20_method_5_code 28 = .ok (.putfield 13, 3) := by decide +kernel
theorem ef_7_1 (m : MethodId) (x0 : Addr) (x1 : Addr) : entryFrame m #[(.ref x0), (.ref x1)] 2 = mkF m 0 #[.val (.ref x0), .val (.ref x1)] [] := by first | (simp [entryFrame, mkF, argsToLocals, Value.category]; done) | rfl
def Q7_1 (Z : State) (ob : Addr) (tk : Addr) (ot : Addr) (h0 : Heap) (n0 : Nat) (v : Option Value) (h : Heap) (L : List Loc) : Prop := v = none ∧ Fr n0 L ∧ Keep h0 h [ob, tk, ot] ∧ Fld Z h ob "com/example/evenkeel/evenkeel/TaskQueue" "first" "Lcom/example/evenkeel/evenkeel/QueuedTasks;" (.ref ot) ∧ Fld Z h ob "com/example/evenkeel/evenkeel/TaskQueue" "last" "Lcom/example/evenkeel/evenkeel/QueuedTasks;" (.ref tk) ∧ Fld Z h tk "com/example/evenkeel/evenkeel/QueuedTasks" "before" "Lcom/example/evenkeel/evenkeel/QueuedTasks;" (.ref ot) ∧ Fld Z h tk "com/example/evenkeel/evenkeel/QueuedTasks" "after" "Lcom/example/evenkeel/evenkeel/QueuedTasks;" .null ∧ Fld Z h ot "com/example/evenkeel/evenkeel/QueuedTasks" "before" "Lcom/example/evenkeel/evenkeel/QueuedTasks;" .null ∧ Fld Z h ot "com/example/evenkeel/evenkeel/QueuedTasks" "after" "Lcom/example/evenkeel/evenkeel/QueuedTasks;" (.ref tk) ∧ Exa Z h ot "com/example/evenkeel/evenkeel/QueuedTasks" ∧ Exa Z h ob "com/example/evenkeel/evenkeel/TaskQueue" ∧ Exa Z h tk "com/example/evenkeel/evenkeel/QueuedTasks"
set_option maxRecDepth 65536 in
set_option maxHeartbeats 40000000 in
theorem rm7_1 (l : Launch) (Z : State) (a0 : Array Value) (hw : ∀ d ∈ tables_1, d.before a0 Z = true) (ws : List Jvm.Cond) (ob : Addr) (tk : Addr) (ot : Addr) (h0 : Heap) (n0 : Nat) (Z0 : n0 ≤ h0.size) (I0 : Fld Z h0 ob "com/example/evenkeel/evenkeel/TaskQueue" "first" "Lcom/example/evenkeel/evenkeel/QueuedTasks;" (.ref ot)) (I1 : Fld Z h0 ob "com/example/evenkeel/evenkeel/TaskQueue" "last" "Lcom/example/evenkeel/evenkeel/QueuedTasks;" (.ref ot)) (I2 : Fld Z h0 tk "com/example/evenkeel/evenkeel/QueuedTasks" "before" "Lcom/example/evenkeel/evenkeel/QueuedTasks;" .null) (I3 : Fld Z h0 tk "com/example/evenkeel/evenkeel/QueuedTasks" "after" "Lcom/example/evenkeel/evenkeel/QueuedTasks;" .null) (I4 : Fld Z h0 ot "com/example/evenkeel/evenkeel/QueuedTasks" "before" "Lcom/example/evenkeel/evenkeel/QueuedTasks;" .null) (I5 : Fld Z h0 ot "com/example/evenkeel/evenkeel/QueuedTasks" "after" "Lcom/example/evenkeel/evenkeel/QueuedTasks;" .null) (I6 : Exa Z h0 ot "com/example/evenkeel/evenkeel/QueuedTasks") (I7 : Exa Z h0 ob "com/example/evenkeel/evenkeel/TaskQueue") (I8 : Exa Z h0 tk "com/example/evenkeel/evenkeel/QueuedTasks") (g_ob : n0 ≤ ob) (g_tk : n0 ≤ tk) (g_ot : n0 ≤ ot) (ne_ob_tk : ob ≠ tk) (ne_ob_ot : ob ≠ ot) (ne_tk_ot : tk ≠ ot) :
    MetFree l (⟨"com/example/evenkeel/evenkeel/TaskQueue", "addLast", "(Lcom/example/evenkeel/evenkeel/QueuedTasks;)V"⟩ : MethodName) (head1 (Jvm.Cond.code (⟨"com/example/evenkeel/evenkeel/TaskQueue", "addLast", "(Lcom/example/evenkeel/evenkeel/QueuedTasks;)V"⟩ : MethodName) prog_20_method_5_code 2 none :: ws) ({ frames := 0, cells := 0, slots := 0, locals := 0 } : Room)) (fun a U => a = #[(.ref ob), (.ref tk)] ∧ Z.Warmed39 U.vm ∧ U.heap = h0) (fun _ _ _ _ _ => True) (fun _ U o U' => ∃ v L, o = .returned v ∧ Q7_1 Z ob tk ot h0 n0 v U'.heap L ∧ FrameEnd U o U' L ({ frames := 0, cells := 0, slots := 0, locals := 0 } : Room).cells ({ frames := 0, cells := 0, slots := 0, locals := 0 } : Room).slots) := by
  refine MetFree.of_bodySF (plainFor_of_name pn_7) hisR ?_
  intro p e s m args below meth c s₁ Bd hml0 hP hK
  obtain ⟨rfl, hZ, hh⟩ := hP
  have hx := Bd.exec
  have hby := Bd.bytes
  have hml : c.maxLocals = 2 := hml0
  have hown : s.vm.findClass "com/example/evenkeel/evenkeel/TaskQueue" = some m.cls := findClass_of_methodNamed Bd.named
  have hnm := (name_of_methodNamed Bd.named Bd.method).1
  have X0 : Stand p l e ({ frames := 0, cells := 0, slots := 0, locals := 0 } : Room) s m #[(.ref ob), (.ref tk)] below meth c s₁ [] 0 0 := Stand.of_body Bd
  have e0 : s₁.heap = h0 := by rw [← hh, Bd.state]; rfl
  have N0 := Fr.nil n0
  have K0 : Keep h0 h0 [ob, tk, ot] := Keep.refl h0 _
  have pre0 : ∀ tq, Steps p.tables e below (s₁.setTop (mkF m 0 #[.val (.ref ob), .val (.ref tk)] [])) tq → Steps p.tables e below (s₁.setTop (entryFrame m #[(.ref ob), (.ref tk)] 2)) tq := fun tq kq => castTop (ef_7_1 m ob tk) kq
  obtain ⟨T1, X1, e1, st1⟩ := getF X0 hx hZ hown (host := "") (Or.inl (hw _ (List.mem_of_getElem? (i := 49) rfl))) Via.refl e0 I1 (g := (mkF m 2 #[.val (.ref ob), .val (.ref tk)] [(.ref ob), (.ref tk)])) rfl rfl (hb hby d7_2)
  obtain ⟨T2, hX2, X2, e2, W2, st2⟩ := putF X1 hx hZ hown (host := "") (Or.inl (hw _ (List.mem_of_getElem? (i := 56) rfl))) Via.refl e1 I2 I8 (Or.inl (hw _ (List.mem_of_getElem? (i := 57) rfl))) (hw _ (List.mem_of_getElem? (i := 11) rfl)) (ty := (.object "com/example/evenkeel/evenkeel/QueuedTasks")) (by decide) rfl rfl (g := (mkF m 5 #[.val (.ref ob), .val (.ref tk)] [(.ref ot), (.ref tk)])) rfl rfl (hb hby d7_5)
  have N2 := Fr.snoc X2 N0 g_tk
  have F3 : Fld Z hX2 tk "com/example/evenkeel/evenkeel/QueuedTasks" "before" "Lcom/example/evenkeel/evenkeel/QueuedTasks;" (.ref ot) := I2.same W2
  have F4 : Fld Z hX2 ob "com/example/evenkeel/evenkeel/TaskQueue" "first" "Lcom/example/evenkeel/evenkeel/QueuedTasks;" (.ref ot) := I0.other W2 (Or.inl ne_ob_tk)
  have F5 : Fld Z hX2 ob "com/example/evenkeel/evenkeel/TaskQueue" "last" "Lcom/example/evenkeel/evenkeel/QueuedTasks;" (.ref ot) := I1.other W2 (Or.inl ne_ob_tk)
  have F6 : Fld Z hX2 tk "com/example/evenkeel/evenkeel/QueuedTasks" "after" "Lcom/example/evenkeel/evenkeel/QueuedTasks;" .null := I3.other W2 (Or.inr (slot_ne (Or.inl (hw _ (List.mem_of_getElem? (i := 48) rfl))) (Or.inl (hw _ (List.mem_of_getElem? (i := 57) rfl))) (by decide) (t := (.object "com/example/evenkeel/evenkeel/QueuedTasks")) (t' := (.object "com/example/evenkeel/evenkeel/QueuedTasks")) (by decide) (by decide)))
  have F7 : Fld Z hX2 ot "com/example/evenkeel/evenkeel/QueuedTasks" "before" "Lcom/example/evenkeel/evenkeel/QueuedTasks;" .null := I4.other W2 (Or.inl (Ne.symm ne_tk_ot))
  have F8 : Fld Z hX2 ot "com/example/evenkeel/evenkeel/QueuedTasks" "after" "Lcom/example/evenkeel/evenkeel/QueuedTasks;" .null := I5.other W2 (Or.inl (Ne.symm ne_tk_ot))
  have F9 : Exa Z hX2 ot "com/example/evenkeel/evenkeel/QueuedTasks" := I6.wr W2
  have F10 : Exa Z hX2 ob "com/example/evenkeel/evenkeel/TaskQueue" := I7.wr W2
  have F11 : Exa Z hX2 tk "com/example/evenkeel/evenkeel/QueuedTasks" := I8.wr W2
  have Z12 : n0 ≤ hX2.size := Nat.le_trans Z0 (Keep.of_wr W2).1
  have K13 : Keep h0 hX2 [ob, tk, ot] := K0.wr W2 (Or.inl (List.mem_of_getElem? (i := 1) rfl))
  obtain ⟨T14, X14, e14, st14⟩ := getF X2 hx hZ hown (host := "") (Or.inl (hw _ (List.mem_of_getElem? (i := 49) rfl))) Via.refl e2 F5 (g := (mkF m 9 #[.val (.ref ob), .val (.ref tk)] [(.ref ob)])) rfl rfl (hb hby d7_9)
  obtain ⟨T15, X15, e15, st15⟩ := getF X14 hx hZ hown (host := "") (Or.inl (hw _ (List.mem_of_getElem? (i := 49) rfl))) Via.refl e14 F5 (g := (mkF m 24 #[.val (.ref ob), .val (.ref tk)] [(.ref ob)])) rfl rfl (hb hby d7_24)
  obtain ⟨T16, hX16, X16, e16, W16, st16⟩ := putF X15 hx hZ hown (host := "") (Or.inl (hw _ (List.mem_of_getElem? (i := 47) rfl))) Via.refl e15 F8 F9 (Or.inl (hw _ (List.mem_of_getElem? (i := 48) rfl))) (hw _ (List.mem_of_getElem? (i := 11) rfl)) (ty := (.object "com/example/evenkeel/evenkeel/QueuedTasks")) (by decide) rfl rfl (g := (mkF m 28 #[.val (.ref ob), .val (.ref tk)] [(.ref tk), (.ref ot)])) rfl rfl (hb hby d7_28)
  have N16 := Fr.snoc X16 N2 g_ot
  have F17 : Fld Z hX16 ot "com/example/evenkeel/evenkeel/QueuedTasks" "after" "Lcom/example/evenkeel/evenkeel/QueuedTasks;" (.ref tk) := F8.same W16
  have F18 : Fld Z hX16 ob "com/example/evenkeel/evenkeel/TaskQueue" "first" "Lcom/example/evenkeel/evenkeel/QueuedTasks;" (.ref ot) := F4.other W16 (Or.inl ne_ob_ot)
  have F19 : Fld Z hX16 ob "com/example/evenkeel/evenkeel/TaskQueue" "last" "Lcom/example/evenkeel/evenkeel/QueuedTasks;" (.ref ot) := F5.other W16 (Or.inl ne_ob_ot)
  have F20 : Fld Z hX16 tk "com/example/evenkeel/evenkeel/QueuedTasks" "after" "Lcom/example/evenkeel/evenkeel/QueuedTasks;" .null := F6.other W16 (Or.inl ne_tk_ot)
  have F21 : Fld Z hX16 ot "com/example/evenkeel/evenkeel/QueuedTasks" "before" "Lcom/example/evenkeel/evenkeel/QueuedTasks;" .null := F7.other W16 (Or.inr (slot_ne (Or.inl (hw _ (List.mem_of_getElem? (i := 57) rfl))) (Or.inl (hw _ (List.mem_of_getElem? (i := 48) rfl))) (by decide) (t := (.object "com/example/evenkeel/evenkeel/QueuedTasks")) (t' := (.object "com/example/evenkeel/evenkeel/QueuedTasks")) (by decide) (by decide)))
  have F22 : Exa Z hX16 ot "com/example/evenkeel/evenkeel/QueuedTasks" := F9.wr W16
  have F23 : Exa Z hX16 ob "com/example/evenkeel/evenkeel/TaskQueue" := F10.wr W16
  have F24 : Exa Z hX16 tk "com/example/evenkeel/evenkeel/QueuedTasks" := F11.wr W16
  have F25 : Fld Z hX16 tk "com/example/evenkeel/evenkeel/QueuedTasks" "before" "Lcom/example/evenkeel/evenkeel/QueuedTasks;" (.ref ot) := F3.other W16 (Or.inl ne_tk_ot)
  have Z26 : n0 ≤ hX16.size := Nat.le_trans Z12 (Keep.of_wr W16).1
  have K27 : Keep h0 hX16 [ob, tk, ot] := K13.wr W16 (Or.inl (List.mem_of_getElem? (i := 2) rfl))
  obtain ⟨T28, hX28, X28, e28, W28, st28⟩ := putF X16 hx hZ hown (host := "") (Or.inl (hw _ (List.mem_of_getElem? (i := 49) rfl))) Via.refl e16 F19 F23 (Or.inl (hw _ (List.mem_of_getElem? (i := 50) rfl))) (hw _ (List.mem_of_getElem? (i := 1) rfl)) (ty := (.object "com/example/evenkeel/evenkeel/QueuedTasks")) (by decide) rfl rfl (g := (mkF m 33 #[.val (.ref ob), .val (.ref tk)] [(.ref tk), (.ref ob)])) rfl rfl (hb hby d7_33)
  have N28 := Fr.snoc X28 N16 g_ob
  have F29 : Fld Z hX28 ob "com/example/evenkeel/evenkeel/TaskQueue" "last" "Lcom/example/evenkeel/evenkeel/QueuedTasks;" (.ref tk) := F19.same W28
  have F30 : Fld Z hX28 ob "com/example/evenkeel/evenkeel/TaskQueue" "first" "Lcom/example/evenkeel/evenkeel/QueuedTasks;" (.ref ot) := F18.other W28 (Or.inr (slot_ne (Or.inl (hw _ (List.mem_of_getElem? (i := 37) rfl))) (Or.inl (hw _ (List.mem_of_getElem? (i := 50) rfl))) (by decide) (t := (.object "com/example/evenkeel/evenkeel/QueuedTasks")) (t' := (.object "com/example/evenkeel/evenkeel/QueuedTasks")) (by decide) (by decide)))
  have F31 : Fld Z hX28 tk "com/example/evenkeel/evenkeel/QueuedTasks" "after" "Lcom/example/evenkeel/evenkeel/QueuedTasks;" .null := F20.other W28 (Or.inl (Ne.symm ne_ob_tk))
  have F32 : Fld Z hX28 ot "com/example/evenkeel/evenkeel/QueuedTasks" "before" "Lcom/example/evenkeel/evenkeel/QueuedTasks;" .null := F21.other W28 (Or.inl (Ne.symm ne_ob_ot))
  have F33 : Exa Z hX28 ot "com/example/evenkeel/evenkeel/QueuedTasks" := F22.wr W28
  have F34 : Exa Z hX28 ob "com/example/evenkeel/evenkeel/TaskQueue" := F23.wr W28
  have F35 : Exa Z hX28 tk "com/example/evenkeel/evenkeel/QueuedTasks" := F24.wr W28
  have F36 : Fld Z hX28 tk "com/example/evenkeel/evenkeel/QueuedTasks" "before" "Lcom/example/evenkeel/evenkeel/QueuedTasks;" (.ref ot) := F25.other W28 (Or.inl (Ne.symm ne_ob_tk))
  have F37 : Fld Z hX28 ot "com/example/evenkeel/evenkeel/QueuedTasks" "after" "Lcom/example/evenkeel/evenkeel/QueuedTasks;" (.ref tk) := F17.other W28 (Or.inl (Ne.symm ne_ob_ot))
  have Z38 : n0 ≤ hX28.size := Nat.le_trans Z26 (Keep.of_wr W28).1
  have K39 : Keep h0 hX28 [ob, tk, ot] := K27.wr W28 (Or.inl (List.mem_of_getElem? (i := 0) rfl))
  obtain ⟨fs, hr, hrun, hended, hW, hsame⟩ := X28.leave (v := none) (fun _ => rfl)
  refine ⟨_, _, pre0 _ ?_, hrun, hended, _, _, rfl, ?_, ⟨_, rfl⟩, hW, hsame.mono (by decide) (by decide)⟩
  · skip
    show Steps p.tables e below (s₁.setTop (mkF m 0 #[.val (.ref ob), .val (.ref tk)] [])) _
    refine XS.aloadN X0.here hx rfl (hb hby d7_0) rfl rfl ?_
    show Steps p.tables e below (s₁.setTop (mkF m 1 #[.val (.ref ob), .val (.ref tk)] [(.ref tk)])) _
    refine XS.aloadN X0.here hx rfl (hb hby d7_1) rfl rfl ?_
    show Steps p.tables e below (s₁.setTop (mkF m 2 #[.val (.ref ob), .val (.ref tk)] [(.ref ob), (.ref tk)])) _
    refine st1 _ ?_
    show Steps p.tables e below (T1.setTop (mkF m 5 #[.val (.ref ob), .val (.ref tk)] [(.ref ot), (.ref tk)])) _
    refine st2 _ ?_
    show Steps p.tables e below (T2.setTop (mkF m 8 #[.val (.ref ob), .val (.ref tk)] [])) _
    refine XS.aloadN X2.here hx rfl (hb hby d7_8) rfl rfl ?_
    show Steps p.tables e below (T2.setTop (mkF m 9 #[.val (.ref ob), .val (.ref tk)] [(.ref ob)])) _
    refine st14 _ ?_
    show Steps p.tables e below (T14.setTop (mkF m 12 #[.val (.ref ob), .val (.ref tk)] [(.ref ot)])) _
    refine XS.ifnonnullYes X14.here hx rfl (pc0 := 12) (pc' := 23) rfl (hb hby d7_12) rfl (by decide) (by decide) ?_
    show Steps p.tables e below (T14.setTop (mkF m 23 #[.val (.ref ob), .val (.ref tk)] [])) _
    refine XS.aloadN X14.here hx rfl (hb hby d7_23) rfl rfl ?_
    show Steps p.tables e below (T14.setTop (mkF m 24 #[.val (.ref ob), .val (.ref tk)] [(.ref ob)])) _
    refine st15 _ ?_
    show Steps p.tables e below (T15.setTop (mkF m 27 #[.val (.ref ob), .val (.ref tk)] [(.ref ot)])) _
    refine XS.aloadN X15.here hx rfl (hb hby d7_27) rfl rfl ?_
    show Steps p.tables e below (T15.setTop (mkF m 28 #[.val (.ref ob), .val (.ref tk)] [(.ref tk), (.ref ot)])) _
    refine st16 _ ?_
    show Steps p.tables e below (T16.setTop (mkF m 31 #[.val (.ref ob), .val (.ref tk)] [])) _
    refine XS.aloadN X16.here hx rfl (hb hby d7_31) rfl rfl ?_
    show Steps p.tables e below (T16.setTop (mkF m 32 #[.val (.ref ob), .val (.ref tk)] [(.ref ob)])) _
    refine XS.aloadN X16.here hx rfl (hb hby d7_32) rfl rfl ?_
    show Steps p.tables e below (T16.setTop (mkF m 33 #[.val (.ref ob), .val (.ref tk)] [(.ref tk), (.ref ob)])) _
    refine st28 _ ?_
    show Steps p.tables e below (T28.setTop (mkF m 36 #[.val (.ref ob), .val (.ref tk)] [])) _
    exact X28.returnOut hx Bd.returns (hb hby d7_36) hr
  · show Q7_1 Z ob tk ot h0 n0 _ T28.heap _
    rw [e28]
    exact ⟨rfl, N28, K39, F30, F29, F36, F31, F32, F37, F33, F34, F35⟩
theorem d5_0 : decode method_3_code 0 = .ok (.iload_n 3, 1) := by decide +kernel
theorem d5_1 : decode method_3_code 1 = .ok (.iconst 1, 1) := by decide +kernel
theorem d5_2 : decode method_3_code 2 = .ok (.iand, 1) := by decide +kernel
theorem d5_3 : decode method_3_code 3 = .ok (.istore 4, 2) := by decide +kernel
theorem d5_5 : decode method_3_code 5 = .ok (.iload_n 3, 1) := by decide +kernel
theorem d5_6 : decode method_3_code 6 = .ok (.iconst 1, 1) := by decide +kernel
theorem d5_7 : decode method_3_code 7 = .ok (.iushr, 1) := by decide +kernel
theorem d5_8 : decode method_3_code 8 = .ok (.iconst 1, 1) := by decide +kernel
theorem d5_9 : decode method_3_code 9 = .ok (.iand, 1) := by decide +kernel
theorem d5_10 : decode method_3_code 10 = .ok (.istore 5, 2) := by decide +kernel
theorem d5_12 : decode method_3_code 12 = .ok (.aload_n 2, 1) := by decide +kernel
theorem d5_13 : decode method_3_code 13 = .ok (.iload 4, 2) := by decide +kernel
theorem d5_15 : decode method_3_code 15 = .ok (.baload, 1) := by decide +kernel
theorem d5_16 : decode method_3_code 16 = .ok (.ifCond .eq 19, 3) := by decide +kernel
theorem d5_35 : decode method_3_code 35 = .ok (.iload 5, 2) := by decide +kernel
theorem d5_37 : decode method_3_code 37 = .ok (.ifCond .ne 14, 3) := by decide +kernel
theorem d5_40 : decode method_3_code 40 = .ok (.aload_n 0, 1) := by decide +kernel
theorem d5_41 : decode method_3_code 41 = .ok (.aload_n 1, 1) := by decide +kernel
theorem d5_42 : decode method_3_code 42 = .ok (.iload 4, 2) := by decide +kernel
theorem d5_44 : decode method_3_code 44 = .ok (.aaload, 1) := by decide +kernel
theorem d5_45 : decode method_3_code 45 = .ok (.invokevirtual 29, 3) := by decide +kernel
theorem d5_48 : decode method_3_code 48 = .ok (.goto 11, 3) := by decide +kernel
theorem d5_59 : decode method_3_code 59 = .ok (.aload_n 2, 1) := by decide +kernel
theorem d5_60 : decode method_3_code 60 = .ok (.iload 4, 2) := by decide +kernel
theorem d5_62 : decode method_3_code 62 = .ok (.iconst 1, 1) := by decide +kernel
theorem d5_63 : decode method_3_code 63 = .ok (.bastore, 1) := by decide +kernel
theorem d5_64 : decode method_3_code 64 = .ok (.aload_n 2, 1) := by decide +kernel
theorem d5_65 : decode method_3_code 65 = .ok (.iconst 0, 1) := by decide +kernel
theorem d5_66 : decode method_3_code 66 = .ok (.baload, 1) := by decide +kernel
theorem d5_67 : decode method_3_code 67 = .ok (.ifCond .ne 13, 3) := by decide +kernel
theorem d5_80 : decode method_3_code 80 = .ok (.iconst 0, 1) := by decide +kernel
theorem d5_81 : decode method_3_code 81 = .ok (.istore 6, 2) := by decide +kernel
theorem d5_83 : decode method_3_code 83 = .ok (.aload_n 0, 1) := by decide +kernel
theorem d5_84 : decode method_3_code 84 = .ok (.invokevirtual 15, 3) := by decide +kernel
theorem d5_87 : decode method_3_code 87 = .ok (.iload 6, 2) := by decide +kernel
theorem d5_89 : decode method_3_code 89 = .ok (.if_icmp .ne 7, 3) := by decide +kernel
theorem d5_92 : decode method_3_code 92 = .ok (.iconst 1, 1) := by decide +kernel
theorem d5_93 : decode method_3_code 93 = .ok (.goto 4, 3) := by decide +kernel
theorem d5_97 : decode method_3_code 97 = .ok (.ireturn, 1) := by decide +kernel
theorem pn_5 : plainName "com/example/evenkeel/evenkeel/TaskQueueIsEmptyPinLaw" = true := by first | (simp [plainName, overriddenIn]; done) | decide +kernel
theorem pd_0 : parseMethodDescriptor "(Lcom/example/evenkeel/evenkeel/QueuedTasks;)V" = some ⟨[(.object "com/example/evenkeel/evenkeel/QueuedTasks")], none⟩ := by decide +kernel
theorem pd_1 : parseMethodDescriptor "()Z" = some ⟨[], some .boolean⟩ := by decide +kernel
theorem ef_5 (m : MethodId) (x0 : Addr) (x1 : Addr) (x2 : Addr) (x3 : Int32) : entryFrame m #[(.ref x0), (.ref x1), (.ref x2), (.int x3)] 7 = mkF m 0 #[.val (.ref x0), .val (.ref x1), .val (.ref x2), .val (.int x3), .unset, .unset, .unset] [] := by first | (simp [entryFrame, mkF, argsToLocals, Value.category]; done) | rfl
theorem own_split_5_5 (cd : Int32) (hk : (cd &&& (1 : Int32)) = (0 : Int32)) (hd : ((cd.toUInt32 >>> ((1 : Int32) &&& 31).toUInt32).toInt32 &&& (1 : Int32)) = (0 : Int32)) (v3 : Int32) (hv3 : v3 = (cd &&& (1 : Int32))) : v3 = (0 : Int32) := by rw [hv3]; exact hk
theorem own_split_5_12_s0 (cd : Int32) (hk : (cd &&& (1 : Int32)) = (0 : Int32)) (hd : ((cd.toUInt32 >>> ((1 : Int32) &&& 31).toUInt32).toInt32 &&& (1 : Int32)) = (0 : Int32)) (hv3 : (0 : Int32) = (cd &&& (1 : Int32))) (v10 : Int32) (hv10 : v10 = (((cd.toUInt32 >>> ((1 : Int32) &&& 31).toUInt32).toInt32) &&& (1 : Int32))) : v10 = (0 : Int32) := by rw [hv10]; exact hd
def Q5 (Z : State) (q : Addr) (ra : Addr) (ib : Addr) (cd : Int32) (ta : Addr) (tb : Addr) (ka : ClassId) (kb : ClassId) (h0 : Heap) (n0 : Nat) (v : Option Value) (h : Heap) (L : List Loc) : Prop := v = some (.int (1 : Int32)) ∧ Fr n0 L ∧ Keep h0 h [q, ta, tb, ib] ∧ Exa Z h q "com/example/evenkeel/evenkeel/TaskQueue" ∧ Exa Z h ta "com/example/evenkeel/evenkeel/QueuedTasks" ∧ Exa Z h tb "com/example/evenkeel/evenkeel/QueuedTasks" ∧ Arv Z h ra ka (.object "com/example/evenkeel/evenkeel/QueuedTasks") (2 : Int32) [(.ref ta), (.ref tb)] .null ∧ Arv Z h ib kb .boolean (2 : Int32) [(.int (1 : Int32)), (.int (0 : Int32))] (.int (0 : Int32)) ∧ Fld Z h q "com/example/evenkeel/evenkeel/TaskQueue" "first" "Lcom/example/evenkeel/evenkeel/QueuedTasks;" (.ref ta) ∧ Fld Z h q "com/example/evenkeel/evenkeel/TaskQueue" "last" "Lcom/example/evenkeel/evenkeel/QueuedTasks;" (.ref ta) ∧ Fld Z h ta "com/example/evenkeel/evenkeel/QueuedTasks" "before" "Lcom/example/evenkeel/evenkeel/QueuedTasks;" .null ∧ Fld Z h ta "com/example/evenkeel/evenkeel/QueuedTasks" "after" "Lcom/example/evenkeel/evenkeel/QueuedTasks;" .null ∧ Fld Z h tb "com/example/evenkeel/evenkeel/QueuedTasks" "before" "Lcom/example/evenkeel/evenkeel/QueuedTasks;" .null ∧ Fld Z h tb "com/example/evenkeel/evenkeel/QueuedTasks" "after" "Lcom/example/evenkeel/evenkeel/QueuedTasks;" .null
set_option maxRecDepth 65536 in
set_option maxHeartbeats 40000000 in
theorem rm5 (l : Launch) (Z : State) (a0 : Array Value) (hw : ∀ d ∈ tables_1, d.before a0 Z = true) (ws : List Jvm.Cond) (q : Addr) (ra : Addr) (ib : Addr) (cd : Int32) (ta : Addr) (tb : Addr) (ka : ClassId) (kb : ClassId) (h0 : Heap) (n0 : Nat) (Z0 : n0 ≤ h0.size) (I0 : Exa Z h0 q "com/example/evenkeel/evenkeel/TaskQueue") (I1 : Exa Z h0 ta "com/example/evenkeel/evenkeel/QueuedTasks") (I2 : Exa Z h0 tb "com/example/evenkeel/evenkeel/QueuedTasks") (I3 : Arv Z h0 ra ka (.object "com/example/evenkeel/evenkeel/QueuedTasks") (2 : Int32) [(.ref ta), (.ref tb)] .null) (I4 : Arv Z h0 ib kb .boolean (2 : Int32) [(.int (0 : Int32)), (.int (0 : Int32))] (.int (0 : Int32))) (I5 : Fld Z h0 q "com/example/evenkeel/evenkeel/TaskQueue" "first" "Lcom/example/evenkeel/evenkeel/QueuedTasks;" .null) (I6 : Fld Z h0 q "com/example/evenkeel/evenkeel/TaskQueue" "last" "Lcom/example/evenkeel/evenkeel/QueuedTasks;" .null) (I7 : Fld Z h0 ta "com/example/evenkeel/evenkeel/QueuedTasks" "before" "Lcom/example/evenkeel/evenkeel/QueuedTasks;" .null) (I8 : Fld Z h0 ta "com/example/evenkeel/evenkeel/QueuedTasks" "after" "Lcom/example/evenkeel/evenkeel/QueuedTasks;" .null) (I9 : Fld Z h0 tb "com/example/evenkeel/evenkeel/QueuedTasks" "before" "Lcom/example/evenkeel/evenkeel/QueuedTasks;" .null) (I10 : Fld Z h0 tb "com/example/evenkeel/evenkeel/QueuedTasks" "after" "Lcom/example/evenkeel/evenkeel/QueuedTasks;" .null) (g_q : n0 ≤ q) (g_ta : n0 ≤ ta) (g_tb : n0 ≤ tb) (g_ib : n0 ≤ ib) (ne_q_ta : q ≠ ta) (ne_q_tb : q ≠ tb) (ne_ta_tb : ta ≠ tb) (ne_ra_q : ra ≠ q) (ne_ra_ta : ra ≠ ta) (ne_ra_tb : ra ≠ tb) (ne_ib_q : ib ≠ q) (ne_ib_ta : ib ≠ ta) (ne_ib_tb : ib ≠ tb) (ne_ra_ib : ra ≠ ib) (hk : (cd &&& (1 : Int32)) = (0 : Int32)) (hd : ((cd.toUInt32 >>> ((1 : Int32) &&& 31).toUInt32).toInt32 &&& (1 : Int32)) = (0 : Int32)) :
    MetFree l (⟨"com/example/evenkeel/evenkeel/TaskQueueIsEmptyPinLaw", "step", "(Lcom/example/evenkeel/evenkeel/TaskQueue;[Lcom/example/evenkeel/evenkeel/QueuedTasks;[ZI)Z"⟩ : MethodName) (head1 (Jvm.Cond.code (⟨"com/example/evenkeel/evenkeel/TaskQueueIsEmptyPinLaw", "step", "(Lcom/example/evenkeel/evenkeel/TaskQueue;[Lcom/example/evenkeel/evenkeel/QueuedTasks;[ZI)Z"⟩ : MethodName) method_3_code 7 (some .boolean) :: ws) ({ frames := 1, cells := 0, slots := 0, locals := 13 } : Room)) (fun a U => a = #[(.ref q), (.ref ra), (.ref ib), (.int cd)] ∧ Z.Warmed39 U.vm ∧ U.heap = h0) (fun _ _ _ _ _ => True) (fun _ U o U' => ∃ v L, o = .returned v ∧ Q5 Z q ra ib cd ta tb ka kb h0 n0 v U'.heap L ∧ FrameEnd U o U' L ({ frames := 1, cells := 0, slots := 0, locals := 13 } : Room).cells ({ frames := 1, cells := 0, slots := 0, locals := 13 } : Room).slots) := by
  refine MetFree.of_bodySF (plainFor_of_name pn_5) hisR ?_
  intro p e s m args below meth c s₁ Bd hml0 hP hK
  obtain ⟨rfl, hZ, hh⟩ := hP
  have hx := Bd.exec
  have hby := Bd.bytes
  have hml : c.maxLocals = 7 := hml0
  have hown : s.vm.findClass "com/example/evenkeel/evenkeel/TaskQueueIsEmptyPinLaw" = some m.cls := findClass_of_methodNamed Bd.named
  have hnm := (name_of_methodNamed Bd.named Bd.method).1
  have X0 : Stand p l e ({ frames := 1, cells := 0, slots := 0, locals := 13 } : Room) s m #[(.ref q), (.ref ra), (.ref ib), (.int cd)] below meth c s₁ [] 0 0 := Stand.of_body Bd
  have e0 : s₁.heap = h0 := by rw [← hh, Bd.state]; rfl
  have N0 := Fr.nil n0
  have K0 : Keep h0 h0 [q, ta, tb, ib] := Keep.refl h0 _
  have pre0 : ∀ tq, Steps p.tables e below (s₁.setTop (mkF m 0 #[.val (.ref q), .val (.ref ra), .val (.ref ib), .val (.int cd), .unset, .unset, .unset] [])) tq → Steps p.tables e below (s₁.setTop (entryFrame m #[(.ref q), (.ref ra), (.ref ib), (.int cd)] 7)) tq := fun tq kq => castTop (ef_5 m q ra ib cd) kq
  obtain ⟨v3, hv3⟩ : ∃ z_q : Int32, z_q = (cd &&& (1 : Int32)) := ⟨_, rfl⟩
  have pre1 : ∀ tq, Steps p.tables e below (s₁.setTop (mkF m 5 #[.val (.ref q), .val (.ref ra), .val (.ref ib), .val (.int cd), .val (.int v3), .unset, .unset] [])) tq → Steps p.tables e below (s₁.setTop (entryFrame m #[(.ref q), (.ref ra), (.ref ib), (.int cd)] 7)) tq := by
    intro tq kt
    refine pre0 _ ?_
    show Steps p.tables e below (s₁.setTop (mkF m 0 #[.val (.ref q), .val (.ref ra), .val (.ref ib), .val (.int cd), .unset, .unset, .unset] [])) _
    refine XS.iloadN X0.here hx rfl (hb hby d5_0) rfl ?_
    show Steps p.tables e below (s₁.setTop (mkF m 1 #[.val (.ref q), .val (.ref ra), .val (.ref ib), .val (.int cd), .unset, .unset, .unset] [(.int cd)])) _
    refine XS.iconst X0.here hx rfl (hb hby d5_1) ?_
    show Steps p.tables e below (s₁.setTop (mkF m 2 #[.val (.ref q), .val (.ref ra), .val (.ref ib), .val (.int cd), .unset, .unset, .unset] [(.int (1 : Int32)), (.int cd)])) _
    refine XS.iand X0.here hx rfl (hb hby d5_2) rfl ?_
    show Steps p.tables e below (s₁.setTop (mkF m 3 #[.val (.ref q), .val (.ref ra), .val (.ref ib), .val (.int cd), .unset, .unset, .unset] [(.int (cd &&& (1 : Int32)))])) _
    refine XS.istore X0.here hx rfl (hb hby d5_3) rfl (l' := #[.val (.ref q), .val (.ref ra), .val (.ref ib), .val (.int cd), .val (.int v3), .unset, .unset]) (by rw [hv3]; rfl) ?_
    show Steps p.tables e below (s₁.setTop (mkF m 5 #[.val (.ref q), .val (.ref ra), .val (.ref ib), .val (.int cd), .val (.int v3), .unset, .unset] [])) _
    exact kt
  rcases (own_split_5_5 cd hk hd v3 hv3) with hs2
  · subst hs2
    obtain ⟨v10, hv10⟩ : ∃ z_q : Int32, z_q = (((cd.toUInt32 >>> ((1 : Int32) &&& 31).toUInt32).toInt32) &&& (1 : Int32)) := ⟨_, rfl⟩
    have pre3 : ∀ tq, Steps p.tables e below (s₁.setTop (mkF m 12 #[.val (.ref q), .val (.ref ra), .val (.ref ib), .val (.int cd), .val (.int (0 : Int32)), .val (.int v10), .unset] [])) tq → Steps p.tables e below (s₁.setTop (entryFrame m #[(.ref q), (.ref ra), (.ref ib), (.int cd)] 7)) tq := by
      intro tq kt
      refine pre1 _ ?_
      show Steps p.tables e below (s₁.setTop (mkF m 5 #[.val (.ref q), .val (.ref ra), .val (.ref ib), .val (.int cd), .val (.int (0 : Int32)), .unset, .unset] [])) _
      refine XS.iloadN X0.here hx rfl (hb hby d5_5) rfl ?_
      show Steps p.tables e below (s₁.setTop (mkF m 6 #[.val (.ref q), .val (.ref ra), .val (.ref ib), .val (.int cd), .val (.int (0 : Int32)), .unset, .unset] [(.int cd)])) _
      refine XS.iconst X0.here hx rfl (hb hby d5_6) ?_
      show Steps p.tables e below (s₁.setTop (mkF m 7 #[.val (.ref q), .val (.ref ra), .val (.ref ib), .val (.int cd), .val (.int (0 : Int32)), .unset, .unset] [(.int (1 : Int32)), (.int cd)])) _
      refine XS.iushr X0.here hx rfl (hb hby d5_7) rfl ?_
      show Steps p.tables e below (s₁.setTop (mkF m 8 #[.val (.ref q), .val (.ref ra), .val (.ref ib), .val (.int cd), .val (.int (0 : Int32)), .unset, .unset] [(.int ((cd.toUInt32 >>> ((1 : Int32) &&& 31).toUInt32).toInt32))])) _
      refine XS.iconst X0.here hx rfl (hb hby d5_8) ?_
      show Steps p.tables e below (s₁.setTop (mkF m 9 #[.val (.ref q), .val (.ref ra), .val (.ref ib), .val (.int cd), .val (.int (0 : Int32)), .unset, .unset] [(.int (1 : Int32)), (.int ((cd.toUInt32 >>> ((1 : Int32) &&& 31).toUInt32).toInt32))])) _
      refine XS.iand X0.here hx rfl (hb hby d5_9) rfl ?_
      show Steps p.tables e below (s₁.setTop (mkF m 10 #[.val (.ref q), .val (.ref ra), .val (.ref ib), .val (.int cd), .val (.int (0 : Int32)), .unset, .unset] [(.int (((cd.toUInt32 >>> ((1 : Int32) &&& 31).toUInt32).toInt32) &&& (1 : Int32)))])) _
      refine XS.istore X0.here hx rfl (hb hby d5_10) rfl (l' := #[.val (.ref q), .val (.ref ra), .val (.ref ib), .val (.int cd), .val (.int (0 : Int32)), .val (.int v10), .unset]) (by rw [hv10]; rfl) ?_
      show Steps p.tables e below (s₁.setTop (mkF m 12 #[.val (.ref q), .val (.ref ra), .val (.ref ib), .val (.int cd), .val (.int (0 : Int32)), .val (.int v10), .unset] [])) _
      exact kt
    rcases (own_split_5_12_s0 cd hk hd hv3 v10 hv10) with hs4
    · subst hs4
      obtain ⟨cl5, Ar5, q5, S5, M5, H5, G5⟩ := id I4
      have hin5 : ¬ ((0 : Int32) < 0 ∨ cl5.slots.size ≤ ((0 : Int32)).toNatClampNeg) := inb_of S5 ⟨by decide, by decide⟩
      have hat5 : cl5.slots[((0 : Int32)).toNatClampNeg]? = some (.int (0 : Int32)) := Has.at H5 hin5 rfl
      obtain ⟨cl6, Ar6, q6, S6, M6, H6, G6⟩ := id I3
      have hin6 : ¬ ((0 : Int32) < 0 ∨ cl6.slots.size ≤ ((0 : Int32)).toNatClampNeg) := inb_of S6 ⟨by decide, by decide⟩
      have hat6 : cl6.slots[((0 : Int32)).toNatClampNeg]? = some (.ref ta) := Has.at H6 hin6 rfl
      obtain ⟨cq7, kq7, q7a, q7b, q7c⟩ := isOf hZ e0 I0
      obtain ⟨_, _, ⟨T7, L7, k7, n7⟩, -, X7, ⟨Lc7, hQ7, l7, y7, z7⟩, st7⟩ := X0.virtualBack hx (y := (⟨"com/example/evenkeel/evenkeel/TaskQueue", "addFirst", "(Lcom/example/evenkeel/evenkeel/QueuedTasks;)V"⟩ : MethodName)) (z := (⟨"com/example/evenkeel/evenkeel/TaskQueue", "addFirst", "(Lcom/example/evenkeel/evenkeel/QueuedTasks;)V"⟩ : MethodName)) hown (mvT hZ (hw _ (List.mem_of_getElem? (i := 42) rfl))) (mvT hZ (hw _ (List.mem_of_getElem? (i := 43) rfl))) (notFace_of_selects (args := #[]) (mvT hZ (hw _ (List.mem_of_getElem? (i := 45) rfl)))) (mvT hZ (hw _ (List.mem_of_getElem? (i := 45) rfl))) (mvT hZ (hw _ (List.mem_of_getElem? (i := 44) rfl))) (by decide) (backOf (W := 0) (rm6 l Z a0 hw [] q ta h0 n0 Z0 I5 I6 I7 I8 I0 I1 g_q g_ta ne_q_ta) hZ (hw _ (List.mem_of_getElem? (i := 46) rfl)) (hw _ (List.mem_of_getElem? (i := 2) rfl)) (by decide) (by decide)) q7a q7c (g := (mkF m 45 #[.val (.ref q), .val (.ref ra), .val (.ref ib), .val (.int cd), .val (.int (0 : Int32)), .val (.int (0 : Int32)), .unset] [(.ref ta), (.ref q)])) rfl (by rw [hml]; rfl) (Steps.refl _) (argsL := [(.ref ta)]) (rest := []) (lenOf pd_0 rfl) rfl (by show 2 * 0 + _ ≤ _; exact Nat.le_of_eq rfl) (hb hby d5_45) (fun _ _ => ⟨rfl, e0, (by decide : 0 + 0 ≤ _), (by decide : 0 + 0 ≤ _)⟩)
      dsimp only [Pt.U, Pt.locs, Pt.cells, Pt.slots] at X7 l7 y7 z7 st7 hQ7
      subst l7 y7 z7
      obtain ⟨rfl, N7q, K7q, F8, F9, F10, F11, F12, F13⟩ := hQ7
      have N7 := Fr.app N0 N7q
      have F14 : Exa Z T7.heap q "com/example/evenkeel/evenkeel/TaskQueue" := I0.keep K7q
      have F15 : Exa Z T7.heap ta "com/example/evenkeel/evenkeel/QueuedTasks" := I1.keep K7q
      have F16 : Exa Z T7.heap tb "com/example/evenkeel/evenkeel/QueuedTasks" := I2.keep K7q
      have F17 : Arv Z T7.heap ra ka (.object "com/example/evenkeel/evenkeel/QueuedTasks") (2 : Int32) [(.ref ta), (.ref tb)] .null := I3.keep K7q (ninS ne_ra_q (ninS ne_ra_ta nin0))
      have F18 : Arv Z T7.heap ib kb .boolean (2 : Int32) [(.int (0 : Int32)), (.int (0 : Int32))] (.int (0 : Int32)) := I4.keep K7q (ninS ne_ib_q (ninS ne_ib_ta nin0))
      have F19 : Fld Z T7.heap tb "com/example/evenkeel/evenkeel/QueuedTasks" "before" "Lcom/example/evenkeel/evenkeel/QueuedTasks;" .null := I9.keep K7q (ninS (Ne.symm ne_q_tb) (ninS (Ne.symm ne_ta_tb) nin0))
      have F20 : Fld Z T7.heap tb "com/example/evenkeel/evenkeel/QueuedTasks" "after" "Lcom/example/evenkeel/evenkeel/QueuedTasks;" .null := I10.keep K7q (ninS (Ne.symm ne_q_tb) (ninS (Ne.symm ne_ta_tb) nin0))
      have Z21 : n0 ≤ T7.heap.size := Nat.le_trans Z0 K7q.1
      have K22 : Keep h0 T7.heap [q, ta, tb, ib] := K0.trans K7q (allS (Or.inl (List.mem_of_getElem? (i := 0) rfl)) (allS (Or.inl (List.mem_of_getElem? (i := 1) rfl)) all0))
      obtain ⟨cl23, Ar23, q23, S23, M23, H23, G23⟩ := id F18
      have hin23 : ¬ ((0 : Int32) < 0 ∨ cl23.slots.size ≤ ((0 : Int32)).toNatClampNeg) := inb_of S23 ⟨by decide, by decide⟩
      obtain ⟨T23, hX23, X23, e23, W23, st23⟩ := stZ X7 hx hZ rfl Ar23 (j := (0 : Int32)) hin23 (g := (mkF m 63 #[.val (.ref q), .val (.ref ra), .val (.ref ib), .val (.int cd), .val (.int (0 : Int32)), .val (.int (0 : Int32)), .unset] [(.int (1 : Int32)), (.int (0 : Int32)), (.ref ib)])) rfl rfl (hb hby d5_63)
      have F24 : Arv Z hX23 ib kb .boolean (2 : Int32) [(.int (1 : Int32)), (.int (0 : Int32))] (.int (0 : Int32)) := Arv.set Ar23 q23 S23 M23 H23 G23 (fits_nar_bool _) W23 0 rfl (Nat.le_of_ble_eq_true rfl)
      have N23 := Fr.snoc X23 N7 g_ib
      have F25 : Exa Z hX23 q "com/example/evenkeel/evenkeel/TaskQueue" := F12.wr W23
      have F26 : Exa Z hX23 ta "com/example/evenkeel/evenkeel/QueuedTasks" := F13.wr W23
      have F27 : Exa Z hX23 tb "com/example/evenkeel/evenkeel/QueuedTasks" := F16.wr W23
      have F28 : Arv Z hX23 ra ka (.object "com/example/evenkeel/evenkeel/QueuedTasks") (2 : Int32) [(.ref ta), (.ref tb)] .null := F17.other W23 ne_ra_ib
      have F29 : Fld Z hX23 tb "com/example/evenkeel/evenkeel/QueuedTasks" "before" "Lcom/example/evenkeel/evenkeel/QueuedTasks;" .null := F19.other W23 (Or.inl (Ne.symm ne_ib_tb))
      have F30 : Fld Z hX23 tb "com/example/evenkeel/evenkeel/QueuedTasks" "after" "Lcom/example/evenkeel/evenkeel/QueuedTasks;" .null := F20.other W23 (Or.inl (Ne.symm ne_ib_tb))
      have F31 : Fld Z hX23 q "com/example/evenkeel/evenkeel/TaskQueue" "first" "Lcom/example/evenkeel/evenkeel/QueuedTasks;" (.ref ta) := F8.other W23 (Or.inl (Ne.symm ne_ib_q))
      have F32 : Fld Z hX23 q "com/example/evenkeel/evenkeel/TaskQueue" "last" "Lcom/example/evenkeel/evenkeel/QueuedTasks;" (.ref ta) := F9.other W23 (Or.inl (Ne.symm ne_ib_q))
      have F33 : Fld Z hX23 ta "com/example/evenkeel/evenkeel/QueuedTasks" "before" "Lcom/example/evenkeel/evenkeel/QueuedTasks;" .null := F10.other W23 (Or.inl (Ne.symm ne_ib_ta))
      have F34 : Fld Z hX23 ta "com/example/evenkeel/evenkeel/QueuedTasks" "after" "Lcom/example/evenkeel/evenkeel/QueuedTasks;" .null := F11.other W23 (Or.inl (Ne.symm ne_ib_ta))
      have Z35 : n0 ≤ hX23.size := Nat.le_trans Z21 (Keep.of_wr W23).1
      have K36 : Keep h0 hX23 [q, ta, tb, ib] := K22.wr W23 (Or.inl (List.mem_of_getElem? (i := 3) rfl))
      obtain ⟨cl37, Ar37, q37, S37, M37, H37, G37⟩ := id F24
      have hin37 : ¬ ((0 : Int32) < 0 ∨ cl37.slots.size ≤ ((0 : Int32)).toNatClampNeg) := inb_of S37 ⟨by decide, by decide⟩
      have hat37 : cl37.slots[((0 : Int32)).toNatClampNeg]? = some (.int (1 : Int32)) := Has.at H37 hin37 rfl
      obtain ⟨cq38, kq38, q38a, q38b, q38c⟩ := isOf hZ e23 F25
      obtain ⟨_, _, ⟨T38, L38, k38, n38⟩, -, X38, ⟨Lc38, hQ38, l38, y38, z38⟩, st38⟩ := X23.virtualBack hx (y := (⟨"com/example/evenkeel/evenkeel/TaskQueue", "isEmpty", "()Z"⟩ : MethodName)) (z := (⟨"com/example/evenkeel/evenkeel/TaskQueue", "isEmpty", "()Z"⟩ : MethodName)) hown (mvT hZ (hw _ (List.mem_of_getElem? (i := 31) rfl))) (mvT hZ (hw _ (List.mem_of_getElem? (i := 32) rfl))) (notFace_of_selects (args := #[]) (mvT hZ (hw _ (List.mem_of_getElem? (i := 34) rfl)))) (mvT hZ (hw _ (List.mem_of_getElem? (i := 34) rfl))) (mvT hZ (hw _ (List.mem_of_getElem? (i := 33) rfl))) (by decide) (backOf (W := 0) (rm4_1 l Z a0 hw [] q ta hX23 n0 Z35 F31) hZ (hw _ (List.mem_of_getElem? (i := 35) rfl)) (hw _ (List.mem_of_getElem? (i := 2) rfl)) (by decide) (by decide)) q38a q38c (g := (mkF m 84 #[.val (.ref q), .val (.ref ra), .val (.ref ib), .val (.int cd), .val (.int (0 : Int32)), .val (.int (0 : Int32)), .val (.int (0 : Int32))] [(.ref q)])) rfl (by rw [hml]; rfl) (Steps.refl _) (argsL := []) (rest := []) (lenOf pd_1 rfl) rfl (by show 2 * 0 + _ ≤ _; exact Nat.le_of_eq rfl) (hb hby d5_84) (fun _ _ => ⟨rfl, e23, (by decide : 0 + 0 ≤ _), (by decide : 0 + 0 ≤ _)⟩)
      dsimp only [Pt.U, Pt.locs, Pt.cells, Pt.slots] at X38 l38 y38 z38 st38 hQ38
      subst l38 y38 z38
      obtain ⟨rfl, N38q, e38⟩ := hQ38
      have N38 := Fr.app N23 N38q
      obtain ⟨fs, hr, hrun, hended, hW, hsame⟩ := X38.leave (v := some (Value.int (1 : Int32))) (fun h => by rw [Bd.returns] at h; cases h)
      refine ⟨_, _, pre3 _ ?_, hrun, hended, _, _, rfl, ?_, ⟨_, rfl⟩, hW, hsame.mono (by decide) (by decide)⟩
      · skip
        show Steps p.tables e below (s₁.setTop (mkF m 12 #[.val (.ref q), .val (.ref ra), .val (.ref ib), .val (.int cd), .val (.int (0 : Int32)), .val (.int (0 : Int32)), .unset] [])) _
        refine XS.aloadN X0.here hx rfl (hb hby d5_12) rfl rfl ?_
        show Steps p.tables e below (s₁.setTop (mkF m 13 #[.val (.ref q), .val (.ref ra), .val (.ref ib), .val (.int cd), .val (.int (0 : Int32)), .val (.int (0 : Int32)), .unset] [(.ref ib)])) _
        refine XS.iload X0.here hx rfl (hb hby d5_13) rfl ?_
        show Steps p.tables e below (s₁.setTop (mkF m 15 #[.val (.ref q), .val (.ref ra), .val (.ref ib), .val (.int cd), .val (.int (0 : Int32)), .val (.int (0 : Int32)), .unset] [(.int (0 : Int32)), (.ref ib)])) _
        refine X0.baloadBooleans hx (j := (0 : Int32)) (v := (.int (0 : Int32))) (heq_of e0 Ar5.1) (State.isArrayOf_alike hZ.alike Ar5.2.1) Ar5.2.2 hin5 hat5 (g := (mkF m 15 #[.val (.ref q), .val (.ref ra), .val (.ref ib), .val (.int cd), .val (.int (0 : Int32)), .val (.int (0 : Int32)), .unset] [(.int (0 : Int32)), (.ref ib)])) rfl rfl (hb hby d5_15) _ ?_
        show Steps p.tables e below (s₁.setTop (mkF m 16 #[.val (.ref q), .val (.ref ra), .val (.ref ib), .val (.int cd), .val (.int (0 : Int32)), .val (.int (0 : Int32)), .unset] [(.int (0 : Int32))])) _
        refine XS.ifYes X0.here hx rfl (pc0 := 16) (pc' := 35) rfl (hb hby d5_16) rfl ((if0 _ _).trans (teq rfl).1) (by decide) (by decide) ?_
        show Steps p.tables e below (s₁.setTop (mkF m 35 #[.val (.ref q), .val (.ref ra), .val (.ref ib), .val (.int cd), .val (.int (0 : Int32)), .val (.int (0 : Int32)), .unset] [])) _
        refine XS.iload X0.here hx rfl (hb hby d5_35) rfl ?_
        show Steps p.tables e below (s₁.setTop (mkF m 37 #[.val (.ref q), .val (.ref ra), .val (.ref ib), .val (.int cd), .val (.int (0 : Int32)), .val (.int (0 : Int32)), .unset] [(.int (0 : Int32))])) _
        refine XS.ifNo X0.here hx rfl (hb hby d5_37) rfl ((if0 _ _).trans (teq rfl).2) ?_
        show Steps p.tables e below (s₁.setTop (mkF m 40 #[.val (.ref q), .val (.ref ra), .val (.ref ib), .val (.int cd), .val (.int (0 : Int32)), .val (.int (0 : Int32)), .unset] [])) _
        refine XS.aloadN X0.here hx rfl (hb hby d5_40) rfl rfl ?_
        show Steps p.tables e below (s₁.setTop (mkF m 41 #[.val (.ref q), .val (.ref ra), .val (.ref ib), .val (.int cd), .val (.int (0 : Int32)), .val (.int (0 : Int32)), .unset] [(.ref q)])) _
        refine XS.aloadN X0.here hx rfl (hb hby d5_41) rfl rfl ?_
        show Steps p.tables e below (s₁.setTop (mkF m 42 #[.val (.ref q), .val (.ref ra), .val (.ref ib), .val (.int cd), .val (.int (0 : Int32)), .val (.int (0 : Int32)), .unset] [(.ref ra), (.ref q)])) _
        refine XS.iload X0.here hx rfl (hb hby d5_42) rfl ?_
        show Steps p.tables e below (s₁.setTop (mkF m 44 #[.val (.ref q), .val (.ref ra), .val (.ref ib), .val (.int cd), .val (.int (0 : Int32)), .val (.int (0 : Int32)), .unset] [(.int (0 : Int32)), (.ref ra), (.ref q)])) _
        refine X0.aaload hx (j := (0 : Int32)) (v := (.ref ta)) (heq_of e0 Ar6.1) (State.isArrayOf_alike hZ.alike Ar6.2.1) rfl Ar6.2.2 hin6 hat6 (g := (mkF m 44 #[.val (.ref q), .val (.ref ra), .val (.ref ib), .val (.int cd), .val (.int (0 : Int32)), .val (.int (0 : Int32)), .unset] [(.int (0 : Int32)), (.ref ra), (.ref q)])) rfl rfl (hb hby d5_44) _ ?_
        show Steps p.tables e below (s₁.setTop (mkF m 45 #[.val (.ref q), .val (.ref ra), .val (.ref ib), .val (.int cd), .val (.int (0 : Int32)), .val (.int (0 : Int32)), .unset] [(.ref ta), (.ref q)])) _
        refine st7.trans ?_
        show Steps p.tables e below (T7.setTop (mkF m 48 #[.val (.ref q), .val (.ref ra), .val (.ref ib), .val (.int cd), .val (.int (0 : Int32)), .val (.int (0 : Int32)), .unset] [])) _
        refine XS.goto X7.here hx rfl (pc0 := 48) (pc' := 59) rfl (hb hby d5_48) (by decide) (by decide) ?_
        show Steps p.tables e below (T7.setTop (mkF m 59 #[.val (.ref q), .val (.ref ra), .val (.ref ib), .val (.int cd), .val (.int (0 : Int32)), .val (.int (0 : Int32)), .unset] [])) _
        refine XS.aloadN X7.here hx rfl (hb hby d5_59) rfl rfl ?_
        show Steps p.tables e below (T7.setTop (mkF m 60 #[.val (.ref q), .val (.ref ra), .val (.ref ib), .val (.int cd), .val (.int (0 : Int32)), .val (.int (0 : Int32)), .unset] [(.ref ib)])) _
        refine XS.iload X7.here hx rfl (hb hby d5_60) rfl ?_
        show Steps p.tables e below (T7.setTop (mkF m 62 #[.val (.ref q), .val (.ref ra), .val (.ref ib), .val (.int cd), .val (.int (0 : Int32)), .val (.int (0 : Int32)), .unset] [(.int (0 : Int32)), (.ref ib)])) _
        refine XS.iconst X7.here hx rfl (hb hby d5_62) ?_
        show Steps p.tables e below (T7.setTop (mkF m 63 #[.val (.ref q), .val (.ref ra), .val (.ref ib), .val (.int cd), .val (.int (0 : Int32)), .val (.int (0 : Int32)), .unset] [(.int (1 : Int32)), (.int (0 : Int32)), (.ref ib)])) _
        refine st23 _ ?_
        show Steps p.tables e below (T23.setTop (mkF m 64 #[.val (.ref q), .val (.ref ra), .val (.ref ib), .val (.int cd), .val (.int (0 : Int32)), .val (.int (0 : Int32)), .unset] [])) _
        refine XS.aloadN X23.here hx rfl (hb hby d5_64) rfl rfl ?_
        show Steps p.tables e below (T23.setTop (mkF m 65 #[.val (.ref q), .val (.ref ra), .val (.ref ib), .val (.int cd), .val (.int (0 : Int32)), .val (.int (0 : Int32)), .unset] [(.ref ib)])) _
        refine XS.iconst X23.here hx rfl (hb hby d5_65) ?_
        show Steps p.tables e below (T23.setTop (mkF m 66 #[.val (.ref q), .val (.ref ra), .val (.ref ib), .val (.int cd), .val (.int (0 : Int32)), .val (.int (0 : Int32)), .unset] [(.int (0 : Int32)), (.ref ib)])) _
        refine X23.baloadBooleans hx (j := (0 : Int32)) (v := (.int (1 : Int32))) (heq_of e23 Ar37.1) (State.isArrayOf_alike hZ.alike Ar37.2.1) Ar37.2.2 hin37 hat37 (g := (mkF m 66 #[.val (.ref q), .val (.ref ra), .val (.ref ib), .val (.int cd), .val (.int (0 : Int32)), .val (.int (0 : Int32)), .unset] [(.int (0 : Int32)), (.ref ib)])) rfl rfl (hb hby d5_66) _ ?_
        show Steps p.tables e below (T23.setTop (mkF m 67 #[.val (.ref q), .val (.ref ra), .val (.ref ib), .val (.int cd), .val (.int (0 : Int32)), .val (.int (0 : Int32)), .unset] [(.int (1 : Int32))])) _
        refine XS.ifYes X23.here hx rfl (pc0 := 67) (pc' := 80) rfl (hb hby d5_67) rfl ((if0 _ _).trans (feq (by decide)).2) (by decide) (by decide) ?_
        show Steps p.tables e below (T23.setTop (mkF m 80 #[.val (.ref q), .val (.ref ra), .val (.ref ib), .val (.int cd), .val (.int (0 : Int32)), .val (.int (0 : Int32)), .unset] [])) _
        refine XS.iconst X23.here hx rfl (hb hby d5_80) ?_
        show Steps p.tables e below (T23.setTop (mkF m 81 #[.val (.ref q), .val (.ref ra), .val (.ref ib), .val (.int cd), .val (.int (0 : Int32)), .val (.int (0 : Int32)), .unset] [(.int (0 : Int32))])) _
        refine XS.istore X23.here hx rfl (hb hby d5_81) rfl (l' := #[.val (.ref q), .val (.ref ra), .val (.ref ib), .val (.int cd), .val (.int (0 : Int32)), .val (.int (0 : Int32)), .val (.int (0 : Int32))]) rfl ?_
        show Steps p.tables e below (T23.setTop (mkF m 83 #[.val (.ref q), .val (.ref ra), .val (.ref ib), .val (.int cd), .val (.int (0 : Int32)), .val (.int (0 : Int32)), .val (.int (0 : Int32))] [])) _
        refine XS.aloadN X23.here hx rfl (hb hby d5_83) rfl rfl ?_
        show Steps p.tables e below (T23.setTop (mkF m 84 #[.val (.ref q), .val (.ref ra), .val (.ref ib), .val (.int cd), .val (.int (0 : Int32)), .val (.int (0 : Int32)), .val (.int (0 : Int32))] [(.ref q)])) _
        refine st38.trans ?_
        show Steps p.tables e below (T38.setTop (mkF m 87 #[.val (.ref q), .val (.ref ra), .val (.ref ib), .val (.int cd), .val (.int (0 : Int32)), .val (.int (0 : Int32)), .val (.int (0 : Int32))] [(.int (0 : Int32))])) _
        refine XS.iload X38.here hx rfl (hb hby d5_87) rfl ?_
        show Steps p.tables e below (T38.setTop (mkF m 89 #[.val (.ref q), .val (.ref ra), .val (.ref ib), .val (.int cd), .val (.int (0 : Int32)), .val (.int (0 : Int32)), .val (.int (0 : Int32))] [(.int (0 : Int32)), (.int (0 : Int32))])) _
        refine XS.icmpNo X38.here hx rfl (hb hby d5_89) rfl (teq rfl).2 ?_
        show Steps p.tables e below (T38.setTop (mkF m 92 #[.val (.ref q), .val (.ref ra), .val (.ref ib), .val (.int cd), .val (.int (0 : Int32)), .val (.int (0 : Int32)), .val (.int (0 : Int32))] [])) _
        refine XS.iconst X38.here hx rfl (hb hby d5_92) ?_
        show Steps p.tables e below (T38.setTop (mkF m 93 #[.val (.ref q), .val (.ref ra), .val (.ref ib), .val (.int cd), .val (.int (0 : Int32)), .val (.int (0 : Int32)), .val (.int (0 : Int32))] [(.int (1 : Int32))])) _
        refine XS.goto X38.here hx rfl (pc0 := 93) (pc' := 97) rfl (hb hby d5_93) (by decide) (by decide) ?_
        show Steps p.tables e below (T38.setTop (mkF m 97 #[.val (.ref q), .val (.ref ra), .val (.ref ib), .val (.int cd), .val (.int (0 : Int32)), .val (.int (0 : Int32)), .val (.int (0 : Int32))] [(.int (1 : Int32))])) _
        exact retN X38 hx (t := .boolean) Bd.returns (by simp) (hb hby d5_97) hr
      · show Q5 Z q ra ib cd ta tb ka kb h0 n0 _ T38.heap _
        rw [e38]
        exact ⟨rfl, N38, K36, F25, F26, F27, F28, F24, F31, F32, F33, F34, F29, F30⟩
theorem d5_51 : decode method_3_code 51 = .ok (.aload_n 0, 1) := by decide +kernel
theorem d5_52 : decode method_3_code 52 = .ok (.aload_n 1, 1) := by decide +kernel
theorem d5_53 : decode method_3_code 53 = .ok (.iload 4, 2) := by decide +kernel
theorem d5_55 : decode method_3_code 55 = .ok (.aaload, 1) := by decide +kernel
theorem d5_56 : decode method_3_code 56 = .ok (.invokevirtual 32, 3) := by decide +kernel
theorem ef_5_1 (m : MethodId) (x0 : Addr) (x1 : Addr) (x2 : Addr) (x3 : Int32) : entryFrame m #[(.ref x0), (.ref x1), (.ref x2), (.int x3)] 7 = mkF m 0 #[.val (.ref x0), .val (.ref x1), .val (.ref x2), .val (.int x3), .unset, .unset, .unset] [] := by first | (simp [entryFrame, mkF, argsToLocals, Value.category]; done) | rfl
theorem own_split_5_1_5 (cd : Int32) (hk : (cd &&& (1 : Int32)) = (0 : Int32)) (hd : ((cd.toUInt32 >>> ((1 : Int32) &&& 31).toUInt32).toInt32 &&& (1 : Int32)) = (1 : Int32)) (v3 : Int32) (hv3 : v3 = (cd &&& (1 : Int32))) : v3 = (0 : Int32) := by rw [hv3]; exact hk
theorem own_split_5_1_12_s0 (cd : Int32) (hk : (cd &&& (1 : Int32)) = (0 : Int32)) (hd : ((cd.toUInt32 >>> ((1 : Int32) &&& 31).toUInt32).toInt32 &&& (1 : Int32)) = (1 : Int32)) (hv3 : (0 : Int32) = (cd &&& (1 : Int32))) (v10 : Int32) (hv10 : v10 = (((cd.toUInt32 >>> ((1 : Int32) &&& 31).toUInt32).toInt32) &&& (1 : Int32))) : v10 = (1 : Int32) := by rw [hv10]; exact hd
def Q5_1 (Z : State) (q : Addr) (ra : Addr) (ib : Addr) (cd : Int32) (ta : Addr) (tb : Addr) (ka : ClassId) (kb : ClassId) (h0 : Heap) (n0 : Nat) (v : Option Value) (h : Heap) (L : List Loc) : Prop := v = some (.int (1 : Int32)) ∧ Fr n0 L ∧ Keep h0 h [q, ta, tb, ib] ∧ Exa Z h q "com/example/evenkeel/evenkeel/TaskQueue" ∧ Exa Z h ta "com/example/evenkeel/evenkeel/QueuedTasks" ∧ Exa Z h tb "com/example/evenkeel/evenkeel/QueuedTasks" ∧ Arv Z h ra ka (.object "com/example/evenkeel/evenkeel/QueuedTasks") (2 : Int32) [(.ref ta), (.ref tb)] .null ∧ Arv Z h ib kb .boolean (2 : Int32) [(.int (1 : Int32)), (.int (0 : Int32))] (.int (0 : Int32)) ∧ Fld Z h q "com/example/evenkeel/evenkeel/TaskQueue" "first" "Lcom/example/evenkeel/evenkeel/QueuedTasks;" (.ref ta) ∧ Fld Z h q "com/example/evenkeel/evenkeel/TaskQueue" "last" "Lcom/example/evenkeel/evenkeel/QueuedTasks;" (.ref ta) ∧ Fld Z h ta "com/example/evenkeel/evenkeel/QueuedTasks" "before" "Lcom/example/evenkeel/evenkeel/QueuedTasks;" .null ∧ Fld Z h ta "com/example/evenkeel/evenkeel/QueuedTasks" "after" "Lcom/example/evenkeel/evenkeel/QueuedTasks;" .null ∧ Fld Z h tb "com/example/evenkeel/evenkeel/QueuedTasks" "before" "Lcom/example/evenkeel/evenkeel/QueuedTasks;" .null ∧ Fld Z h tb "com/example/evenkeel/evenkeel/QueuedTasks" "after" "Lcom/example/evenkeel/evenkeel/QueuedTasks;" .null
set_option maxRecDepth 65536 in
set_option maxHeartbeats 40000000 in
theorem rm5_1 (l : Launch) (Z : State) (a0 : Array Value) (hw : ∀ d ∈ tables_1, d.before a0 Z = true) (ws : List Jvm.Cond) (q : Addr) (ra : Addr) (ib : Addr) (cd : Int32) (ta : Addr) (tb : Addr) (ka : ClassId) (kb : ClassId) (h0 : Heap) (n0 : Nat) (Z0 : n0 ≤ h0.size) (I0 : Exa Z h0 q "com/example/evenkeel/evenkeel/TaskQueue") (I1 : Exa Z h0 ta "com/example/evenkeel/evenkeel/QueuedTasks") (I2 : Exa Z h0 tb "com/example/evenkeel/evenkeel/QueuedTasks") (I3 : Arv Z h0 ra ka (.object "com/example/evenkeel/evenkeel/QueuedTasks") (2 : Int32) [(.ref ta), (.ref tb)] .null) (I4 : Arv Z h0 ib kb .boolean (2 : Int32) [(.int (0 : Int32)), (.int (0 : Int32))] (.int (0 : Int32))) (I5 : Fld Z h0 q "com/example/evenkeel/evenkeel/TaskQueue" "first" "Lcom/example/evenkeel/evenkeel/QueuedTasks;" .null) (I6 : Fld Z h0 q "com/example/evenkeel/evenkeel/TaskQueue" "last" "Lcom/example/evenkeel/evenkeel/QueuedTasks;" .null) (I7 : Fld Z h0 ta "com/example/evenkeel/evenkeel/QueuedTasks" "before" "Lcom/example/evenkeel/evenkeel/QueuedTasks;" .null) (I8 : Fld Z h0 ta "com/example/evenkeel/evenkeel/QueuedTasks" "after" "Lcom/example/evenkeel/evenkeel/QueuedTasks;" .null) (I9 : Fld Z h0 tb "com/example/evenkeel/evenkeel/QueuedTasks" "before" "Lcom/example/evenkeel/evenkeel/QueuedTasks;" .null) (I10 : Fld Z h0 tb "com/example/evenkeel/evenkeel/QueuedTasks" "after" "Lcom/example/evenkeel/evenkeel/QueuedTasks;" .null) (g_q : n0 ≤ q) (g_ta : n0 ≤ ta) (g_tb : n0 ≤ tb) (g_ib : n0 ≤ ib) (ne_q_ta : q ≠ ta) (ne_q_tb : q ≠ tb) (ne_ta_tb : ta ≠ tb) (ne_ra_q : ra ≠ q) (ne_ra_ta : ra ≠ ta) (ne_ra_tb : ra ≠ tb) (ne_ib_q : ib ≠ q) (ne_ib_ta : ib ≠ ta) (ne_ib_tb : ib ≠ tb) (ne_ra_ib : ra ≠ ib) (hk : (cd &&& (1 : Int32)) = (0 : Int32)) (hd : ((cd.toUInt32 >>> ((1 : Int32) &&& 31).toUInt32).toInt32 &&& (1 : Int32)) = (1 : Int32)) :
    MetFree l (⟨"com/example/evenkeel/evenkeel/TaskQueueIsEmptyPinLaw", "step", "(Lcom/example/evenkeel/evenkeel/TaskQueue;[Lcom/example/evenkeel/evenkeel/QueuedTasks;[ZI)Z"⟩ : MethodName) (head1 (Jvm.Cond.code (⟨"com/example/evenkeel/evenkeel/TaskQueueIsEmptyPinLaw", "step", "(Lcom/example/evenkeel/evenkeel/TaskQueue;[Lcom/example/evenkeel/evenkeel/QueuedTasks;[ZI)Z"⟩ : MethodName) method_3_code 7 (some .boolean) :: ws) ({ frames := 1, cells := 0, slots := 0, locals := 13 } : Room)) (fun a U => a = #[(.ref q), (.ref ra), (.ref ib), (.int cd)] ∧ Z.Warmed39 U.vm ∧ U.heap = h0) (fun _ _ _ _ _ => True) (fun _ U o U' => ∃ v L, o = .returned v ∧ Q5_1 Z q ra ib cd ta tb ka kb h0 n0 v U'.heap L ∧ FrameEnd U o U' L ({ frames := 1, cells := 0, slots := 0, locals := 13 } : Room).cells ({ frames := 1, cells := 0, slots := 0, locals := 13 } : Room).slots) := by
  refine MetFree.of_bodySF (plainFor_of_name pn_5) hisR ?_
  intro p e s m args below meth c s₁ Bd hml0 hP hK
  obtain ⟨rfl, hZ, hh⟩ := hP
  have hx := Bd.exec
  have hby := Bd.bytes
  have hml : c.maxLocals = 7 := hml0
  have hown : s.vm.findClass "com/example/evenkeel/evenkeel/TaskQueueIsEmptyPinLaw" = some m.cls := findClass_of_methodNamed Bd.named
  have hnm := (name_of_methodNamed Bd.named Bd.method).1
  have X0 : Stand p l e ({ frames := 1, cells := 0, slots := 0, locals := 13 } : Room) s m #[(.ref q), (.ref ra), (.ref ib), (.int cd)] below meth c s₁ [] 0 0 := Stand.of_body Bd
  have e0 : s₁.heap = h0 := by rw [← hh, Bd.state]; rfl
  have N0 := Fr.nil n0
  have K0 : Keep h0 h0 [q, ta, tb, ib] := Keep.refl h0 _
  have pre0 : ∀ tq, Steps p.tables e below (s₁.setTop (mkF m 0 #[.val (.ref q), .val (.ref ra), .val (.ref ib), .val (.int cd), .unset, .unset, .unset] [])) tq → Steps p.tables e below (s₁.setTop (entryFrame m #[(.ref q), (.ref ra), (.ref ib), (.int cd)] 7)) tq := fun tq kq => castTop (ef_5_1 m q ra ib cd) kq
  obtain ⟨v3, hv3⟩ : ∃ z_q : Int32, z_q = (cd &&& (1 : Int32)) := ⟨_, rfl⟩
  have pre1 : ∀ tq, Steps p.tables e below (s₁.setTop (mkF m 5 #[.val (.ref q), .val (.ref ra), .val (.ref ib), .val (.int cd), .val (.int v3), .unset, .unset] [])) tq → Steps p.tables e below (s₁.setTop (entryFrame m #[(.ref q), (.ref ra), (.ref ib), (.int cd)] 7)) tq := by
    intro tq kt
    refine pre0 _ ?_
    show Steps p.tables e below (s₁.setTop (mkF m 0 #[.val (.ref q), .val (.ref ra), .val (.ref ib), .val (.int cd), .unset, .unset, .unset] [])) _
    refine XS.iloadN X0.here hx rfl (hb hby d5_0) rfl ?_
    show Steps p.tables e below (s₁.setTop (mkF m 1 #[.val (.ref q), .val (.ref ra), .val (.ref ib), .val (.int cd), .unset, .unset, .unset] [(.int cd)])) _
    refine XS.iconst X0.here hx rfl (hb hby d5_1) ?_
    show Steps p.tables e below (s₁.setTop (mkF m 2 #[.val (.ref q), .val (.ref ra), .val (.ref ib), .val (.int cd), .unset, .unset, .unset] [(.int (1 : Int32)), (.int cd)])) _
    refine XS.iand X0.here hx rfl (hb hby d5_2) rfl ?_
    show Steps p.tables e below (s₁.setTop (mkF m 3 #[.val (.ref q), .val (.ref ra), .val (.ref ib), .val (.int cd), .unset, .unset, .unset] [(.int (cd &&& (1 : Int32)))])) _
    refine XS.istore X0.here hx rfl (hb hby d5_3) rfl (l' := #[.val (.ref q), .val (.ref ra), .val (.ref ib), .val (.int cd), .val (.int v3), .unset, .unset]) (by rw [hv3]; rfl) ?_
    show Steps p.tables e below (s₁.setTop (mkF m 5 #[.val (.ref q), .val (.ref ra), .val (.ref ib), .val (.int cd), .val (.int v3), .unset, .unset] [])) _
    exact kt
  rcases (own_split_5_1_5 cd hk hd v3 hv3) with hs2
  · subst hs2
    obtain ⟨v10, hv10⟩ : ∃ z_q : Int32, z_q = (((cd.toUInt32 >>> ((1 : Int32) &&& 31).toUInt32).toInt32) &&& (1 : Int32)) := ⟨_, rfl⟩
    have pre3 : ∀ tq, Steps p.tables e below (s₁.setTop (mkF m 12 #[.val (.ref q), .val (.ref ra), .val (.ref ib), .val (.int cd), .val (.int (0 : Int32)), .val (.int v10), .unset] [])) tq → Steps p.tables e below (s₁.setTop (entryFrame m #[(.ref q), (.ref ra), (.ref ib), (.int cd)] 7)) tq := by
      intro tq kt
      refine pre1 _ ?_
      show Steps p.tables e below (s₁.setTop (mkF m 5 #[.val (.ref q), .val (.ref ra), .val (.ref ib), .val (.int cd), .val (.int (0 : Int32)), .unset, .unset] [])) _
      refine XS.iloadN X0.here hx rfl (hb hby d5_5) rfl ?_
      show Steps p.tables e below (s₁.setTop (mkF m 6 #[.val (.ref q), .val (.ref ra), .val (.ref ib), .val (.int cd), .val (.int (0 : Int32)), .unset, .unset] [(.int cd)])) _
      refine XS.iconst X0.here hx rfl (hb hby d5_6) ?_
      show Steps p.tables e below (s₁.setTop (mkF m 7 #[.val (.ref q), .val (.ref ra), .val (.ref ib), .val (.int cd), .val (.int (0 : Int32)), .unset, .unset] [(.int (1 : Int32)), (.int cd)])) _
      refine XS.iushr X0.here hx rfl (hb hby d5_7) rfl ?_
      show Steps p.tables e below (s₁.setTop (mkF m 8 #[.val (.ref q), .val (.ref ra), .val (.ref ib), .val (.int cd), .val (.int (0 : Int32)), .unset, .unset] [(.int ((cd.toUInt32 >>> ((1 : Int32) &&& 31).toUInt32).toInt32))])) _
      refine XS.iconst X0.here hx rfl (hb hby d5_8) ?_
      show Steps p.tables e below (s₁.setTop (mkF m 9 #[.val (.ref q), .val (.ref ra), .val (.ref ib), .val (.int cd), .val (.int (0 : Int32)), .unset, .unset] [(.int (1 : Int32)), (.int ((cd.toUInt32 >>> ((1 : Int32) &&& 31).toUInt32).toInt32))])) _
      refine XS.iand X0.here hx rfl (hb hby d5_9) rfl ?_
      show Steps p.tables e below (s₁.setTop (mkF m 10 #[.val (.ref q), .val (.ref ra), .val (.ref ib), .val (.int cd), .val (.int (0 : Int32)), .unset, .unset] [(.int (((cd.toUInt32 >>> ((1 : Int32) &&& 31).toUInt32).toInt32) &&& (1 : Int32)))])) _
      refine XS.istore X0.here hx rfl (hb hby d5_10) rfl (l' := #[.val (.ref q), .val (.ref ra), .val (.ref ib), .val (.int cd), .val (.int (0 : Int32)), .val (.int v10), .unset]) (by rw [hv10]; rfl) ?_
      show Steps p.tables e below (s₁.setTop (mkF m 12 #[.val (.ref q), .val (.ref ra), .val (.ref ib), .val (.int cd), .val (.int (0 : Int32)), .val (.int v10), .unset] [])) _
      exact kt
    rcases (own_split_5_1_12_s0 cd hk hd hv3 v10 hv10) with hs4
    · subst hs4
      obtain ⟨cl5, Ar5, q5, S5, M5, H5, G5⟩ := id I4
      have hin5 : ¬ ((0 : Int32) < 0 ∨ cl5.slots.size ≤ ((0 : Int32)).toNatClampNeg) := inb_of S5 ⟨by decide, by decide⟩
      have hat5 : cl5.slots[((0 : Int32)).toNatClampNeg]? = some (.int (0 : Int32)) := Has.at H5 hin5 rfl
      obtain ⟨cl6, Ar6, q6, S6, M6, H6, G6⟩ := id I3
      have hin6 : ¬ ((0 : Int32) < 0 ∨ cl6.slots.size ≤ ((0 : Int32)).toNatClampNeg) := inb_of S6 ⟨by decide, by decide⟩
      have hat6 : cl6.slots[((0 : Int32)).toNatClampNeg]? = some (.ref ta) := Has.at H6 hin6 rfl
      obtain ⟨cq7, kq7, q7a, q7b, q7c⟩ := isOf hZ e0 I0
      obtain ⟨_, _, ⟨T7, L7, k7, n7⟩, -, X7, ⟨Lc7, hQ7, l7, y7, z7⟩, st7⟩ := X0.virtualBack hx (y := (⟨"com/example/evenkeel/evenkeel/TaskQueue", "addLast", "(Lcom/example/evenkeel/evenkeel/QueuedTasks;)V"⟩ : MethodName)) (z := (⟨"com/example/evenkeel/evenkeel/TaskQueue", "addLast", "(Lcom/example/evenkeel/evenkeel/QueuedTasks;)V"⟩ : MethodName)) hown (mvT hZ (hw _ (List.mem_of_getElem? (i := 51) rfl))) (mvT hZ (hw _ (List.mem_of_getElem? (i := 52) rfl))) (notFace_of_selects (args := #[]) (mvT hZ (hw _ (List.mem_of_getElem? (i := 54) rfl)))) (mvT hZ (hw _ (List.mem_of_getElem? (i := 54) rfl))) (mvT hZ (hw _ (List.mem_of_getElem? (i := 53) rfl))) (by decide) (backOf (W := 0) (rm7 l Z a0 hw [] q ta h0 n0 Z0 I5 I6 I7 I8 I0 I1 g_q g_ta ne_q_ta) hZ (hw _ (List.mem_of_getElem? (i := 55) rfl)) (hw _ (List.mem_of_getElem? (i := 2) rfl)) (by decide) (by decide)) q7a q7c (g := (mkF m 56 #[.val (.ref q), .val (.ref ra), .val (.ref ib), .val (.int cd), .val (.int (0 : Int32)), .val (.int (1 : Int32)), .unset] [(.ref ta), (.ref q)])) rfl (by rw [hml]; rfl) (Steps.refl _) (argsL := [(.ref ta)]) (rest := []) (lenOf pd_0 rfl) rfl (by show 2 * 0 + _ ≤ _; exact Nat.le_of_eq rfl) (hb hby d5_56) (fun _ _ => ⟨rfl, e0, (by decide : 0 + 0 ≤ _), (by decide : 0 + 0 ≤ _)⟩)
      dsimp only [Pt.U, Pt.locs, Pt.cells, Pt.slots] at X7 l7 y7 z7 st7 hQ7
      subst l7 y7 z7
      obtain ⟨rfl, N7q, K7q, F8, F9, F10, F11, F12, F13⟩ := hQ7
      have N7 := Fr.app N0 N7q
      have F14 : Exa Z T7.heap q "com/example/evenkeel/evenkeel/TaskQueue" := I0.keep K7q
      have F15 : Exa Z T7.heap ta "com/example/evenkeel/evenkeel/QueuedTasks" := I1.keep K7q
      have F16 : Exa Z T7.heap tb "com/example/evenkeel/evenkeel/QueuedTasks" := I2.keep K7q
      have F17 : Arv Z T7.heap ra ka (.object "com/example/evenkeel/evenkeel/QueuedTasks") (2 : Int32) [(.ref ta), (.ref tb)] .null := I3.keep K7q (ninS ne_ra_q (ninS ne_ra_ta nin0))
      have F18 : Arv Z T7.heap ib kb .boolean (2 : Int32) [(.int (0 : Int32)), (.int (0 : Int32))] (.int (0 : Int32)) := I4.keep K7q (ninS ne_ib_q (ninS ne_ib_ta nin0))
      have F19 : Fld Z T7.heap tb "com/example/evenkeel/evenkeel/QueuedTasks" "before" "Lcom/example/evenkeel/evenkeel/QueuedTasks;" .null := I9.keep K7q (ninS (Ne.symm ne_q_tb) (ninS (Ne.symm ne_ta_tb) nin0))
      have F20 : Fld Z T7.heap tb "com/example/evenkeel/evenkeel/QueuedTasks" "after" "Lcom/example/evenkeel/evenkeel/QueuedTasks;" .null := I10.keep K7q (ninS (Ne.symm ne_q_tb) (ninS (Ne.symm ne_ta_tb) nin0))
      have Z21 : n0 ≤ T7.heap.size := Nat.le_trans Z0 K7q.1
      have K22 : Keep h0 T7.heap [q, ta, tb, ib] := K0.trans K7q (allS (Or.inl (List.mem_of_getElem? (i := 0) rfl)) (allS (Or.inl (List.mem_of_getElem? (i := 1) rfl)) all0))
      obtain ⟨cl23, Ar23, q23, S23, M23, H23, G23⟩ := id F18
      have hin23 : ¬ ((0 : Int32) < 0 ∨ cl23.slots.size ≤ ((0 : Int32)).toNatClampNeg) := inb_of S23 ⟨by decide, by decide⟩
      obtain ⟨T23, hX23, X23, e23, W23, st23⟩ := stZ X7 hx hZ rfl Ar23 (j := (0 : Int32)) hin23 (g := (mkF m 63 #[.val (.ref q), .val (.ref ra), .val (.ref ib), .val (.int cd), .val (.int (0 : Int32)), .val (.int (1 : Int32)), .unset] [(.int (1 : Int32)), (.int (0 : Int32)), (.ref ib)])) rfl rfl (hb hby d5_63)
      have F24 : Arv Z hX23 ib kb .boolean (2 : Int32) [(.int (1 : Int32)), (.int (0 : Int32))] (.int (0 : Int32)) := Arv.set Ar23 q23 S23 M23 H23 G23 (fits_nar_bool _) W23 0 rfl (Nat.le_of_ble_eq_true rfl)
      have N23 := Fr.snoc X23 N7 g_ib
      have F25 : Exa Z hX23 q "com/example/evenkeel/evenkeel/TaskQueue" := F12.wr W23
      have F26 : Exa Z hX23 ta "com/example/evenkeel/evenkeel/QueuedTasks" := F13.wr W23
      have F27 : Exa Z hX23 tb "com/example/evenkeel/evenkeel/QueuedTasks" := F16.wr W23
      have F28 : Arv Z hX23 ra ka (.object "com/example/evenkeel/evenkeel/QueuedTasks") (2 : Int32) [(.ref ta), (.ref tb)] .null := F17.other W23 ne_ra_ib
      have F29 : Fld Z hX23 tb "com/example/evenkeel/evenkeel/QueuedTasks" "before" "Lcom/example/evenkeel/evenkeel/QueuedTasks;" .null := F19.other W23 (Or.inl (Ne.symm ne_ib_tb))
      have F30 : Fld Z hX23 tb "com/example/evenkeel/evenkeel/QueuedTasks" "after" "Lcom/example/evenkeel/evenkeel/QueuedTasks;" .null := F20.other W23 (Or.inl (Ne.symm ne_ib_tb))
      have F31 : Fld Z hX23 q "com/example/evenkeel/evenkeel/TaskQueue" "first" "Lcom/example/evenkeel/evenkeel/QueuedTasks;" (.ref ta) := F8.other W23 (Or.inl (Ne.symm ne_ib_q))
      have F32 : Fld Z hX23 q "com/example/evenkeel/evenkeel/TaskQueue" "last" "Lcom/example/evenkeel/evenkeel/QueuedTasks;" (.ref ta) := F9.other W23 (Or.inl (Ne.symm ne_ib_q))
      have F33 : Fld Z hX23 ta "com/example/evenkeel/evenkeel/QueuedTasks" "before" "Lcom/example/evenkeel/evenkeel/QueuedTasks;" .null := F10.other W23 (Or.inl (Ne.symm ne_ib_ta))
      have F34 : Fld Z hX23 ta "com/example/evenkeel/evenkeel/QueuedTasks" "after" "Lcom/example/evenkeel/evenkeel/QueuedTasks;" .null := F11.other W23 (Or.inl (Ne.symm ne_ib_ta))
      have Z35 : n0 ≤ hX23.size := Nat.le_trans Z21 (Keep.of_wr W23).1
      have K36 : Keep h0 hX23 [q, ta, tb, ib] := K22.wr W23 (Or.inl (List.mem_of_getElem? (i := 3) rfl))
      obtain ⟨cl37, Ar37, q37, S37, M37, H37, G37⟩ := id F24
      have hin37 : ¬ ((0 : Int32) < 0 ∨ cl37.slots.size ≤ ((0 : Int32)).toNatClampNeg) := inb_of S37 ⟨by decide, by decide⟩
      have hat37 : cl37.slots[((0 : Int32)).toNatClampNeg]? = some (.int (1 : Int32)) := Has.at H37 hin37 rfl
      obtain ⟨cq38, kq38, q38a, q38b, q38c⟩ := isOf hZ e23 F25
      obtain ⟨_, _, ⟨T38, L38, k38, n38⟩, -, X38, ⟨Lc38, hQ38, l38, y38, z38⟩, st38⟩ := X23.virtualBack hx (y := (⟨"com/example/evenkeel/evenkeel/TaskQueue", "isEmpty", "()Z"⟩ : MethodName)) (z := (⟨"com/example/evenkeel/evenkeel/TaskQueue", "isEmpty", "()Z"⟩ : MethodName)) hown (mvT hZ (hw _ (List.mem_of_getElem? (i := 31) rfl))) (mvT hZ (hw _ (List.mem_of_getElem? (i := 32) rfl))) (notFace_of_selects (args := #[]) (mvT hZ (hw _ (List.mem_of_getElem? (i := 34) rfl)))) (mvT hZ (hw _ (List.mem_of_getElem? (i := 34) rfl))) (mvT hZ (hw _ (List.mem_of_getElem? (i := 33) rfl))) (by decide) (backOf (W := 0) (rm4_1 l Z a0 hw [] q ta hX23 n0 Z35 F31) hZ (hw _ (List.mem_of_getElem? (i := 35) rfl)) (hw _ (List.mem_of_getElem? (i := 2) rfl)) (by decide) (by decide)) q38a q38c (g := (mkF m 84 #[.val (.ref q), .val (.ref ra), .val (.ref ib), .val (.int cd), .val (.int (0 : Int32)), .val (.int (1 : Int32)), .val (.int (0 : Int32))] [(.ref q)])) rfl (by rw [hml]; rfl) (Steps.refl _) (argsL := []) (rest := []) (lenOf pd_1 rfl) rfl (by show 2 * 0 + _ ≤ _; exact Nat.le_of_eq rfl) (hb hby d5_84) (fun _ _ => ⟨rfl, e23, (by decide : 0 + 0 ≤ _), (by decide : 0 + 0 ≤ _)⟩)
      dsimp only [Pt.U, Pt.locs, Pt.cells, Pt.slots] at X38 l38 y38 z38 st38 hQ38
      subst l38 y38 z38
      obtain ⟨rfl, N38q, e38⟩ := hQ38
      have N38 := Fr.app N23 N38q
      obtain ⟨fs, hr, hrun, hended, hW, hsame⟩ := X38.leave (v := some (Value.int (1 : Int32))) (fun h => by rw [Bd.returns] at h; cases h)
      refine ⟨_, _, pre3 _ ?_, hrun, hended, _, _, rfl, ?_, ⟨_, rfl⟩, hW, hsame.mono (by decide) (by decide)⟩
      · skip
        show Steps p.tables e below (s₁.setTop (mkF m 12 #[.val (.ref q), .val (.ref ra), .val (.ref ib), .val (.int cd), .val (.int (0 : Int32)), .val (.int (1 : Int32)), .unset] [])) _
        refine XS.aloadN X0.here hx rfl (hb hby d5_12) rfl rfl ?_
        show Steps p.tables e below (s₁.setTop (mkF m 13 #[.val (.ref q), .val (.ref ra), .val (.ref ib), .val (.int cd), .val (.int (0 : Int32)), .val (.int (1 : Int32)), .unset] [(.ref ib)])) _
        refine XS.iload X0.here hx rfl (hb hby d5_13) rfl ?_
        show Steps p.tables e below (s₁.setTop (mkF m 15 #[.val (.ref q), .val (.ref ra), .val (.ref ib), .val (.int cd), .val (.int (0 : Int32)), .val (.int (1 : Int32)), .unset] [(.int (0 : Int32)), (.ref ib)])) _
        refine X0.baloadBooleans hx (j := (0 : Int32)) (v := (.int (0 : Int32))) (heq_of e0 Ar5.1) (State.isArrayOf_alike hZ.alike Ar5.2.1) Ar5.2.2 hin5 hat5 (g := (mkF m 15 #[.val (.ref q), .val (.ref ra), .val (.ref ib), .val (.int cd), .val (.int (0 : Int32)), .val (.int (1 : Int32)), .unset] [(.int (0 : Int32)), (.ref ib)])) rfl rfl (hb hby d5_15) _ ?_
        show Steps p.tables e below (s₁.setTop (mkF m 16 #[.val (.ref q), .val (.ref ra), .val (.ref ib), .val (.int cd), .val (.int (0 : Int32)), .val (.int (1 : Int32)), .unset] [(.int (0 : Int32))])) _
        refine XS.ifYes X0.here hx rfl (pc0 := 16) (pc' := 35) rfl (hb hby d5_16) rfl ((if0 _ _).trans (teq rfl).1) (by decide) (by decide) ?_
        show Steps p.tables e below (s₁.setTop (mkF m 35 #[.val (.ref q), .val (.ref ra), .val (.ref ib), .val (.int cd), .val (.int (0 : Int32)), .val (.int (1 : Int32)), .unset] [])) _
        refine XS.iload X0.here hx rfl (hb hby d5_35) rfl ?_
        show Steps p.tables e below (s₁.setTop (mkF m 37 #[.val (.ref q), .val (.ref ra), .val (.ref ib), .val (.int cd), .val (.int (0 : Int32)), .val (.int (1 : Int32)), .unset] [(.int (1 : Int32))])) _
        refine XS.ifYes X0.here hx rfl (pc0 := 37) (pc' := 51) rfl (hb hby d5_37) rfl ((if0 _ _).trans (feq (by decide)).2) (by decide) (by decide) ?_
        show Steps p.tables e below (s₁.setTop (mkF m 51 #[.val (.ref q), .val (.ref ra), .val (.ref ib), .val (.int cd), .val (.int (0 : Int32)), .val (.int (1 : Int32)), .unset] [])) _
        refine XS.aloadN X0.here hx rfl (hb hby d5_51) rfl rfl ?_
        show Steps p.tables e below (s₁.setTop (mkF m 52 #[.val (.ref q), .val (.ref ra), .val (.ref ib), .val (.int cd), .val (.int (0 : Int32)), .val (.int (1 : Int32)), .unset] [(.ref q)])) _
        refine XS.aloadN X0.here hx rfl (hb hby d5_52) rfl rfl ?_
        show Steps p.tables e below (s₁.setTop (mkF m 53 #[.val (.ref q), .val (.ref ra), .val (.ref ib), .val (.int cd), .val (.int (0 : Int32)), .val (.int (1 : Int32)), .unset] [(.ref ra), (.ref q)])) _
        refine XS.iload X0.here hx rfl (hb hby d5_53) rfl ?_
        show Steps p.tables e below (s₁.setTop (mkF m 55 #[.val (.ref q), .val (.ref ra), .val (.ref ib), .val (.int cd), .val (.int (0 : Int32)), .val (.int (1 : Int32)), .unset] [(.int (0 : Int32)), (.ref ra), (.ref q)])) _
        refine X0.aaload hx (j := (0 : Int32)) (v := (.ref ta)) (heq_of e0 Ar6.1) (State.isArrayOf_alike hZ.alike Ar6.2.1) rfl Ar6.2.2 hin6 hat6 (g := (mkF m 55 #[.val (.ref q), .val (.ref ra), .val (.ref ib), .val (.int cd), .val (.int (0 : Int32)), .val (.int (1 : Int32)), .unset] [(.int (0 : Int32)), (.ref ra), (.ref q)])) rfl rfl (hb hby d5_55) _ ?_
        show Steps p.tables e below (s₁.setTop (mkF m 56 #[.val (.ref q), .val (.ref ra), .val (.ref ib), .val (.int cd), .val (.int (0 : Int32)), .val (.int (1 : Int32)), .unset] [(.ref ta), (.ref q)])) _
        refine st7.trans ?_
        show Steps p.tables e below (T7.setTop (mkF m 59 #[.val (.ref q), .val (.ref ra), .val (.ref ib), .val (.int cd), .val (.int (0 : Int32)), .val (.int (1 : Int32)), .unset] [])) _
        refine XS.aloadN X7.here hx rfl (hb hby d5_59) rfl rfl ?_
        show Steps p.tables e below (T7.setTop (mkF m 60 #[.val (.ref q), .val (.ref ra), .val (.ref ib), .val (.int cd), .val (.int (0 : Int32)), .val (.int (1 : Int32)), .unset] [(.ref ib)])) _
        refine XS.iload X7.here hx rfl (hb hby d5_60) rfl ?_
        show Steps p.tables e below (T7.setTop (mkF m 62 #[.val (.ref q), .val (.ref ra), .val (.ref ib), .val (.int cd), .val (.int (0 : Int32)), .val (.int (1 : Int32)), .unset] [(.int (0 : Int32)), (.ref ib)])) _
        refine XS.iconst X7.here hx rfl (hb hby d5_62) ?_
        show Steps p.tables e below (T7.setTop (mkF m 63 #[.val (.ref q), .val (.ref ra), .val (.ref ib), .val (.int cd), .val (.int (0 : Int32)), .val (.int (1 : Int32)), .unset] [(.int (1 : Int32)), (.int (0 : Int32)), (.ref ib)])) _
        refine st23 _ ?_
        show Steps p.tables e below (T23.setTop (mkF m 64 #[.val (.ref q), .val (.ref ra), .val (.ref ib), .val (.int cd), .val (.int (0 : Int32)), .val (.int (1 : Int32)), .unset] [])) _
        refine XS.aloadN X23.here hx rfl (hb hby d5_64) rfl rfl ?_
        show Steps p.tables e below (T23.setTop (mkF m 65 #[.val (.ref q), .val (.ref ra), .val (.ref ib), .val (.int cd), .val (.int (0 : Int32)), .val (.int (1 : Int32)), .unset] [(.ref ib)])) _
        refine XS.iconst X23.here hx rfl (hb hby d5_65) ?_
        show Steps p.tables e below (T23.setTop (mkF m 66 #[.val (.ref q), .val (.ref ra), .val (.ref ib), .val (.int cd), .val (.int (0 : Int32)), .val (.int (1 : Int32)), .unset] [(.int (0 : Int32)), (.ref ib)])) _
        refine X23.baloadBooleans hx (j := (0 : Int32)) (v := (.int (1 : Int32))) (heq_of e23 Ar37.1) (State.isArrayOf_alike hZ.alike Ar37.2.1) Ar37.2.2 hin37 hat37 (g := (mkF m 66 #[.val (.ref q), .val (.ref ra), .val (.ref ib), .val (.int cd), .val (.int (0 : Int32)), .val (.int (1 : Int32)), .unset] [(.int (0 : Int32)), (.ref ib)])) rfl rfl (hb hby d5_66) _ ?_
        show Steps p.tables e below (T23.setTop (mkF m 67 #[.val (.ref q), .val (.ref ra), .val (.ref ib), .val (.int cd), .val (.int (0 : Int32)), .val (.int (1 : Int32)), .unset] [(.int (1 : Int32))])) _
        refine XS.ifYes X23.here hx rfl (pc0 := 67) (pc' := 80) rfl (hb hby d5_67) rfl ((if0 _ _).trans (feq (by decide)).2) (by decide) (by decide) ?_
        show Steps p.tables e below (T23.setTop (mkF m 80 #[.val (.ref q), .val (.ref ra), .val (.ref ib), .val (.int cd), .val (.int (0 : Int32)), .val (.int (1 : Int32)), .unset] [])) _
        refine XS.iconst X23.here hx rfl (hb hby d5_80) ?_
        show Steps p.tables e below (T23.setTop (mkF m 81 #[.val (.ref q), .val (.ref ra), .val (.ref ib), .val (.int cd), .val (.int (0 : Int32)), .val (.int (1 : Int32)), .unset] [(.int (0 : Int32))])) _
        refine XS.istore X23.here hx rfl (hb hby d5_81) rfl (l' := #[.val (.ref q), .val (.ref ra), .val (.ref ib), .val (.int cd), .val (.int (0 : Int32)), .val (.int (1 : Int32)), .val (.int (0 : Int32))]) rfl ?_
        show Steps p.tables e below (T23.setTop (mkF m 83 #[.val (.ref q), .val (.ref ra), .val (.ref ib), .val (.int cd), .val (.int (0 : Int32)), .val (.int (1 : Int32)), .val (.int (0 : Int32))] [])) _
        refine XS.aloadN X23.here hx rfl (hb hby d5_83) rfl rfl ?_
        show Steps p.tables e below (T23.setTop (mkF m 84 #[.val (.ref q), .val (.ref ra), .val (.ref ib), .val (.int cd), .val (.int (0 : Int32)), .val (.int (1 : Int32)), .val (.int (0 : Int32))] [(.ref q)])) _
        refine st38.trans ?_
        show Steps p.tables e below (T38.setTop (mkF m 87 #[.val (.ref q), .val (.ref ra), .val (.ref ib), .val (.int cd), .val (.int (0 : Int32)), .val (.int (1 : Int32)), .val (.int (0 : Int32))] [(.int (0 : Int32))])) _
        refine XS.iload X38.here hx rfl (hb hby d5_87) rfl ?_
        show Steps p.tables e below (T38.setTop (mkF m 89 #[.val (.ref q), .val (.ref ra), .val (.ref ib), .val (.int cd), .val (.int (0 : Int32)), .val (.int (1 : Int32)), .val (.int (0 : Int32))] [(.int (0 : Int32)), (.int (0 : Int32))])) _
        refine XS.icmpNo X38.here hx rfl (hb hby d5_89) rfl (teq rfl).2 ?_
        show Steps p.tables e below (T38.setTop (mkF m 92 #[.val (.ref q), .val (.ref ra), .val (.ref ib), .val (.int cd), .val (.int (0 : Int32)), .val (.int (1 : Int32)), .val (.int (0 : Int32))] [])) _
        refine XS.iconst X38.here hx rfl (hb hby d5_92) ?_
        show Steps p.tables e below (T38.setTop (mkF m 93 #[.val (.ref q), .val (.ref ra), .val (.ref ib), .val (.int cd), .val (.int (0 : Int32)), .val (.int (1 : Int32)), .val (.int (0 : Int32))] [(.int (1 : Int32))])) _
        refine XS.goto X38.here hx rfl (pc0 := 93) (pc' := 97) rfl (hb hby d5_93) (by decide) (by decide) ?_
        show Steps p.tables e below (T38.setTop (mkF m 97 #[.val (.ref q), .val (.ref ra), .val (.ref ib), .val (.int cd), .val (.int (0 : Int32)), .val (.int (1 : Int32)), .val (.int (0 : Int32))] [(.int (1 : Int32))])) _
        exact retN X38 hx (t := .boolean) Bd.returns (by simp) (hb hby d5_97) hr
      · show Q5_1 Z q ra ib cd ta tb ka kb h0 n0 _ T38.heap _
        rw [e38]
        exact ⟨rfl, N38, K36, F25, F26, F27, F28, F24, F31, F32, F33, F34, F29, F30⟩
theorem d5_70 : decode method_3_code 70 = .ok (.aload_n 2, 1) := by decide +kernel
theorem d5_71 : decode method_3_code 71 = .ok (.iconst 1, 1) := by decide +kernel
theorem d5_72 : decode method_3_code 72 = .ok (.baload, 1) := by decide +kernel
theorem d5_73 : decode method_3_code 73 = .ok (.ifCond .ne 7, 3) := by decide +kernel
theorem ef_5_2 (m : MethodId) (x0 : Addr) (x1 : Addr) (x2 : Addr) (x3 : Int32) : entryFrame m #[(.ref x0), (.ref x1), (.ref x2), (.int x3)] 7 = mkF m 0 #[.val (.ref x0), .val (.ref x1), .val (.ref x2), .val (.int x3), .unset, .unset, .unset] [] := by first | (simp [entryFrame, mkF, argsToLocals, Value.category]; done) | rfl
theorem own_split_5_2_5 (cd : Int32) (hk : (cd &&& (1 : Int32)) = (1 : Int32)) (hd : ((cd.toUInt32 >>> ((1 : Int32) &&& 31).toUInt32).toInt32 &&& (1 : Int32)) = (0 : Int32)) (v3 : Int32) (hv3 : v3 = (cd &&& (1 : Int32))) : v3 = (1 : Int32) := by rw [hv3]; exact hk
theorem own_split_5_2_12_s1 (cd : Int32) (hk : (cd &&& (1 : Int32)) = (1 : Int32)) (hd : ((cd.toUInt32 >>> ((1 : Int32) &&& 31).toUInt32).toInt32 &&& (1 : Int32)) = (0 : Int32)) (hv3 : (1 : Int32) = (cd &&& (1 : Int32))) (v10 : Int32) (hv10 : v10 = (((cd.toUInt32 >>> ((1 : Int32) &&& 31).toUInt32).toInt32) &&& (1 : Int32))) : v10 = (0 : Int32) := by rw [hv10]; exact hd
def Q5_2 (Z : State) (q : Addr) (ra : Addr) (ib : Addr) (cd : Int32) (ta : Addr) (tb : Addr) (ka : ClassId) (kb : ClassId) (h0 : Heap) (n0 : Nat) (v : Option Value) (h : Heap) (L : List Loc) : Prop := v = some (.int (1 : Int32)) ∧ Fr n0 L ∧ Keep h0 h [q, ta, tb, ib] ∧ Exa Z h q "com/example/evenkeel/evenkeel/TaskQueue" ∧ Exa Z h ta "com/example/evenkeel/evenkeel/QueuedTasks" ∧ Exa Z h tb "com/example/evenkeel/evenkeel/QueuedTasks" ∧ Arv Z h ra ka (.object "com/example/evenkeel/evenkeel/QueuedTasks") (2 : Int32) [(.ref ta), (.ref tb)] .null ∧ Arv Z h ib kb .boolean (2 : Int32) [(.int (0 : Int32)), (.int (1 : Int32))] (.int (0 : Int32)) ∧ Fld Z h q "com/example/evenkeel/evenkeel/TaskQueue" "first" "Lcom/example/evenkeel/evenkeel/QueuedTasks;" (.ref tb) ∧ Fld Z h q "com/example/evenkeel/evenkeel/TaskQueue" "last" "Lcom/example/evenkeel/evenkeel/QueuedTasks;" (.ref tb) ∧ Fld Z h ta "com/example/evenkeel/evenkeel/QueuedTasks" "before" "Lcom/example/evenkeel/evenkeel/QueuedTasks;" .null ∧ Fld Z h ta "com/example/evenkeel/evenkeel/QueuedTasks" "after" "Lcom/example/evenkeel/evenkeel/QueuedTasks;" .null ∧ Fld Z h tb "com/example/evenkeel/evenkeel/QueuedTasks" "before" "Lcom/example/evenkeel/evenkeel/QueuedTasks;" .null ∧ Fld Z h tb "com/example/evenkeel/evenkeel/QueuedTasks" "after" "Lcom/example/evenkeel/evenkeel/QueuedTasks;" .null
set_option maxRecDepth 65536 in
set_option maxHeartbeats 40000000 in
theorem rm5_2 (l : Launch) (Z : State) (a0 : Array Value) (hw : ∀ d ∈ tables_1, d.before a0 Z = true) (ws : List Jvm.Cond) (q : Addr) (ra : Addr) (ib : Addr) (cd : Int32) (ta : Addr) (tb : Addr) (ka : ClassId) (kb : ClassId) (h0 : Heap) (n0 : Nat) (Z0 : n0 ≤ h0.size) (I0 : Exa Z h0 q "com/example/evenkeel/evenkeel/TaskQueue") (I1 : Exa Z h0 ta "com/example/evenkeel/evenkeel/QueuedTasks") (I2 : Exa Z h0 tb "com/example/evenkeel/evenkeel/QueuedTasks") (I3 : Arv Z h0 ra ka (.object "com/example/evenkeel/evenkeel/QueuedTasks") (2 : Int32) [(.ref ta), (.ref tb)] .null) (I4 : Arv Z h0 ib kb .boolean (2 : Int32) [(.int (0 : Int32)), (.int (0 : Int32))] (.int (0 : Int32))) (I5 : Fld Z h0 q "com/example/evenkeel/evenkeel/TaskQueue" "first" "Lcom/example/evenkeel/evenkeel/QueuedTasks;" .null) (I6 : Fld Z h0 q "com/example/evenkeel/evenkeel/TaskQueue" "last" "Lcom/example/evenkeel/evenkeel/QueuedTasks;" .null) (I7 : Fld Z h0 ta "com/example/evenkeel/evenkeel/QueuedTasks" "before" "Lcom/example/evenkeel/evenkeel/QueuedTasks;" .null) (I8 : Fld Z h0 ta "com/example/evenkeel/evenkeel/QueuedTasks" "after" "Lcom/example/evenkeel/evenkeel/QueuedTasks;" .null) (I9 : Fld Z h0 tb "com/example/evenkeel/evenkeel/QueuedTasks" "before" "Lcom/example/evenkeel/evenkeel/QueuedTasks;" .null) (I10 : Fld Z h0 tb "com/example/evenkeel/evenkeel/QueuedTasks" "after" "Lcom/example/evenkeel/evenkeel/QueuedTasks;" .null) (g_q : n0 ≤ q) (g_ta : n0 ≤ ta) (g_tb : n0 ≤ tb) (g_ib : n0 ≤ ib) (ne_q_ta : q ≠ ta) (ne_q_tb : q ≠ tb) (ne_ta_tb : ta ≠ tb) (ne_ra_q : ra ≠ q) (ne_ra_ta : ra ≠ ta) (ne_ra_tb : ra ≠ tb) (ne_ib_q : ib ≠ q) (ne_ib_ta : ib ≠ ta) (ne_ib_tb : ib ≠ tb) (ne_ra_ib : ra ≠ ib) (hk : (cd &&& (1 : Int32)) = (1 : Int32)) (hd : ((cd.toUInt32 >>> ((1 : Int32) &&& 31).toUInt32).toInt32 &&& (1 : Int32)) = (0 : Int32)) :
    MetFree l (⟨"com/example/evenkeel/evenkeel/TaskQueueIsEmptyPinLaw", "step", "(Lcom/example/evenkeel/evenkeel/TaskQueue;[Lcom/example/evenkeel/evenkeel/QueuedTasks;[ZI)Z"⟩ : MethodName) (head1 (Jvm.Cond.code (⟨"com/example/evenkeel/evenkeel/TaskQueueIsEmptyPinLaw", "step", "(Lcom/example/evenkeel/evenkeel/TaskQueue;[Lcom/example/evenkeel/evenkeel/QueuedTasks;[ZI)Z"⟩ : MethodName) method_3_code 7 (some .boolean) :: ws) ({ frames := 1, cells := 0, slots := 0, locals := 13 } : Room)) (fun a U => a = #[(.ref q), (.ref ra), (.ref ib), (.int cd)] ∧ Z.Warmed39 U.vm ∧ U.heap = h0) (fun _ _ _ _ _ => True) (fun _ U o U' => ∃ v L, o = .returned v ∧ Q5_2 Z q ra ib cd ta tb ka kb h0 n0 v U'.heap L ∧ FrameEnd U o U' L ({ frames := 1, cells := 0, slots := 0, locals := 13 } : Room).cells ({ frames := 1, cells := 0, slots := 0, locals := 13 } : Room).slots) := by
  refine MetFree.of_bodySF (plainFor_of_name pn_5) hisR ?_
  intro p e s m args below meth c s₁ Bd hml0 hP hK
  obtain ⟨rfl, hZ, hh⟩ := hP
  have hx := Bd.exec
  have hby := Bd.bytes
  have hml : c.maxLocals = 7 := hml0
  have hown : s.vm.findClass "com/example/evenkeel/evenkeel/TaskQueueIsEmptyPinLaw" = some m.cls := findClass_of_methodNamed Bd.named
  have hnm := (name_of_methodNamed Bd.named Bd.method).1
  have X0 : Stand p l e ({ frames := 1, cells := 0, slots := 0, locals := 13 } : Room) s m #[(.ref q), (.ref ra), (.ref ib), (.int cd)] below meth c s₁ [] 0 0 := Stand.of_body Bd
  have e0 : s₁.heap = h0 := by rw [← hh, Bd.state]; rfl
  have N0 := Fr.nil n0
  have K0 : Keep h0 h0 [q, ta, tb, ib] := Keep.refl h0 _
  have pre0 : ∀ tq, Steps p.tables e below (s₁.setTop (mkF m 0 #[.val (.ref q), .val (.ref ra), .val (.ref ib), .val (.int cd), .unset, .unset, .unset] [])) tq → Steps p.tables e below (s₁.setTop (entryFrame m #[(.ref q), (.ref ra), (.ref ib), (.int cd)] 7)) tq := fun tq kq => castTop (ef_5_2 m q ra ib cd) kq
  obtain ⟨v3, hv3⟩ : ∃ z_q : Int32, z_q = (cd &&& (1 : Int32)) := ⟨_, rfl⟩
  have pre1 : ∀ tq, Steps p.tables e below (s₁.setTop (mkF m 5 #[.val (.ref q), .val (.ref ra), .val (.ref ib), .val (.int cd), .val (.int v3), .unset, .unset] [])) tq → Steps p.tables e below (s₁.setTop (entryFrame m #[(.ref q), (.ref ra), (.ref ib), (.int cd)] 7)) tq := by
    intro tq kt
    refine pre0 _ ?_
    show Steps p.tables e below (s₁.setTop (mkF m 0 #[.val (.ref q), .val (.ref ra), .val (.ref ib), .val (.int cd), .unset, .unset, .unset] [])) _
    refine XS.iloadN X0.here hx rfl (hb hby d5_0) rfl ?_
    show Steps p.tables e below (s₁.setTop (mkF m 1 #[.val (.ref q), .val (.ref ra), .val (.ref ib), .val (.int cd), .unset, .unset, .unset] [(.int cd)])) _
    refine XS.iconst X0.here hx rfl (hb hby d5_1) ?_
    show Steps p.tables e below (s₁.setTop (mkF m 2 #[.val (.ref q), .val (.ref ra), .val (.ref ib), .val (.int cd), .unset, .unset, .unset] [(.int (1 : Int32)), (.int cd)])) _
    refine XS.iand X0.here hx rfl (hb hby d5_2) rfl ?_
    show Steps p.tables e below (s₁.setTop (mkF m 3 #[.val (.ref q), .val (.ref ra), .val (.ref ib), .val (.int cd), .unset, .unset, .unset] [(.int (cd &&& (1 : Int32)))])) _
    refine XS.istore X0.here hx rfl (hb hby d5_3) rfl (l' := #[.val (.ref q), .val (.ref ra), .val (.ref ib), .val (.int cd), .val (.int v3), .unset, .unset]) (by rw [hv3]; rfl) ?_
    show Steps p.tables e below (s₁.setTop (mkF m 5 #[.val (.ref q), .val (.ref ra), .val (.ref ib), .val (.int cd), .val (.int v3), .unset, .unset] [])) _
    exact kt
  rcases (own_split_5_2_5 cd hk hd v3 hv3) with hs2
  · subst hs2
    obtain ⟨v10, hv10⟩ : ∃ z_q : Int32, z_q = (((cd.toUInt32 >>> ((1 : Int32) &&& 31).toUInt32).toInt32) &&& (1 : Int32)) := ⟨_, rfl⟩
    have pre3 : ∀ tq, Steps p.tables e below (s₁.setTop (mkF m 12 #[.val (.ref q), .val (.ref ra), .val (.ref ib), .val (.int cd), .val (.int (1 : Int32)), .val (.int v10), .unset] [])) tq → Steps p.tables e below (s₁.setTop (entryFrame m #[(.ref q), (.ref ra), (.ref ib), (.int cd)] 7)) tq := by
      intro tq kt
      refine pre1 _ ?_
      show Steps p.tables e below (s₁.setTop (mkF m 5 #[.val (.ref q), .val (.ref ra), .val (.ref ib), .val (.int cd), .val (.int (1 : Int32)), .unset, .unset] [])) _
      refine XS.iloadN X0.here hx rfl (hb hby d5_5) rfl ?_
      show Steps p.tables e below (s₁.setTop (mkF m 6 #[.val (.ref q), .val (.ref ra), .val (.ref ib), .val (.int cd), .val (.int (1 : Int32)), .unset, .unset] [(.int cd)])) _
      refine XS.iconst X0.here hx rfl (hb hby d5_6) ?_
      show Steps p.tables e below (s₁.setTop (mkF m 7 #[.val (.ref q), .val (.ref ra), .val (.ref ib), .val (.int cd), .val (.int (1 : Int32)), .unset, .unset] [(.int (1 : Int32)), (.int cd)])) _
      refine XS.iushr X0.here hx rfl (hb hby d5_7) rfl ?_
      show Steps p.tables e below (s₁.setTop (mkF m 8 #[.val (.ref q), .val (.ref ra), .val (.ref ib), .val (.int cd), .val (.int (1 : Int32)), .unset, .unset] [(.int ((cd.toUInt32 >>> ((1 : Int32) &&& 31).toUInt32).toInt32))])) _
      refine XS.iconst X0.here hx rfl (hb hby d5_8) ?_
      show Steps p.tables e below (s₁.setTop (mkF m 9 #[.val (.ref q), .val (.ref ra), .val (.ref ib), .val (.int cd), .val (.int (1 : Int32)), .unset, .unset] [(.int (1 : Int32)), (.int ((cd.toUInt32 >>> ((1 : Int32) &&& 31).toUInt32).toInt32))])) _
      refine XS.iand X0.here hx rfl (hb hby d5_9) rfl ?_
      show Steps p.tables e below (s₁.setTop (mkF m 10 #[.val (.ref q), .val (.ref ra), .val (.ref ib), .val (.int cd), .val (.int (1 : Int32)), .unset, .unset] [(.int (((cd.toUInt32 >>> ((1 : Int32) &&& 31).toUInt32).toInt32) &&& (1 : Int32)))])) _
      refine XS.istore X0.here hx rfl (hb hby d5_10) rfl (l' := #[.val (.ref q), .val (.ref ra), .val (.ref ib), .val (.int cd), .val (.int (1 : Int32)), .val (.int v10), .unset]) (by rw [hv10]; rfl) ?_
      show Steps p.tables e below (s₁.setTop (mkF m 12 #[.val (.ref q), .val (.ref ra), .val (.ref ib), .val (.int cd), .val (.int (1 : Int32)), .val (.int v10), .unset] [])) _
      exact kt
    rcases (own_split_5_2_12_s1 cd hk hd hv3 v10 hv10) with hs4
    · subst hs4
      obtain ⟨cl5, Ar5, q5, S5, M5, H5, G5⟩ := id I4
      have hin5 : ¬ ((1 : Int32) < 0 ∨ cl5.slots.size ≤ ((1 : Int32)).toNatClampNeg) := inb_of S5 ⟨by decide, by decide⟩
      have hat5 : cl5.slots[((1 : Int32)).toNatClampNeg]? = some (.int (0 : Int32)) := Has.at H5 hin5 rfl
      obtain ⟨cl6, Ar6, q6, S6, M6, H6, G6⟩ := id I3
      have hin6 : ¬ ((1 : Int32) < 0 ∨ cl6.slots.size ≤ ((1 : Int32)).toNatClampNeg) := inb_of S6 ⟨by decide, by decide⟩
      have hat6 : cl6.slots[((1 : Int32)).toNatClampNeg]? = some (.ref tb) := Has.at H6 hin6 rfl
      obtain ⟨cq7, kq7, q7a, q7b, q7c⟩ := isOf hZ e0 I0
      obtain ⟨_, _, ⟨T7, L7, k7, n7⟩, -, X7, ⟨Lc7, hQ7, l7, y7, z7⟩, st7⟩ := X0.virtualBack hx (y := (⟨"com/example/evenkeel/evenkeel/TaskQueue", "addFirst", "(Lcom/example/evenkeel/evenkeel/QueuedTasks;)V"⟩ : MethodName)) (z := (⟨"com/example/evenkeel/evenkeel/TaskQueue", "addFirst", "(Lcom/example/evenkeel/evenkeel/QueuedTasks;)V"⟩ : MethodName)) hown (mvT hZ (hw _ (List.mem_of_getElem? (i := 42) rfl))) (mvT hZ (hw _ (List.mem_of_getElem? (i := 43) rfl))) (notFace_of_selects (args := #[]) (mvT hZ (hw _ (List.mem_of_getElem? (i := 45) rfl)))) (mvT hZ (hw _ (List.mem_of_getElem? (i := 45) rfl))) (mvT hZ (hw _ (List.mem_of_getElem? (i := 44) rfl))) (by decide) (backOf (W := 0) (rm6 l Z a0 hw [] q tb h0 n0 Z0 I5 I6 I9 I10 I0 I2 g_q g_tb ne_q_tb) hZ (hw _ (List.mem_of_getElem? (i := 46) rfl)) (hw _ (List.mem_of_getElem? (i := 2) rfl)) (by decide) (by decide)) q7a q7c (g := (mkF m 45 #[.val (.ref q), .val (.ref ra), .val (.ref ib), .val (.int cd), .val (.int (1 : Int32)), .val (.int (0 : Int32)), .unset] [(.ref tb), (.ref q)])) rfl (by rw [hml]; rfl) (Steps.refl _) (argsL := [(.ref tb)]) (rest := []) (lenOf pd_0 rfl) rfl (by show 2 * 0 + _ ≤ _; exact Nat.le_of_eq rfl) (hb hby d5_45) (fun _ _ => ⟨rfl, e0, (by decide : 0 + 0 ≤ _), (by decide : 0 + 0 ≤ _)⟩)
      dsimp only [Pt.U, Pt.locs, Pt.cells, Pt.slots] at X7 l7 y7 z7 st7 hQ7
      subst l7 y7 z7
      obtain ⟨rfl, N7q, K7q, F8, F9, F10, F11, F12, F13⟩ := hQ7
      have N7 := Fr.app N0 N7q
      have F14 : Exa Z T7.heap q "com/example/evenkeel/evenkeel/TaskQueue" := I0.keep K7q
      have F15 : Exa Z T7.heap ta "com/example/evenkeel/evenkeel/QueuedTasks" := I1.keep K7q
      have F16 : Exa Z T7.heap tb "com/example/evenkeel/evenkeel/QueuedTasks" := I2.keep K7q
      have F17 : Arv Z T7.heap ra ka (.object "com/example/evenkeel/evenkeel/QueuedTasks") (2 : Int32) [(.ref ta), (.ref tb)] .null := I3.keep K7q (ninS ne_ra_q (ninS ne_ra_tb nin0))
      have F18 : Arv Z T7.heap ib kb .boolean (2 : Int32) [(.int (0 : Int32)), (.int (0 : Int32))] (.int (0 : Int32)) := I4.keep K7q (ninS ne_ib_q (ninS ne_ib_tb nin0))
      have F19 : Fld Z T7.heap ta "com/example/evenkeel/evenkeel/QueuedTasks" "before" "Lcom/example/evenkeel/evenkeel/QueuedTasks;" .null := I7.keep K7q (ninS (Ne.symm ne_q_ta) (ninS ne_ta_tb nin0))
      have F20 : Fld Z T7.heap ta "com/example/evenkeel/evenkeel/QueuedTasks" "after" "Lcom/example/evenkeel/evenkeel/QueuedTasks;" .null := I8.keep K7q (ninS (Ne.symm ne_q_ta) (ninS ne_ta_tb nin0))
      have Z21 : n0 ≤ T7.heap.size := Nat.le_trans Z0 K7q.1
      have K22 : Keep h0 T7.heap [q, ta, tb, ib] := K0.trans K7q (allS (Or.inl (List.mem_of_getElem? (i := 0) rfl)) (allS (Or.inl (List.mem_of_getElem? (i := 2) rfl)) all0))
      obtain ⟨cl23, Ar23, q23, S23, M23, H23, G23⟩ := id F18
      have hin23 : ¬ ((1 : Int32) < 0 ∨ cl23.slots.size ≤ ((1 : Int32)).toNatClampNeg) := inb_of S23 ⟨by decide, by decide⟩
      obtain ⟨T23, hX23, X23, e23, W23, st23⟩ := stZ X7 hx hZ rfl Ar23 (j := (1 : Int32)) hin23 (g := (mkF m 63 #[.val (.ref q), .val (.ref ra), .val (.ref ib), .val (.int cd), .val (.int (1 : Int32)), .val (.int (0 : Int32)), .unset] [(.int (1 : Int32)), (.int (1 : Int32)), (.ref ib)])) rfl rfl (hb hby d5_63)
      have F24 : Arv Z hX23 ib kb .boolean (2 : Int32) [(.int (0 : Int32)), (.int (1 : Int32))] (.int (0 : Int32)) := Arv.set Ar23 q23 S23 M23 H23 G23 (fits_nar_bool _) W23 1 rfl (Nat.le_of_ble_eq_true rfl)
      have N23 := Fr.snoc X23 N7 g_ib
      have F25 : Exa Z hX23 q "com/example/evenkeel/evenkeel/TaskQueue" := F12.wr W23
      have F26 : Exa Z hX23 ta "com/example/evenkeel/evenkeel/QueuedTasks" := F15.wr W23
      have F27 : Exa Z hX23 tb "com/example/evenkeel/evenkeel/QueuedTasks" := F13.wr W23
      have F28 : Arv Z hX23 ra ka (.object "com/example/evenkeel/evenkeel/QueuedTasks") (2 : Int32) [(.ref ta), (.ref tb)] .null := F17.other W23 ne_ra_ib
      have F29 : Fld Z hX23 ta "com/example/evenkeel/evenkeel/QueuedTasks" "before" "Lcom/example/evenkeel/evenkeel/QueuedTasks;" .null := F19.other W23 (Or.inl (Ne.symm ne_ib_ta))
      have F30 : Fld Z hX23 ta "com/example/evenkeel/evenkeel/QueuedTasks" "after" "Lcom/example/evenkeel/evenkeel/QueuedTasks;" .null := F20.other W23 (Or.inl (Ne.symm ne_ib_ta))
      have F31 : Fld Z hX23 q "com/example/evenkeel/evenkeel/TaskQueue" "first" "Lcom/example/evenkeel/evenkeel/QueuedTasks;" (.ref tb) := F8.other W23 (Or.inl (Ne.symm ne_ib_q))
      have F32 : Fld Z hX23 q "com/example/evenkeel/evenkeel/TaskQueue" "last" "Lcom/example/evenkeel/evenkeel/QueuedTasks;" (.ref tb) := F9.other W23 (Or.inl (Ne.symm ne_ib_q))
      have F33 : Fld Z hX23 tb "com/example/evenkeel/evenkeel/QueuedTasks" "before" "Lcom/example/evenkeel/evenkeel/QueuedTasks;" .null := F10.other W23 (Or.inl (Ne.symm ne_ib_tb))
      have F34 : Fld Z hX23 tb "com/example/evenkeel/evenkeel/QueuedTasks" "after" "Lcom/example/evenkeel/evenkeel/QueuedTasks;" .null := F11.other W23 (Or.inl (Ne.symm ne_ib_tb))
      have Z35 : n0 ≤ hX23.size := Nat.le_trans Z21 (Keep.of_wr W23).1
      have K36 : Keep h0 hX23 [q, ta, tb, ib] := K22.wr W23 (Or.inl (List.mem_of_getElem? (i := 3) rfl))
      obtain ⟨cl37, Ar37, q37, S37, M37, H37, G37⟩ := id F24
      have hin37 : ¬ ((0 : Int32) < 0 ∨ cl37.slots.size ≤ ((0 : Int32)).toNatClampNeg) := inb_of S37 ⟨by decide, by decide⟩
      have hat37 : cl37.slots[((0 : Int32)).toNatClampNeg]? = some (.int (0 : Int32)) := Has.at H37 hin37 rfl
      obtain ⟨cl38, Ar38, q38, S38, M38, H38, G38⟩ := id F24
      have hin38 : ¬ ((1 : Int32) < 0 ∨ cl38.slots.size ≤ ((1 : Int32)).toNatClampNeg) := inb_of S38 ⟨by decide, by decide⟩
      have hat38 : cl38.slots[((1 : Int32)).toNatClampNeg]? = some (.int (1 : Int32)) := Has.at H38 hin38 rfl
      obtain ⟨cq39, kq39, q39a, q39b, q39c⟩ := isOf hZ e23 F25
      obtain ⟨_, _, ⟨T39, L39, k39, n39⟩, -, X39, ⟨Lc39, hQ39, l39, y39, z39⟩, st39⟩ := X23.virtualBack hx (y := (⟨"com/example/evenkeel/evenkeel/TaskQueue", "isEmpty", "()Z"⟩ : MethodName)) (z := (⟨"com/example/evenkeel/evenkeel/TaskQueue", "isEmpty", "()Z"⟩ : MethodName)) hown (mvT hZ (hw _ (List.mem_of_getElem? (i := 31) rfl))) (mvT hZ (hw _ (List.mem_of_getElem? (i := 32) rfl))) (notFace_of_selects (args := #[]) (mvT hZ (hw _ (List.mem_of_getElem? (i := 34) rfl)))) (mvT hZ (hw _ (List.mem_of_getElem? (i := 34) rfl))) (mvT hZ (hw _ (List.mem_of_getElem? (i := 33) rfl))) (by decide) (backOf (W := 0) (rm4_1 l Z a0 hw [] q tb hX23 n0 Z35 F31) hZ (hw _ (List.mem_of_getElem? (i := 35) rfl)) (hw _ (List.mem_of_getElem? (i := 2) rfl)) (by decide) (by decide)) q39a q39c (g := (mkF m 84 #[.val (.ref q), .val (.ref ra), .val (.ref ib), .val (.int cd), .val (.int (1 : Int32)), .val (.int (0 : Int32)), .val (.int (0 : Int32))] [(.ref q)])) rfl (by rw [hml]; rfl) (Steps.refl _) (argsL := []) (rest := []) (lenOf pd_1 rfl) rfl (by show 2 * 0 + _ ≤ _; exact Nat.le_of_eq rfl) (hb hby d5_84) (fun _ _ => ⟨rfl, e23, (by decide : 0 + 0 ≤ _), (by decide : 0 + 0 ≤ _)⟩)
      dsimp only [Pt.U, Pt.locs, Pt.cells, Pt.slots] at X39 l39 y39 z39 st39 hQ39
      subst l39 y39 z39
      obtain ⟨rfl, N39q, e39⟩ := hQ39
      have N39 := Fr.app N23 N39q
      obtain ⟨fs, hr, hrun, hended, hW, hsame⟩ := X39.leave (v := some (Value.int (1 : Int32))) (fun h => by rw [Bd.returns] at h; cases h)
      refine ⟨_, _, pre3 _ ?_, hrun, hended, _, _, rfl, ?_, ⟨_, rfl⟩, hW, hsame.mono (by decide) (by decide)⟩
      · skip
        show Steps p.tables e below (s₁.setTop (mkF m 12 #[.val (.ref q), .val (.ref ra), .val (.ref ib), .val (.int cd), .val (.int (1 : Int32)), .val (.int (0 : Int32)), .unset] [])) _
        refine XS.aloadN X0.here hx rfl (hb hby d5_12) rfl rfl ?_
        show Steps p.tables e below (s₁.setTop (mkF m 13 #[.val (.ref q), .val (.ref ra), .val (.ref ib), .val (.int cd), .val (.int (1 : Int32)), .val (.int (0 : Int32)), .unset] [(.ref ib)])) _
        refine XS.iload X0.here hx rfl (hb hby d5_13) rfl ?_
        show Steps p.tables e below (s₁.setTop (mkF m 15 #[.val (.ref q), .val (.ref ra), .val (.ref ib), .val (.int cd), .val (.int (1 : Int32)), .val (.int (0 : Int32)), .unset] [(.int (1 : Int32)), (.ref ib)])) _
        refine X0.baloadBooleans hx (j := (1 : Int32)) (v := (.int (0 : Int32))) (heq_of e0 Ar5.1) (State.isArrayOf_alike hZ.alike Ar5.2.1) Ar5.2.2 hin5 hat5 (g := (mkF m 15 #[.val (.ref q), .val (.ref ra), .val (.ref ib), .val (.int cd), .val (.int (1 : Int32)), .val (.int (0 : Int32)), .unset] [(.int (1 : Int32)), (.ref ib)])) rfl rfl (hb hby d5_15) _ ?_
        show Steps p.tables e below (s₁.setTop (mkF m 16 #[.val (.ref q), .val (.ref ra), .val (.ref ib), .val (.int cd), .val (.int (1 : Int32)), .val (.int (0 : Int32)), .unset] [(.int (0 : Int32))])) _
        refine XS.ifYes X0.here hx rfl (pc0 := 16) (pc' := 35) rfl (hb hby d5_16) rfl ((if0 _ _).trans (teq rfl).1) (by decide) (by decide) ?_
        show Steps p.tables e below (s₁.setTop (mkF m 35 #[.val (.ref q), .val (.ref ra), .val (.ref ib), .val (.int cd), .val (.int (1 : Int32)), .val (.int (0 : Int32)), .unset] [])) _
        refine XS.iload X0.here hx rfl (hb hby d5_35) rfl ?_
        show Steps p.tables e below (s₁.setTop (mkF m 37 #[.val (.ref q), .val (.ref ra), .val (.ref ib), .val (.int cd), .val (.int (1 : Int32)), .val (.int (0 : Int32)), .unset] [(.int (0 : Int32))])) _
        refine XS.ifNo X0.here hx rfl (hb hby d5_37) rfl ((if0 _ _).trans (teq rfl).2) ?_
        show Steps p.tables e below (s₁.setTop (mkF m 40 #[.val (.ref q), .val (.ref ra), .val (.ref ib), .val (.int cd), .val (.int (1 : Int32)), .val (.int (0 : Int32)), .unset] [])) _
        refine XS.aloadN X0.here hx rfl (hb hby d5_40) rfl rfl ?_
        show Steps p.tables e below (s₁.setTop (mkF m 41 #[.val (.ref q), .val (.ref ra), .val (.ref ib), .val (.int cd), .val (.int (1 : Int32)), .val (.int (0 : Int32)), .unset] [(.ref q)])) _
        refine XS.aloadN X0.here hx rfl (hb hby d5_41) rfl rfl ?_
        show Steps p.tables e below (s₁.setTop (mkF m 42 #[.val (.ref q), .val (.ref ra), .val (.ref ib), .val (.int cd), .val (.int (1 : Int32)), .val (.int (0 : Int32)), .unset] [(.ref ra), (.ref q)])) _
        refine XS.iload X0.here hx rfl (hb hby d5_42) rfl ?_
        show Steps p.tables e below (s₁.setTop (mkF m 44 #[.val (.ref q), .val (.ref ra), .val (.ref ib), .val (.int cd), .val (.int (1 : Int32)), .val (.int (0 : Int32)), .unset] [(.int (1 : Int32)), (.ref ra), (.ref q)])) _
        refine X0.aaload hx (j := (1 : Int32)) (v := (.ref tb)) (heq_of e0 Ar6.1) (State.isArrayOf_alike hZ.alike Ar6.2.1) rfl Ar6.2.2 hin6 hat6 (g := (mkF m 44 #[.val (.ref q), .val (.ref ra), .val (.ref ib), .val (.int cd), .val (.int (1 : Int32)), .val (.int (0 : Int32)), .unset] [(.int (1 : Int32)), (.ref ra), (.ref q)])) rfl rfl (hb hby d5_44) _ ?_
        show Steps p.tables e below (s₁.setTop (mkF m 45 #[.val (.ref q), .val (.ref ra), .val (.ref ib), .val (.int cd), .val (.int (1 : Int32)), .val (.int (0 : Int32)), .unset] [(.ref tb), (.ref q)])) _
        refine st7.trans ?_
        show Steps p.tables e below (T7.setTop (mkF m 48 #[.val (.ref q), .val (.ref ra), .val (.ref ib), .val (.int cd), .val (.int (1 : Int32)), .val (.int (0 : Int32)), .unset] [])) _
        refine XS.goto X7.here hx rfl (pc0 := 48) (pc' := 59) rfl (hb hby d5_48) (by decide) (by decide) ?_
        show Steps p.tables e below (T7.setTop (mkF m 59 #[.val (.ref q), .val (.ref ra), .val (.ref ib), .val (.int cd), .val (.int (1 : Int32)), .val (.int (0 : Int32)), .unset] [])) _
        refine XS.aloadN X7.here hx rfl (hb hby d5_59) rfl rfl ?_
        show Steps p.tables e below (T7.setTop (mkF m 60 #[.val (.ref q), .val (.ref ra), .val (.ref ib), .val (.int cd), .val (.int (1 : Int32)), .val (.int (0 : Int32)), .unset] [(.ref ib)])) _
        refine XS.iload X7.here hx rfl (hb hby d5_60) rfl ?_
        show Steps p.tables e below (T7.setTop (mkF m 62 #[.val (.ref q), .val (.ref ra), .val (.ref ib), .val (.int cd), .val (.int (1 : Int32)), .val (.int (0 : Int32)), .unset] [(.int (1 : Int32)), (.ref ib)])) _
        refine XS.iconst X7.here hx rfl (hb hby d5_62) ?_
        show Steps p.tables e below (T7.setTop (mkF m 63 #[.val (.ref q), .val (.ref ra), .val (.ref ib), .val (.int cd), .val (.int (1 : Int32)), .val (.int (0 : Int32)), .unset] [(.int (1 : Int32)), (.int (1 : Int32)), (.ref ib)])) _
        refine st23 _ ?_
        show Steps p.tables e below (T23.setTop (mkF m 64 #[.val (.ref q), .val (.ref ra), .val (.ref ib), .val (.int cd), .val (.int (1 : Int32)), .val (.int (0 : Int32)), .unset] [])) _
        refine XS.aloadN X23.here hx rfl (hb hby d5_64) rfl rfl ?_
        show Steps p.tables e below (T23.setTop (mkF m 65 #[.val (.ref q), .val (.ref ra), .val (.ref ib), .val (.int cd), .val (.int (1 : Int32)), .val (.int (0 : Int32)), .unset] [(.ref ib)])) _
        refine XS.iconst X23.here hx rfl (hb hby d5_65) ?_
        show Steps p.tables e below (T23.setTop (mkF m 66 #[.val (.ref q), .val (.ref ra), .val (.ref ib), .val (.int cd), .val (.int (1 : Int32)), .val (.int (0 : Int32)), .unset] [(.int (0 : Int32)), (.ref ib)])) _
        refine X23.baloadBooleans hx (j := (0 : Int32)) (v := (.int (0 : Int32))) (heq_of e23 Ar37.1) (State.isArrayOf_alike hZ.alike Ar37.2.1) Ar37.2.2 hin37 hat37 (g := (mkF m 66 #[.val (.ref q), .val (.ref ra), .val (.ref ib), .val (.int cd), .val (.int (1 : Int32)), .val (.int (0 : Int32)), .unset] [(.int (0 : Int32)), (.ref ib)])) rfl rfl (hb hby d5_66) _ ?_
        show Steps p.tables e below (T23.setTop (mkF m 67 #[.val (.ref q), .val (.ref ra), .val (.ref ib), .val (.int cd), .val (.int (1 : Int32)), .val (.int (0 : Int32)), .unset] [(.int (0 : Int32))])) _
        refine XS.ifNo X23.here hx rfl (hb hby d5_67) rfl ((if0 _ _).trans (teq rfl).2) ?_
        show Steps p.tables e below (T23.setTop (mkF m 70 #[.val (.ref q), .val (.ref ra), .val (.ref ib), .val (.int cd), .val (.int (1 : Int32)), .val (.int (0 : Int32)), .unset] [])) _
        refine XS.aloadN X23.here hx rfl (hb hby d5_70) rfl rfl ?_
        show Steps p.tables e below (T23.setTop (mkF m 71 #[.val (.ref q), .val (.ref ra), .val (.ref ib), .val (.int cd), .val (.int (1 : Int32)), .val (.int (0 : Int32)), .unset] [(.ref ib)])) _
        refine XS.iconst X23.here hx rfl (hb hby d5_71) ?_
        show Steps p.tables e below (T23.setTop (mkF m 72 #[.val (.ref q), .val (.ref ra), .val (.ref ib), .val (.int cd), .val (.int (1 : Int32)), .val (.int (0 : Int32)), .unset] [(.int (1 : Int32)), (.ref ib)])) _
        refine X23.baloadBooleans hx (j := (1 : Int32)) (v := (.int (1 : Int32))) (heq_of e23 Ar38.1) (State.isArrayOf_alike hZ.alike Ar38.2.1) Ar38.2.2 hin38 hat38 (g := (mkF m 72 #[.val (.ref q), .val (.ref ra), .val (.ref ib), .val (.int cd), .val (.int (1 : Int32)), .val (.int (0 : Int32)), .unset] [(.int (1 : Int32)), (.ref ib)])) rfl rfl (hb hby d5_72) _ ?_
        show Steps p.tables e below (T23.setTop (mkF m 73 #[.val (.ref q), .val (.ref ra), .val (.ref ib), .val (.int cd), .val (.int (1 : Int32)), .val (.int (0 : Int32)), .unset] [(.int (1 : Int32))])) _
        refine XS.ifYes X23.here hx rfl (pc0 := 73) (pc' := 80) rfl (hb hby d5_73) rfl ((if0 _ _).trans (feq (by decide)).2) (by decide) (by decide) ?_
        show Steps p.tables e below (T23.setTop (mkF m 80 #[.val (.ref q), .val (.ref ra), .val (.ref ib), .val (.int cd), .val (.int (1 : Int32)), .val (.int (0 : Int32)), .unset] [])) _
        refine XS.iconst X23.here hx rfl (hb hby d5_80) ?_
        show Steps p.tables e below (T23.setTop (mkF m 81 #[.val (.ref q), .val (.ref ra), .val (.ref ib), .val (.int cd), .val (.int (1 : Int32)), .val (.int (0 : Int32)), .unset] [(.int (0 : Int32))])) _
        refine XS.istore X23.here hx rfl (hb hby d5_81) rfl (l' := #[.val (.ref q), .val (.ref ra), .val (.ref ib), .val (.int cd), .val (.int (1 : Int32)), .val (.int (0 : Int32)), .val (.int (0 : Int32))]) rfl ?_
        show Steps p.tables e below (T23.setTop (mkF m 83 #[.val (.ref q), .val (.ref ra), .val (.ref ib), .val (.int cd), .val (.int (1 : Int32)), .val (.int (0 : Int32)), .val (.int (0 : Int32))] [])) _
        refine XS.aloadN X23.here hx rfl (hb hby d5_83) rfl rfl ?_
        show Steps p.tables e below (T23.setTop (mkF m 84 #[.val (.ref q), .val (.ref ra), .val (.ref ib), .val (.int cd), .val (.int (1 : Int32)), .val (.int (0 : Int32)), .val (.int (0 : Int32))] [(.ref q)])) _
        refine st39.trans ?_
        show Steps p.tables e below (T39.setTop (mkF m 87 #[.val (.ref q), .val (.ref ra), .val (.ref ib), .val (.int cd), .val (.int (1 : Int32)), .val (.int (0 : Int32)), .val (.int (0 : Int32))] [(.int (0 : Int32))])) _
        refine XS.iload X39.here hx rfl (hb hby d5_87) rfl ?_
        show Steps p.tables e below (T39.setTop (mkF m 89 #[.val (.ref q), .val (.ref ra), .val (.ref ib), .val (.int cd), .val (.int (1 : Int32)), .val (.int (0 : Int32)), .val (.int (0 : Int32))] [(.int (0 : Int32)), (.int (0 : Int32))])) _
        refine XS.icmpNo X39.here hx rfl (hb hby d5_89) rfl (teq rfl).2 ?_
        show Steps p.tables e below (T39.setTop (mkF m 92 #[.val (.ref q), .val (.ref ra), .val (.ref ib), .val (.int cd), .val (.int (1 : Int32)), .val (.int (0 : Int32)), .val (.int (0 : Int32))] [])) _
        refine XS.iconst X39.here hx rfl (hb hby d5_92) ?_
        show Steps p.tables e below (T39.setTop (mkF m 93 #[.val (.ref q), .val (.ref ra), .val (.ref ib), .val (.int cd), .val (.int (1 : Int32)), .val (.int (0 : Int32)), .val (.int (0 : Int32))] [(.int (1 : Int32))])) _
        refine XS.goto X39.here hx rfl (pc0 := 93) (pc' := 97) rfl (hb hby d5_93) (by decide) (by decide) ?_
        show Steps p.tables e below (T39.setTop (mkF m 97 #[.val (.ref q), .val (.ref ra), .val (.ref ib), .val (.int cd), .val (.int (1 : Int32)), .val (.int (0 : Int32)), .val (.int (0 : Int32))] [(.int (1 : Int32))])) _
        exact retN X39 hx (t := .boolean) Bd.returns (by simp) (hb hby d5_97) hr
      · show Q5_2 Z q ra ib cd ta tb ka kb h0 n0 _ T39.heap _
        rw [e39]
        exact ⟨rfl, N39, K36, F25, F26, F27, F28, F24, F31, F32, F29, F30, F33, F34⟩
theorem ef_5_3 (m : MethodId) (x0 : Addr) (x1 : Addr) (x2 : Addr) (x3 : Int32) : entryFrame m #[(.ref x0), (.ref x1), (.ref x2), (.int x3)] 7 = mkF m 0 #[.val (.ref x0), .val (.ref x1), .val (.ref x2), .val (.int x3), .unset, .unset, .unset] [] := by first | (simp [entryFrame, mkF, argsToLocals, Value.category]; done) | rfl
theorem own_split_5_3_5 (cd : Int32) (hk : (cd &&& (1 : Int32)) = (1 : Int32)) (hd : ((cd.toUInt32 >>> ((1 : Int32) &&& 31).toUInt32).toInt32 &&& (1 : Int32)) = (1 : Int32)) (v3 : Int32) (hv3 : v3 = (cd &&& (1 : Int32))) : v3 = (1 : Int32) := by rw [hv3]; exact hk
theorem own_split_5_3_12_s1 (cd : Int32) (hk : (cd &&& (1 : Int32)) = (1 : Int32)) (hd : ((cd.toUInt32 >>> ((1 : Int32) &&& 31).toUInt32).toInt32 &&& (1 : Int32)) = (1 : Int32)) (hv3 : (1 : Int32) = (cd &&& (1 : Int32))) (v10 : Int32) (hv10 : v10 = (((cd.toUInt32 >>> ((1 : Int32) &&& 31).toUInt32).toInt32) &&& (1 : Int32))) : v10 = (1 : Int32) := by rw [hv10]; exact hd
def Q5_3 (Z : State) (q : Addr) (ra : Addr) (ib : Addr) (cd : Int32) (ta : Addr) (tb : Addr) (ka : ClassId) (kb : ClassId) (h0 : Heap) (n0 : Nat) (v : Option Value) (h : Heap) (L : List Loc) : Prop := v = some (.int (1 : Int32)) ∧ Fr n0 L ∧ Keep h0 h [q, ta, tb, ib] ∧ Exa Z h q "com/example/evenkeel/evenkeel/TaskQueue" ∧ Exa Z h ta "com/example/evenkeel/evenkeel/QueuedTasks" ∧ Exa Z h tb "com/example/evenkeel/evenkeel/QueuedTasks" ∧ Arv Z h ra ka (.object "com/example/evenkeel/evenkeel/QueuedTasks") (2 : Int32) [(.ref ta), (.ref tb)] .null ∧ Arv Z h ib kb .boolean (2 : Int32) [(.int (0 : Int32)), (.int (1 : Int32))] (.int (0 : Int32)) ∧ Fld Z h q "com/example/evenkeel/evenkeel/TaskQueue" "first" "Lcom/example/evenkeel/evenkeel/QueuedTasks;" (.ref tb) ∧ Fld Z h q "com/example/evenkeel/evenkeel/TaskQueue" "last" "Lcom/example/evenkeel/evenkeel/QueuedTasks;" (.ref tb) ∧ Fld Z h ta "com/example/evenkeel/evenkeel/QueuedTasks" "before" "Lcom/example/evenkeel/evenkeel/QueuedTasks;" .null ∧ Fld Z h ta "com/example/evenkeel/evenkeel/QueuedTasks" "after" "Lcom/example/evenkeel/evenkeel/QueuedTasks;" .null ∧ Fld Z h tb "com/example/evenkeel/evenkeel/QueuedTasks" "before" "Lcom/example/evenkeel/evenkeel/QueuedTasks;" .null ∧ Fld Z h tb "com/example/evenkeel/evenkeel/QueuedTasks" "after" "Lcom/example/evenkeel/evenkeel/QueuedTasks;" .null
set_option maxRecDepth 65536 in
set_option maxHeartbeats 40000000 in
theorem rm5_3 (l : Launch) (Z : State) (a0 : Array Value) (hw : ∀ d ∈ tables_1, d.before a0 Z = true) (ws : List Jvm.Cond) (q : Addr) (ra : Addr) (ib : Addr) (cd : Int32) (ta : Addr) (tb : Addr) (ka : ClassId) (kb : ClassId) (h0 : Heap) (n0 : Nat) (Z0 : n0 ≤ h0.size) (I0 : Exa Z h0 q "com/example/evenkeel/evenkeel/TaskQueue") (I1 : Exa Z h0 ta "com/example/evenkeel/evenkeel/QueuedTasks") (I2 : Exa Z h0 tb "com/example/evenkeel/evenkeel/QueuedTasks") (I3 : Arv Z h0 ra ka (.object "com/example/evenkeel/evenkeel/QueuedTasks") (2 : Int32) [(.ref ta), (.ref tb)] .null) (I4 : Arv Z h0 ib kb .boolean (2 : Int32) [(.int (0 : Int32)), (.int (0 : Int32))] (.int (0 : Int32))) (I5 : Fld Z h0 q "com/example/evenkeel/evenkeel/TaskQueue" "first" "Lcom/example/evenkeel/evenkeel/QueuedTasks;" .null) (I6 : Fld Z h0 q "com/example/evenkeel/evenkeel/TaskQueue" "last" "Lcom/example/evenkeel/evenkeel/QueuedTasks;" .null) (I7 : Fld Z h0 ta "com/example/evenkeel/evenkeel/QueuedTasks" "before" "Lcom/example/evenkeel/evenkeel/QueuedTasks;" .null) (I8 : Fld Z h0 ta "com/example/evenkeel/evenkeel/QueuedTasks" "after" "Lcom/example/evenkeel/evenkeel/QueuedTasks;" .null) (I9 : Fld Z h0 tb "com/example/evenkeel/evenkeel/QueuedTasks" "before" "Lcom/example/evenkeel/evenkeel/QueuedTasks;" .null) (I10 : Fld Z h0 tb "com/example/evenkeel/evenkeel/QueuedTasks" "after" "Lcom/example/evenkeel/evenkeel/QueuedTasks;" .null) (g_q : n0 ≤ q) (g_ta : n0 ≤ ta) (g_tb : n0 ≤ tb) (g_ib : n0 ≤ ib) (ne_q_ta : q ≠ ta) (ne_q_tb : q ≠ tb) (ne_ta_tb : ta ≠ tb) (ne_ra_q : ra ≠ q) (ne_ra_ta : ra ≠ ta) (ne_ra_tb : ra ≠ tb) (ne_ib_q : ib ≠ q) (ne_ib_ta : ib ≠ ta) (ne_ib_tb : ib ≠ tb) (ne_ra_ib : ra ≠ ib) (hk : (cd &&& (1 : Int32)) = (1 : Int32)) (hd : ((cd.toUInt32 >>> ((1 : Int32) &&& 31).toUInt32).toInt32 &&& (1 : Int32)) = (1 : Int32)) :
    MetFree l (⟨"com/example/evenkeel/evenkeel/TaskQueueIsEmptyPinLaw", "step", "(Lcom/example/evenkeel/evenkeel/TaskQueue;[Lcom/example/evenkeel/evenkeel/QueuedTasks;[ZI)Z"⟩ : MethodName) (head1 (Jvm.Cond.code (⟨"com/example/evenkeel/evenkeel/TaskQueueIsEmptyPinLaw", "step", "(Lcom/example/evenkeel/evenkeel/TaskQueue;[Lcom/example/evenkeel/evenkeel/QueuedTasks;[ZI)Z"⟩ : MethodName) method_3_code 7 (some .boolean) :: ws) ({ frames := 1, cells := 0, slots := 0, locals := 13 } : Room)) (fun a U => a = #[(.ref q), (.ref ra), (.ref ib), (.int cd)] ∧ Z.Warmed39 U.vm ∧ U.heap = h0) (fun _ _ _ _ _ => True) (fun _ U o U' => ∃ v L, o = .returned v ∧ Q5_3 Z q ra ib cd ta tb ka kb h0 n0 v U'.heap L ∧ FrameEnd U o U' L ({ frames := 1, cells := 0, slots := 0, locals := 13 } : Room).cells ({ frames := 1, cells := 0, slots := 0, locals := 13 } : Room).slots) := by
  refine MetFree.of_bodySF (plainFor_of_name pn_5) hisR ?_
  intro p e s m args below meth c s₁ Bd hml0 hP hK
  obtain ⟨rfl, hZ, hh⟩ := hP
  have hx := Bd.exec
  have hby := Bd.bytes
  have hml : c.maxLocals = 7 := hml0
  have hown : s.vm.findClass "com/example/evenkeel/evenkeel/TaskQueueIsEmptyPinLaw" = some m.cls := findClass_of_methodNamed Bd.named
  have hnm := (name_of_methodNamed Bd.named Bd.method).1
  have X0 : Stand p l e ({ frames := 1, cells := 0, slots := 0, locals := 13 } : Room) s m #[(.ref q), (.ref ra), (.ref ib), (.int cd)] below meth c s₁ [] 0 0 := Stand.of_body Bd
  have e0 : s₁.heap = h0 := by rw [← hh, Bd.state]; rfl
  have N0 := Fr.nil n0
  have K0 : Keep h0 h0 [q, ta, tb, ib] := Keep.refl h0 _
  have pre0 : ∀ tq, Steps p.tables e below (s₁.setTop (mkF m 0 #[.val (.ref q), .val (.ref ra), .val (.ref ib), .val (.int cd), .unset, .unset, .unset] [])) tq → Steps p.tables e below (s₁.setTop (entryFrame m #[(.ref q), (.ref ra), (.ref ib), (.int cd)] 7)) tq := fun tq kq => castTop (ef_5_3 m q ra ib cd) kq
  obtain ⟨v3, hv3⟩ : ∃ z_q : Int32, z_q = (cd &&& (1 : Int32)) := ⟨_, rfl⟩
  have pre1 : ∀ tq, Steps p.tables e below (s₁.setTop (mkF m 5 #[.val (.ref q), .val (.ref ra), .val (.ref ib), .val (.int cd), .val (.int v3), .unset, .unset] [])) tq → Steps p.tables e below (s₁.setTop (entryFrame m #[(.ref q), (.ref ra), (.ref ib), (.int cd)] 7)) tq := by
    intro tq kt
    refine pre0 _ ?_
    show Steps p.tables e below (s₁.setTop (mkF m 0 #[.val (.ref q), .val (.ref ra), .val (.ref ib), .val (.int cd), .unset, .unset, .unset] [])) _
    refine XS.iloadN X0.here hx rfl (hb hby d5_0) rfl ?_
    show Steps p.tables e below (s₁.setTop (mkF m 1 #[.val (.ref q), .val (.ref ra), .val (.ref ib), .val (.int cd), .unset, .unset, .unset] [(.int cd)])) _
    refine XS.iconst X0.here hx rfl (hb hby d5_1) ?_
    show Steps p.tables e below (s₁.setTop (mkF m 2 #[.val (.ref q), .val (.ref ra), .val (.ref ib), .val (.int cd), .unset, .unset, .unset] [(.int (1 : Int32)), (.int cd)])) _
    refine XS.iand X0.here hx rfl (hb hby d5_2) rfl ?_
    show Steps p.tables e below (s₁.setTop (mkF m 3 #[.val (.ref q), .val (.ref ra), .val (.ref ib), .val (.int cd), .unset, .unset, .unset] [(.int (cd &&& (1 : Int32)))])) _
    refine XS.istore X0.here hx rfl (hb hby d5_3) rfl (l' := #[.val (.ref q), .val (.ref ra), .val (.ref ib), .val (.int cd), .val (.int v3), .unset, .unset]) (by rw [hv3]; rfl) ?_
    show Steps p.tables e below (s₁.setTop (mkF m 5 #[.val (.ref q), .val (.ref ra), .val (.ref ib), .val (.int cd), .val (.int v3), .unset, .unset] [])) _
    exact kt
  rcases (own_split_5_3_5 cd hk hd v3 hv3) with hs2
  · subst hs2
    obtain ⟨v10, hv10⟩ : ∃ z_q : Int32, z_q = (((cd.toUInt32 >>> ((1 : Int32) &&& 31).toUInt32).toInt32) &&& (1 : Int32)) := ⟨_, rfl⟩
    have pre3 : ∀ tq, Steps p.tables e below (s₁.setTop (mkF m 12 #[.val (.ref q), .val (.ref ra), .val (.ref ib), .val (.int cd), .val (.int (1 : Int32)), .val (.int v10), .unset] [])) tq → Steps p.tables e below (s₁.setTop (entryFrame m #[(.ref q), (.ref ra), (.ref ib), (.int cd)] 7)) tq := by
      intro tq kt
      refine pre1 _ ?_
      show Steps p.tables e below (s₁.setTop (mkF m 5 #[.val (.ref q), .val (.ref ra), .val (.ref ib), .val (.int cd), .val (.int (1 : Int32)), .unset, .unset] [])) _
      refine XS.iloadN X0.here hx rfl (hb hby d5_5) rfl ?_
      show Steps p.tables e below (s₁.setTop (mkF m 6 #[.val (.ref q), .val (.ref ra), .val (.ref ib), .val (.int cd), .val (.int (1 : Int32)), .unset, .unset] [(.int cd)])) _
      refine XS.iconst X0.here hx rfl (hb hby d5_6) ?_
      show Steps p.tables e below (s₁.setTop (mkF m 7 #[.val (.ref q), .val (.ref ra), .val (.ref ib), .val (.int cd), .val (.int (1 : Int32)), .unset, .unset] [(.int (1 : Int32)), (.int cd)])) _
      refine XS.iushr X0.here hx rfl (hb hby d5_7) rfl ?_
      show Steps p.tables e below (s₁.setTop (mkF m 8 #[.val (.ref q), .val (.ref ra), .val (.ref ib), .val (.int cd), .val (.int (1 : Int32)), .unset, .unset] [(.int ((cd.toUInt32 >>> ((1 : Int32) &&& 31).toUInt32).toInt32))])) _
      refine XS.iconst X0.here hx rfl (hb hby d5_8) ?_
      show Steps p.tables e below (s₁.setTop (mkF m 9 #[.val (.ref q), .val (.ref ra), .val (.ref ib), .val (.int cd), .val (.int (1 : Int32)), .unset, .unset] [(.int (1 : Int32)), (.int ((cd.toUInt32 >>> ((1 : Int32) &&& 31).toUInt32).toInt32))])) _
      refine XS.iand X0.here hx rfl (hb hby d5_9) rfl ?_
      show Steps p.tables e below (s₁.setTop (mkF m 10 #[.val (.ref q), .val (.ref ra), .val (.ref ib), .val (.int cd), .val (.int (1 : Int32)), .unset, .unset] [(.int (((cd.toUInt32 >>> ((1 : Int32) &&& 31).toUInt32).toInt32) &&& (1 : Int32)))])) _
      refine XS.istore X0.here hx rfl (hb hby d5_10) rfl (l' := #[.val (.ref q), .val (.ref ra), .val (.ref ib), .val (.int cd), .val (.int (1 : Int32)), .val (.int v10), .unset]) (by rw [hv10]; rfl) ?_
      show Steps p.tables e below (s₁.setTop (mkF m 12 #[.val (.ref q), .val (.ref ra), .val (.ref ib), .val (.int cd), .val (.int (1 : Int32)), .val (.int v10), .unset] [])) _
      exact kt
    rcases (own_split_5_3_12_s1 cd hk hd hv3 v10 hv10) with hs4
    · subst hs4
      obtain ⟨cl5, Ar5, q5, S5, M5, H5, G5⟩ := id I4
      have hin5 : ¬ ((1 : Int32) < 0 ∨ cl5.slots.size ≤ ((1 : Int32)).toNatClampNeg) := inb_of S5 ⟨by decide, by decide⟩
      have hat5 : cl5.slots[((1 : Int32)).toNatClampNeg]? = some (.int (0 : Int32)) := Has.at H5 hin5 rfl
      obtain ⟨cl6, Ar6, q6, S6, M6, H6, G6⟩ := id I3
      have hin6 : ¬ ((1 : Int32) < 0 ∨ cl6.slots.size ≤ ((1 : Int32)).toNatClampNeg) := inb_of S6 ⟨by decide, by decide⟩
      have hat6 : cl6.slots[((1 : Int32)).toNatClampNeg]? = some (.ref tb) := Has.at H6 hin6 rfl
      obtain ⟨cq7, kq7, q7a, q7b, q7c⟩ := isOf hZ e0 I0
      obtain ⟨_, _, ⟨T7, L7, k7, n7⟩, -, X7, ⟨Lc7, hQ7, l7, y7, z7⟩, st7⟩ := X0.virtualBack hx (y := (⟨"com/example/evenkeel/evenkeel/TaskQueue", "addLast", "(Lcom/example/evenkeel/evenkeel/QueuedTasks;)V"⟩ : MethodName)) (z := (⟨"com/example/evenkeel/evenkeel/TaskQueue", "addLast", "(Lcom/example/evenkeel/evenkeel/QueuedTasks;)V"⟩ : MethodName)) hown (mvT hZ (hw _ (List.mem_of_getElem? (i := 51) rfl))) (mvT hZ (hw _ (List.mem_of_getElem? (i := 52) rfl))) (notFace_of_selects (args := #[]) (mvT hZ (hw _ (List.mem_of_getElem? (i := 54) rfl)))) (mvT hZ (hw _ (List.mem_of_getElem? (i := 54) rfl))) (mvT hZ (hw _ (List.mem_of_getElem? (i := 53) rfl))) (by decide) (backOf (W := 0) (rm7 l Z a0 hw [] q tb h0 n0 Z0 I5 I6 I9 I10 I0 I2 g_q g_tb ne_q_tb) hZ (hw _ (List.mem_of_getElem? (i := 55) rfl)) (hw _ (List.mem_of_getElem? (i := 2) rfl)) (by decide) (by decide)) q7a q7c (g := (mkF m 56 #[.val (.ref q), .val (.ref ra), .val (.ref ib), .val (.int cd), .val (.int (1 : Int32)), .val (.int (1 : Int32)), .unset] [(.ref tb), (.ref q)])) rfl (by rw [hml]; rfl) (Steps.refl _) (argsL := [(.ref tb)]) (rest := []) (lenOf pd_0 rfl) rfl (by show 2 * 0 + _ ≤ _; exact Nat.le_of_eq rfl) (hb hby d5_56) (fun _ _ => ⟨rfl, e0, (by decide : 0 + 0 ≤ _), (by decide : 0 + 0 ≤ _)⟩)
      dsimp only [Pt.U, Pt.locs, Pt.cells, Pt.slots] at X7 l7 y7 z7 st7 hQ7
      subst l7 y7 z7
      obtain ⟨rfl, N7q, K7q, F8, F9, F10, F11, F12, F13⟩ := hQ7
      have N7 := Fr.app N0 N7q
      have F14 : Exa Z T7.heap q "com/example/evenkeel/evenkeel/TaskQueue" := I0.keep K7q
      have F15 : Exa Z T7.heap ta "com/example/evenkeel/evenkeel/QueuedTasks" := I1.keep K7q
      have F16 : Exa Z T7.heap tb "com/example/evenkeel/evenkeel/QueuedTasks" := I2.keep K7q
      have F17 : Arv Z T7.heap ra ka (.object "com/example/evenkeel/evenkeel/QueuedTasks") (2 : Int32) [(.ref ta), (.ref tb)] .null := I3.keep K7q (ninS ne_ra_q (ninS ne_ra_tb nin0))
      have F18 : Arv Z T7.heap ib kb .boolean (2 : Int32) [(.int (0 : Int32)), (.int (0 : Int32))] (.int (0 : Int32)) := I4.keep K7q (ninS ne_ib_q (ninS ne_ib_tb nin0))
      have F19 : Fld Z T7.heap ta "com/example/evenkeel/evenkeel/QueuedTasks" "before" "Lcom/example/evenkeel/evenkeel/QueuedTasks;" .null := I7.keep K7q (ninS (Ne.symm ne_q_ta) (ninS ne_ta_tb nin0))
      have F20 : Fld Z T7.heap ta "com/example/evenkeel/evenkeel/QueuedTasks" "after" "Lcom/example/evenkeel/evenkeel/QueuedTasks;" .null := I8.keep K7q (ninS (Ne.symm ne_q_ta) (ninS ne_ta_tb nin0))
      have Z21 : n0 ≤ T7.heap.size := Nat.le_trans Z0 K7q.1
      have K22 : Keep h0 T7.heap [q, ta, tb, ib] := K0.trans K7q (allS (Or.inl (List.mem_of_getElem? (i := 0) rfl)) (allS (Or.inl (List.mem_of_getElem? (i := 2) rfl)) all0))
      obtain ⟨cl23, Ar23, q23, S23, M23, H23, G23⟩ := id F18
      have hin23 : ¬ ((1 : Int32) < 0 ∨ cl23.slots.size ≤ ((1 : Int32)).toNatClampNeg) := inb_of S23 ⟨by decide, by decide⟩
      obtain ⟨T23, hX23, X23, e23, W23, st23⟩ := stZ X7 hx hZ rfl Ar23 (j := (1 : Int32)) hin23 (g := (mkF m 63 #[.val (.ref q), .val (.ref ra), .val (.ref ib), .val (.int cd), .val (.int (1 : Int32)), .val (.int (1 : Int32)), .unset] [(.int (1 : Int32)), (.int (1 : Int32)), (.ref ib)])) rfl rfl (hb hby d5_63)
      have F24 : Arv Z hX23 ib kb .boolean (2 : Int32) [(.int (0 : Int32)), (.int (1 : Int32))] (.int (0 : Int32)) := Arv.set Ar23 q23 S23 M23 H23 G23 (fits_nar_bool _) W23 1 rfl (Nat.le_of_ble_eq_true rfl)
      have N23 := Fr.snoc X23 N7 g_ib
      have F25 : Exa Z hX23 q "com/example/evenkeel/evenkeel/TaskQueue" := F12.wr W23
      have F26 : Exa Z hX23 ta "com/example/evenkeel/evenkeel/QueuedTasks" := F15.wr W23
      have F27 : Exa Z hX23 tb "com/example/evenkeel/evenkeel/QueuedTasks" := F13.wr W23
      have F28 : Arv Z hX23 ra ka (.object "com/example/evenkeel/evenkeel/QueuedTasks") (2 : Int32) [(.ref ta), (.ref tb)] .null := F17.other W23 ne_ra_ib
      have F29 : Fld Z hX23 ta "com/example/evenkeel/evenkeel/QueuedTasks" "before" "Lcom/example/evenkeel/evenkeel/QueuedTasks;" .null := F19.other W23 (Or.inl (Ne.symm ne_ib_ta))
      have F30 : Fld Z hX23 ta "com/example/evenkeel/evenkeel/QueuedTasks" "after" "Lcom/example/evenkeel/evenkeel/QueuedTasks;" .null := F20.other W23 (Or.inl (Ne.symm ne_ib_ta))
      have F31 : Fld Z hX23 q "com/example/evenkeel/evenkeel/TaskQueue" "first" "Lcom/example/evenkeel/evenkeel/QueuedTasks;" (.ref tb) := F8.other W23 (Or.inl (Ne.symm ne_ib_q))
      have F32 : Fld Z hX23 q "com/example/evenkeel/evenkeel/TaskQueue" "last" "Lcom/example/evenkeel/evenkeel/QueuedTasks;" (.ref tb) := F9.other W23 (Or.inl (Ne.symm ne_ib_q))
      have F33 : Fld Z hX23 tb "com/example/evenkeel/evenkeel/QueuedTasks" "before" "Lcom/example/evenkeel/evenkeel/QueuedTasks;" .null := F10.other W23 (Or.inl (Ne.symm ne_ib_tb))
      have F34 : Fld Z hX23 tb "com/example/evenkeel/evenkeel/QueuedTasks" "after" "Lcom/example/evenkeel/evenkeel/QueuedTasks;" .null := F11.other W23 (Or.inl (Ne.symm ne_ib_tb))
      have Z35 : n0 ≤ hX23.size := Nat.le_trans Z21 (Keep.of_wr W23).1
      have K36 : Keep h0 hX23 [q, ta, tb, ib] := K22.wr W23 (Or.inl (List.mem_of_getElem? (i := 3) rfl))
      obtain ⟨cl37, Ar37, q37, S37, M37, H37, G37⟩ := id F24
      have hin37 : ¬ ((0 : Int32) < 0 ∨ cl37.slots.size ≤ ((0 : Int32)).toNatClampNeg) := inb_of S37 ⟨by decide, by decide⟩
      have hat37 : cl37.slots[((0 : Int32)).toNatClampNeg]? = some (.int (0 : Int32)) := Has.at H37 hin37 rfl
      obtain ⟨cl38, Ar38, q38, S38, M38, H38, G38⟩ := id F24
      have hin38 : ¬ ((1 : Int32) < 0 ∨ cl38.slots.size ≤ ((1 : Int32)).toNatClampNeg) := inb_of S38 ⟨by decide, by decide⟩
      have hat38 : cl38.slots[((1 : Int32)).toNatClampNeg]? = some (.int (1 : Int32)) := Has.at H38 hin38 rfl
      obtain ⟨cq39, kq39, q39a, q39b, q39c⟩ := isOf hZ e23 F25
      obtain ⟨_, _, ⟨T39, L39, k39, n39⟩, -, X39, ⟨Lc39, hQ39, l39, y39, z39⟩, st39⟩ := X23.virtualBack hx (y := (⟨"com/example/evenkeel/evenkeel/TaskQueue", "isEmpty", "()Z"⟩ : MethodName)) (z := (⟨"com/example/evenkeel/evenkeel/TaskQueue", "isEmpty", "()Z"⟩ : MethodName)) hown (mvT hZ (hw _ (List.mem_of_getElem? (i := 31) rfl))) (mvT hZ (hw _ (List.mem_of_getElem? (i := 32) rfl))) (notFace_of_selects (args := #[]) (mvT hZ (hw _ (List.mem_of_getElem? (i := 34) rfl)))) (mvT hZ (hw _ (List.mem_of_getElem? (i := 34) rfl))) (mvT hZ (hw _ (List.mem_of_getElem? (i := 33) rfl))) (by decide) (backOf (W := 0) (rm4_1 l Z a0 hw [] q tb hX23 n0 Z35 F31) hZ (hw _ (List.mem_of_getElem? (i := 35) rfl)) (hw _ (List.mem_of_getElem? (i := 2) rfl)) (by decide) (by decide)) q39a q39c (g := (mkF m 84 #[.val (.ref q), .val (.ref ra), .val (.ref ib), .val (.int cd), .val (.int (1 : Int32)), .val (.int (1 : Int32)), .val (.int (0 : Int32))] [(.ref q)])) rfl (by rw [hml]; rfl) (Steps.refl _) (argsL := []) (rest := []) (lenOf pd_1 rfl) rfl (by show 2 * 0 + _ ≤ _; exact Nat.le_of_eq rfl) (hb hby d5_84) (fun _ _ => ⟨rfl, e23, (by decide : 0 + 0 ≤ _), (by decide : 0 + 0 ≤ _)⟩)
      dsimp only [Pt.U, Pt.locs, Pt.cells, Pt.slots] at X39 l39 y39 z39 st39 hQ39
      subst l39 y39 z39
      obtain ⟨rfl, N39q, e39⟩ := hQ39
      have N39 := Fr.app N23 N39q
      obtain ⟨fs, hr, hrun, hended, hW, hsame⟩ := X39.leave (v := some (Value.int (1 : Int32))) (fun h => by rw [Bd.returns] at h; cases h)
      refine ⟨_, _, pre3 _ ?_, hrun, hended, _, _, rfl, ?_, ⟨_, rfl⟩, hW, hsame.mono (by decide) (by decide)⟩
      · skip
        show Steps p.tables e below (s₁.setTop (mkF m 12 #[.val (.ref q), .val (.ref ra), .val (.ref ib), .val (.int cd), .val (.int (1 : Int32)), .val (.int (1 : Int32)), .unset] [])) _
        refine XS.aloadN X0.here hx rfl (hb hby d5_12) rfl rfl ?_
        show Steps p.tables e below (s₁.setTop (mkF m 13 #[.val (.ref q), .val (.ref ra), .val (.ref ib), .val (.int cd), .val (.int (1 : Int32)), .val (.int (1 : Int32)), .unset] [(.ref ib)])) _
        refine XS.iload X0.here hx rfl (hb hby d5_13) rfl ?_
        show Steps p.tables e below (s₁.setTop (mkF m 15 #[.val (.ref q), .val (.ref ra), .val (.ref ib), .val (.int cd), .val (.int (1 : Int32)), .val (.int (1 : Int32)), .unset] [(.int (1 : Int32)), (.ref ib)])) _
        refine X0.baloadBooleans hx (j := (1 : Int32)) (v := (.int (0 : Int32))) (heq_of e0 Ar5.1) (State.isArrayOf_alike hZ.alike Ar5.2.1) Ar5.2.2 hin5 hat5 (g := (mkF m 15 #[.val (.ref q), .val (.ref ra), .val (.ref ib), .val (.int cd), .val (.int (1 : Int32)), .val (.int (1 : Int32)), .unset] [(.int (1 : Int32)), (.ref ib)])) rfl rfl (hb hby d5_15) _ ?_
        show Steps p.tables e below (s₁.setTop (mkF m 16 #[.val (.ref q), .val (.ref ra), .val (.ref ib), .val (.int cd), .val (.int (1 : Int32)), .val (.int (1 : Int32)), .unset] [(.int (0 : Int32))])) _
        refine XS.ifYes X0.here hx rfl (pc0 := 16) (pc' := 35) rfl (hb hby d5_16) rfl ((if0 _ _).trans (teq rfl).1) (by decide) (by decide) ?_
        show Steps p.tables e below (s₁.setTop (mkF m 35 #[.val (.ref q), .val (.ref ra), .val (.ref ib), .val (.int cd), .val (.int (1 : Int32)), .val (.int (1 : Int32)), .unset] [])) _
        refine XS.iload X0.here hx rfl (hb hby d5_35) rfl ?_
        show Steps p.tables e below (s₁.setTop (mkF m 37 #[.val (.ref q), .val (.ref ra), .val (.ref ib), .val (.int cd), .val (.int (1 : Int32)), .val (.int (1 : Int32)), .unset] [(.int (1 : Int32))])) _
        refine XS.ifYes X0.here hx rfl (pc0 := 37) (pc' := 51) rfl (hb hby d5_37) rfl ((if0 _ _).trans (feq (by decide)).2) (by decide) (by decide) ?_
        show Steps p.tables e below (s₁.setTop (mkF m 51 #[.val (.ref q), .val (.ref ra), .val (.ref ib), .val (.int cd), .val (.int (1 : Int32)), .val (.int (1 : Int32)), .unset] [])) _
        refine XS.aloadN X0.here hx rfl (hb hby d5_51) rfl rfl ?_
        show Steps p.tables e below (s₁.setTop (mkF m 52 #[.val (.ref q), .val (.ref ra), .val (.ref ib), .val (.int cd), .val (.int (1 : Int32)), .val (.int (1 : Int32)), .unset] [(.ref q)])) _
        refine XS.aloadN X0.here hx rfl (hb hby d5_52) rfl rfl ?_
        show Steps p.tables e below (s₁.setTop (mkF m 53 #[.val (.ref q), .val (.ref ra), .val (.ref ib), .val (.int cd), .val (.int (1 : Int32)), .val (.int (1 : Int32)), .unset] [(.ref ra), (.ref q)])) _
        refine XS.iload X0.here hx rfl (hb hby d5_53) rfl ?_
        show Steps p.tables e below (s₁.setTop (mkF m 55 #[.val (.ref q), .val (.ref ra), .val (.ref ib), .val (.int cd), .val (.int (1 : Int32)), .val (.int (1 : Int32)), .unset] [(.int (1 : Int32)), (.ref ra), (.ref q)])) _
        refine X0.aaload hx (j := (1 : Int32)) (v := (.ref tb)) (heq_of e0 Ar6.1) (State.isArrayOf_alike hZ.alike Ar6.2.1) rfl Ar6.2.2 hin6 hat6 (g := (mkF m 55 #[.val (.ref q), .val (.ref ra), .val (.ref ib), .val (.int cd), .val (.int (1 : Int32)), .val (.int (1 : Int32)), .unset] [(.int (1 : Int32)), (.ref ra), (.ref q)])) rfl rfl (hb hby d5_55) _ ?_
        show Steps p.tables e below (s₁.setTop (mkF m 56 #[.val (.ref q), .val (.ref ra), .val (.ref ib), .val (.int cd), .val (.int (1 : Int32)), .val (.int (1 : Int32)), .unset] [(.ref tb), (.ref q)])) _
        refine st7.trans ?_
        show Steps p.tables e below (T7.setTop (mkF m 59 #[.val (.ref q), .val (.ref ra), .val (.ref ib), .val (.int cd), .val (.int (1 : Int32)), .val (.int (1 : Int32)), .unset] [])) _
        refine XS.aloadN X7.here hx rfl (hb hby d5_59) rfl rfl ?_
        show Steps p.tables e below (T7.setTop (mkF m 60 #[.val (.ref q), .val (.ref ra), .val (.ref ib), .val (.int cd), .val (.int (1 : Int32)), .val (.int (1 : Int32)), .unset] [(.ref ib)])) _
        refine XS.iload X7.here hx rfl (hb hby d5_60) rfl ?_
        show Steps p.tables e below (T7.setTop (mkF m 62 #[.val (.ref q), .val (.ref ra), .val (.ref ib), .val (.int cd), .val (.int (1 : Int32)), .val (.int (1 : Int32)), .unset] [(.int (1 : Int32)), (.ref ib)])) _
        refine XS.iconst X7.here hx rfl (hb hby d5_62) ?_
        show Steps p.tables e below (T7.setTop (mkF m 63 #[.val (.ref q), .val (.ref ra), .val (.ref ib), .val (.int cd), .val (.int (1 : Int32)), .val (.int (1 : Int32)), .unset] [(.int (1 : Int32)), (.int (1 : Int32)), (.ref ib)])) _
        refine st23 _ ?_
        show Steps p.tables e below (T23.setTop (mkF m 64 #[.val (.ref q), .val (.ref ra), .val (.ref ib), .val (.int cd), .val (.int (1 : Int32)), .val (.int (1 : Int32)), .unset] [])) _
        refine XS.aloadN X23.here hx rfl (hb hby d5_64) rfl rfl ?_
        show Steps p.tables e below (T23.setTop (mkF m 65 #[.val (.ref q), .val (.ref ra), .val (.ref ib), .val (.int cd), .val (.int (1 : Int32)), .val (.int (1 : Int32)), .unset] [(.ref ib)])) _
        refine XS.iconst X23.here hx rfl (hb hby d5_65) ?_
        show Steps p.tables e below (T23.setTop (mkF m 66 #[.val (.ref q), .val (.ref ra), .val (.ref ib), .val (.int cd), .val (.int (1 : Int32)), .val (.int (1 : Int32)), .unset] [(.int (0 : Int32)), (.ref ib)])) _
        refine X23.baloadBooleans hx (j := (0 : Int32)) (v := (.int (0 : Int32))) (heq_of e23 Ar37.1) (State.isArrayOf_alike hZ.alike Ar37.2.1) Ar37.2.2 hin37 hat37 (g := (mkF m 66 #[.val (.ref q), .val (.ref ra), .val (.ref ib), .val (.int cd), .val (.int (1 : Int32)), .val (.int (1 : Int32)), .unset] [(.int (0 : Int32)), (.ref ib)])) rfl rfl (hb hby d5_66) _ ?_
        show Steps p.tables e below (T23.setTop (mkF m 67 #[.val (.ref q), .val (.ref ra), .val (.ref ib), .val (.int cd), .val (.int (1 : Int32)), .val (.int (1 : Int32)), .unset] [(.int (0 : Int32))])) _
        refine XS.ifNo X23.here hx rfl (hb hby d5_67) rfl ((if0 _ _).trans (teq rfl).2) ?_
        show Steps p.tables e below (T23.setTop (mkF m 70 #[.val (.ref q), .val (.ref ra), .val (.ref ib), .val (.int cd), .val (.int (1 : Int32)), .val (.int (1 : Int32)), .unset] [])) _
        refine XS.aloadN X23.here hx rfl (hb hby d5_70) rfl rfl ?_
        show Steps p.tables e below (T23.setTop (mkF m 71 #[.val (.ref q), .val (.ref ra), .val (.ref ib), .val (.int cd), .val (.int (1 : Int32)), .val (.int (1 : Int32)), .unset] [(.ref ib)])) _
        refine XS.iconst X23.here hx rfl (hb hby d5_71) ?_
        show Steps p.tables e below (T23.setTop (mkF m 72 #[.val (.ref q), .val (.ref ra), .val (.ref ib), .val (.int cd), .val (.int (1 : Int32)), .val (.int (1 : Int32)), .unset] [(.int (1 : Int32)), (.ref ib)])) _
        refine X23.baloadBooleans hx (j := (1 : Int32)) (v := (.int (1 : Int32))) (heq_of e23 Ar38.1) (State.isArrayOf_alike hZ.alike Ar38.2.1) Ar38.2.2 hin38 hat38 (g := (mkF m 72 #[.val (.ref q), .val (.ref ra), .val (.ref ib), .val (.int cd), .val (.int (1 : Int32)), .val (.int (1 : Int32)), .unset] [(.int (1 : Int32)), (.ref ib)])) rfl rfl (hb hby d5_72) _ ?_
        show Steps p.tables e below (T23.setTop (mkF m 73 #[.val (.ref q), .val (.ref ra), .val (.ref ib), .val (.int cd), .val (.int (1 : Int32)), .val (.int (1 : Int32)), .unset] [(.int (1 : Int32))])) _
        refine XS.ifYes X23.here hx rfl (pc0 := 73) (pc' := 80) rfl (hb hby d5_73) rfl ((if0 _ _).trans (feq (by decide)).2) (by decide) (by decide) ?_
        show Steps p.tables e below (T23.setTop (mkF m 80 #[.val (.ref q), .val (.ref ra), .val (.ref ib), .val (.int cd), .val (.int (1 : Int32)), .val (.int (1 : Int32)), .unset] [])) _
        refine XS.iconst X23.here hx rfl (hb hby d5_80) ?_
        show Steps p.tables e below (T23.setTop (mkF m 81 #[.val (.ref q), .val (.ref ra), .val (.ref ib), .val (.int cd), .val (.int (1 : Int32)), .val (.int (1 : Int32)), .unset] [(.int (0 : Int32))])) _
        refine XS.istore X23.here hx rfl (hb hby d5_81) rfl (l' := #[.val (.ref q), .val (.ref ra), .val (.ref ib), .val (.int cd), .val (.int (1 : Int32)), .val (.int (1 : Int32)), .val (.int (0 : Int32))]) rfl ?_
        show Steps p.tables e below (T23.setTop (mkF m 83 #[.val (.ref q), .val (.ref ra), .val (.ref ib), .val (.int cd), .val (.int (1 : Int32)), .val (.int (1 : Int32)), .val (.int (0 : Int32))] [])) _
        refine XS.aloadN X23.here hx rfl (hb hby d5_83) rfl rfl ?_
        show Steps p.tables e below (T23.setTop (mkF m 84 #[.val (.ref q), .val (.ref ra), .val (.ref ib), .val (.int cd), .val (.int (1 : Int32)), .val (.int (1 : Int32)), .val (.int (0 : Int32))] [(.ref q)])) _
        refine st39.trans ?_
        show Steps p.tables e below (T39.setTop (mkF m 87 #[.val (.ref q), .val (.ref ra), .val (.ref ib), .val (.int cd), .val (.int (1 : Int32)), .val (.int (1 : Int32)), .val (.int (0 : Int32))] [(.int (0 : Int32))])) _
        refine XS.iload X39.here hx rfl (hb hby d5_87) rfl ?_
        show Steps p.tables e below (T39.setTop (mkF m 89 #[.val (.ref q), .val (.ref ra), .val (.ref ib), .val (.int cd), .val (.int (1 : Int32)), .val (.int (1 : Int32)), .val (.int (0 : Int32))] [(.int (0 : Int32)), (.int (0 : Int32))])) _
        refine XS.icmpNo X39.here hx rfl (hb hby d5_89) rfl (teq rfl).2 ?_
        show Steps p.tables e below (T39.setTop (mkF m 92 #[.val (.ref q), .val (.ref ra), .val (.ref ib), .val (.int cd), .val (.int (1 : Int32)), .val (.int (1 : Int32)), .val (.int (0 : Int32))] [])) _
        refine XS.iconst X39.here hx rfl (hb hby d5_92) ?_
        show Steps p.tables e below (T39.setTop (mkF m 93 #[.val (.ref q), .val (.ref ra), .val (.ref ib), .val (.int cd), .val (.int (1 : Int32)), .val (.int (1 : Int32)), .val (.int (0 : Int32))] [(.int (1 : Int32))])) _
        refine XS.goto X39.here hx rfl (pc0 := 93) (pc' := 97) rfl (hb hby d5_93) (by decide) (by decide) ?_
        show Steps p.tables e below (T39.setTop (mkF m 97 #[.val (.ref q), .val (.ref ra), .val (.ref ib), .val (.int cd), .val (.int (1 : Int32)), .val (.int (1 : Int32)), .val (.int (0 : Int32))] [(.int (1 : Int32))])) _
        exact retN X39 hx (t := .boolean) Bd.returns (by simp) (hb hby d5_97) hr
      · show Q5_3 Z q ra ib cd ta tb ka kb h0 n0 _ T39.heap _
        rw [e39]
        exact ⟨rfl, N39, K36, F25, F26, F27, F28, F24, F31, F32, F29, F30, F33, F34⟩
theorem d5_19 : decode method_3_code 19 = .ok (.aload_n 0, 1) := by decide +kernel
theorem d5_20 : decode method_3_code 20 = .ok (.aload_n 1, 1) := by decide +kernel
theorem d5_21 : decode method_3_code 21 = .ok (.iload 4, 2) := by decide +kernel
theorem d5_23 : decode method_3_code 23 = .ok (.aaload, 1) := by decide +kernel
theorem d5_24 : decode method_3_code 24 = .ok (.invokevirtual 25, 3) := by decide +kernel
theorem d5_27 : decode method_3_code 27 = .ok (.aload_n 2, 1) := by decide +kernel
theorem d5_28 : decode method_3_code 28 = .ok (.iload 4, 2) := by decide +kernel
theorem d5_30 : decode method_3_code 30 = .ok (.iconst 0, 1) := by decide +kernel
theorem d5_31 : decode method_3_code 31 = .ok (.bastore, 1) := by decide +kernel
theorem d5_32 : decode method_3_code 32 = .ok (.goto 32, 3) := by decide +kernel
theorem d5_76 : decode method_3_code 76 = .ok (.iconst 1, 1) := by decide +kernel
theorem d5_77 : decode method_3_code 77 = .ok (.goto 4, 3) := by decide +kernel
theorem ef_5_4 (m : MethodId) (x0 : Addr) (x1 : Addr) (x2 : Addr) (x3 : Int32) : entryFrame m #[(.ref x0), (.ref x1), (.ref x2), (.int x3)] 7 = mkF m 0 #[.val (.ref x0), .val (.ref x1), .val (.ref x2), .val (.int x3), .unset, .unset, .unset] [] := by first | (simp [entryFrame, mkF, argsToLocals, Value.category]; done) | rfl
theorem own_split_5_4_5 (cd : Int32) (hk : (cd &&& (1 : Int32)) = (0 : Int32)) (v3 : Int32) (hv3 : v3 = (cd &&& (1 : Int32))) : v3 = (0 : Int32) := by rw [hv3]; exact hk
def Q5_4 (Z : State) (q : Addr) (ra : Addr) (ib : Addr) (cd : Int32) (ta : Addr) (tb : Addr) (ka : ClassId) (kb : ClassId) (h0 : Heap) (n0 : Nat) (v : Option Value) (h : Heap) (L : List Loc) : Prop := v = some (.int (1 : Int32)) ∧ Fr n0 L ∧ Keep h0 h [q, ta, tb, ib] ∧ Exa Z h q "com/example/evenkeel/evenkeel/TaskQueue" ∧ Exa Z h ta "com/example/evenkeel/evenkeel/QueuedTasks" ∧ Exa Z h tb "com/example/evenkeel/evenkeel/QueuedTasks" ∧ Arv Z h ra ka (.object "com/example/evenkeel/evenkeel/QueuedTasks") (2 : Int32) [(.ref ta), (.ref tb)] .null ∧ Arv Z h ib kb .boolean (2 : Int32) [(.int (0 : Int32)), (.int (0 : Int32))] (.int (0 : Int32)) ∧ Fld Z h q "com/example/evenkeel/evenkeel/TaskQueue" "first" "Lcom/example/evenkeel/evenkeel/QueuedTasks;" .null ∧ Fld Z h q "com/example/evenkeel/evenkeel/TaskQueue" "last" "Lcom/example/evenkeel/evenkeel/QueuedTasks;" .null ∧ Fld Z h ta "com/example/evenkeel/evenkeel/QueuedTasks" "before" "Lcom/example/evenkeel/evenkeel/QueuedTasks;" .null ∧ Fld Z h ta "com/example/evenkeel/evenkeel/QueuedTasks" "after" "Lcom/example/evenkeel/evenkeel/QueuedTasks;" .null ∧ Fld Z h tb "com/example/evenkeel/evenkeel/QueuedTasks" "before" "Lcom/example/evenkeel/evenkeel/QueuedTasks;" .null ∧ Fld Z h tb "com/example/evenkeel/evenkeel/QueuedTasks" "after" "Lcom/example/evenkeel/evenkeel/QueuedTasks;" .null
set_option maxRecDepth 65536 in
set_option maxHeartbeats 40000000 in
theorem rm5_4 (l : Launch) (Z : State) (a0 : Array Value) (hw : ∀ d ∈ tables_1, d.before a0 Z = true) (ws : List Jvm.Cond) (q : Addr) (ra : Addr) (ib : Addr) (cd : Int32) (ta : Addr) (tb : Addr) (ka : ClassId) (kb : ClassId) (h0 : Heap) (n0 : Nat) (Z0 : n0 ≤ h0.size) (I0 : Exa Z h0 q "com/example/evenkeel/evenkeel/TaskQueue") (I1 : Exa Z h0 ta "com/example/evenkeel/evenkeel/QueuedTasks") (I2 : Exa Z h0 tb "com/example/evenkeel/evenkeel/QueuedTasks") (I3 : Arv Z h0 ra ka (.object "com/example/evenkeel/evenkeel/QueuedTasks") (2 : Int32) [(.ref ta), (.ref tb)] .null) (I4 : Arv Z h0 ib kb .boolean (2 : Int32) [(.int (1 : Int32)), (.int (0 : Int32))] (.int (0 : Int32))) (I5 : Fld Z h0 q "com/example/evenkeel/evenkeel/TaskQueue" "first" "Lcom/example/evenkeel/evenkeel/QueuedTasks;" (.ref ta)) (I6 : Fld Z h0 q "com/example/evenkeel/evenkeel/TaskQueue" "last" "Lcom/example/evenkeel/evenkeel/QueuedTasks;" (.ref ta)) (I7 : Fld Z h0 ta "com/example/evenkeel/evenkeel/QueuedTasks" "before" "Lcom/example/evenkeel/evenkeel/QueuedTasks;" .null) (I8 : Fld Z h0 ta "com/example/evenkeel/evenkeel/QueuedTasks" "after" "Lcom/example/evenkeel/evenkeel/QueuedTasks;" .null) (I9 : Fld Z h0 tb "com/example/evenkeel/evenkeel/QueuedTasks" "before" "Lcom/example/evenkeel/evenkeel/QueuedTasks;" .null) (I10 : Fld Z h0 tb "com/example/evenkeel/evenkeel/QueuedTasks" "after" "Lcom/example/evenkeel/evenkeel/QueuedTasks;" .null) (g_q : n0 ≤ q) (g_ta : n0 ≤ ta) (g_tb : n0 ≤ tb) (g_ib : n0 ≤ ib) (ne_q_ta : q ≠ ta) (ne_q_tb : q ≠ tb) (ne_ta_tb : ta ≠ tb) (ne_ra_q : ra ≠ q) (ne_ra_ta : ra ≠ ta) (ne_ra_tb : ra ≠ tb) (ne_ib_q : ib ≠ q) (ne_ib_ta : ib ≠ ta) (ne_ib_tb : ib ≠ tb) (ne_ra_ib : ra ≠ ib) (hk : (cd &&& (1 : Int32)) = (0 : Int32)) :
    MetFree l (⟨"com/example/evenkeel/evenkeel/TaskQueueIsEmptyPinLaw", "step", "(Lcom/example/evenkeel/evenkeel/TaskQueue;[Lcom/example/evenkeel/evenkeel/QueuedTasks;[ZI)Z"⟩ : MethodName) (head1 (Jvm.Cond.code (⟨"com/example/evenkeel/evenkeel/TaskQueueIsEmptyPinLaw", "step", "(Lcom/example/evenkeel/evenkeel/TaskQueue;[Lcom/example/evenkeel/evenkeel/QueuedTasks;[ZI)Z"⟩ : MethodName) method_3_code 7 (some .boolean) :: ws) ({ frames := 1, cells := 0, slots := 0, locals := 13 } : Room)) (fun a U => a = #[(.ref q), (.ref ra), (.ref ib), (.int cd)] ∧ Z.Warmed39 U.vm ∧ U.heap = h0) (fun _ _ _ _ _ => True) (fun _ U o U' => ∃ v L, o = .returned v ∧ Q5_4 Z q ra ib cd ta tb ka kb h0 n0 v U'.heap L ∧ FrameEnd U o U' L ({ frames := 1, cells := 0, slots := 0, locals := 13 } : Room).cells ({ frames := 1, cells := 0, slots := 0, locals := 13 } : Room).slots) := by
  refine MetFree.of_bodySF (plainFor_of_name pn_5) hisR ?_
  intro p e s m args below meth c s₁ Bd hml0 hP hK
  obtain ⟨rfl, hZ, hh⟩ := hP
  have hx := Bd.exec
  have hby := Bd.bytes
  have hml : c.maxLocals = 7 := hml0
  have hown : s.vm.findClass "com/example/evenkeel/evenkeel/TaskQueueIsEmptyPinLaw" = some m.cls := findClass_of_methodNamed Bd.named
  have hnm := (name_of_methodNamed Bd.named Bd.method).1
  have X0 : Stand p l e ({ frames := 1, cells := 0, slots := 0, locals := 13 } : Room) s m #[(.ref q), (.ref ra), (.ref ib), (.int cd)] below meth c s₁ [] 0 0 := Stand.of_body Bd
  have e0 : s₁.heap = h0 := by rw [← hh, Bd.state]; rfl
  have N0 := Fr.nil n0
  have K0 : Keep h0 h0 [q, ta, tb, ib] := Keep.refl h0 _
  have pre0 : ∀ tq, Steps p.tables e below (s₁.setTop (mkF m 0 #[.val (.ref q), .val (.ref ra), .val (.ref ib), .val (.int cd), .unset, .unset, .unset] [])) tq → Steps p.tables e below (s₁.setTop (entryFrame m #[(.ref q), (.ref ra), (.ref ib), (.int cd)] 7)) tq := fun tq kq => castTop (ef_5_4 m q ra ib cd) kq
  obtain ⟨v3, hv3⟩ : ∃ z_q : Int32, z_q = (cd &&& (1 : Int32)) := ⟨_, rfl⟩
  have pre1 : ∀ tq, Steps p.tables e below (s₁.setTop (mkF m 5 #[.val (.ref q), .val (.ref ra), .val (.ref ib), .val (.int cd), .val (.int v3), .unset, .unset] [])) tq → Steps p.tables e below (s₁.setTop (entryFrame m #[(.ref q), (.ref ra), (.ref ib), (.int cd)] 7)) tq := by
    intro tq kt
    refine pre0 _ ?_
    show Steps p.tables e below (s₁.setTop (mkF m 0 #[.val (.ref q), .val (.ref ra), .val (.ref ib), .val (.int cd), .unset, .unset, .unset] [])) _
    refine XS.iloadN X0.here hx rfl (hb hby d5_0) rfl ?_
    show Steps p.tables e below (s₁.setTop (mkF m 1 #[.val (.ref q), .val (.ref ra), .val (.ref ib), .val (.int cd), .unset, .unset, .unset] [(.int cd)])) _
    refine XS.iconst X0.here hx rfl (hb hby d5_1) ?_
    show Steps p.tables e below (s₁.setTop (mkF m 2 #[.val (.ref q), .val (.ref ra), .val (.ref ib), .val (.int cd), .unset, .unset, .unset] [(.int (1 : Int32)), (.int cd)])) _
    refine XS.iand X0.here hx rfl (hb hby d5_2) rfl ?_
    show Steps p.tables e below (s₁.setTop (mkF m 3 #[.val (.ref q), .val (.ref ra), .val (.ref ib), .val (.int cd), .unset, .unset, .unset] [(.int (cd &&& (1 : Int32)))])) _
    refine XS.istore X0.here hx rfl (hb hby d5_3) rfl (l' := #[.val (.ref q), .val (.ref ra), .val (.ref ib), .val (.int cd), .val (.int v3), .unset, .unset]) (by rw [hv3]; rfl) ?_
    show Steps p.tables e below (s₁.setTop (mkF m 5 #[.val (.ref q), .val (.ref ra), .val (.ref ib), .val (.int cd), .val (.int v3), .unset, .unset] [])) _
    exact kt
  rcases (own_split_5_4_5 cd hk v3 hv3) with hs2
  · subst hs2
    obtain ⟨v10, hv10⟩ : ∃ z_q : Int32, z_q = (((cd.toUInt32 >>> ((1 : Int32) &&& 31).toUInt32).toInt32) &&& (1 : Int32)) := ⟨_, rfl⟩
    obtain ⟨cl3, Ar3, q3, S3, M3, H3, G3⟩ := id I4
    have hin3 : ¬ ((0 : Int32) < 0 ∨ cl3.slots.size ≤ ((0 : Int32)).toNatClampNeg) := inb_of S3 ⟨by decide, by decide⟩
    have hat3 : cl3.slots[((0 : Int32)).toNatClampNeg]? = some (.int (1 : Int32)) := Has.at H3 hin3 rfl
    obtain ⟨cl4, Ar4, q4, S4, M4, H4, G4⟩ := id I3
    have hin4 : ¬ ((0 : Int32) < 0 ∨ cl4.slots.size ≤ ((0 : Int32)).toNatClampNeg) := inb_of S4 ⟨by decide, by decide⟩
    have hat4 : cl4.slots[((0 : Int32)).toNatClampNeg]? = some (.ref ta) := Has.at H4 hin4 rfl
    obtain ⟨cq5, kq5, q5a, q5b, q5c⟩ := isOf hZ e0 I0
    obtain ⟨_, _, ⟨T5, L5, k5, n5⟩, -, X5, ⟨Lc5, hQ5, l5, y5, z5⟩, st5⟩ := X0.virtualBack hx (y := (⟨"com/example/evenkeel/evenkeel/TaskQueue", "remove", "(Lcom/example/evenkeel/evenkeel/QueuedTasks;)V"⟩ : MethodName)) (z := (⟨"com/example/evenkeel/evenkeel/TaskQueue", "remove", "(Lcom/example/evenkeel/evenkeel/QueuedTasks;)V"⟩ : MethodName)) hown (mvT hZ (hw _ (List.mem_of_getElem? (i := 58) rfl))) (mvT hZ (hw _ (List.mem_of_getElem? (i := 59) rfl))) (notFace_of_selects (args := #[]) (mvT hZ (hw _ (List.mem_of_getElem? (i := 61) rfl)))) (mvT hZ (hw _ (List.mem_of_getElem? (i := 61) rfl))) (mvT hZ (hw _ (List.mem_of_getElem? (i := 60) rfl))) (by decide) (backOf (W := 0) (rm8 l Z a0 hw [] q ta h0 n0 Z0 I5 I6 I7 I8 I0 I1 g_q g_ta ne_q_ta) hZ (hw _ (List.mem_of_getElem? (i := 62) rfl)) (hw _ (List.mem_of_getElem? (i := 2) rfl)) (by decide) (by decide)) q5a q5c (g := (mkF m 24 #[.val (.ref q), .val (.ref ra), .val (.ref ib), .val (.int cd), .val (.int (0 : Int32)), .val (.int v10), .unset] [(.ref ta), (.ref q)])) rfl (by rw [hml]; rfl) (Steps.refl _) (argsL := [(.ref ta)]) (rest := []) (lenOf pd_0 rfl) rfl (by show 2 * 0 + _ ≤ _; exact Nat.le_of_eq rfl) (hb hby d5_24) (fun _ _ => ⟨rfl, e0, (by decide : 0 + 0 ≤ _), (by decide : 0 + 0 ≤ _)⟩)
    dsimp only [Pt.U, Pt.locs, Pt.cells, Pt.slots] at X5 l5 y5 z5 st5 hQ5
    subst l5 y5 z5
    obtain ⟨rfl, N5q, K5q, F6, F7, F8, F9, F10, F11⟩ := hQ5
    have N5 := Fr.app N0 N5q
    have F12 : Exa Z T5.heap q "com/example/evenkeel/evenkeel/TaskQueue" := I0.keep K5q
    have F13 : Exa Z T5.heap ta "com/example/evenkeel/evenkeel/QueuedTasks" := I1.keep K5q
    have F14 : Exa Z T5.heap tb "com/example/evenkeel/evenkeel/QueuedTasks" := I2.keep K5q
    have F15 : Arv Z T5.heap ra ka (.object "com/example/evenkeel/evenkeel/QueuedTasks") (2 : Int32) [(.ref ta), (.ref tb)] .null := I3.keep K5q (ninS ne_ra_q (ninS ne_ra_ta nin0))
    have F16 : Arv Z T5.heap ib kb .boolean (2 : Int32) [(.int (1 : Int32)), (.int (0 : Int32))] (.int (0 : Int32)) := I4.keep K5q (ninS ne_ib_q (ninS ne_ib_ta nin0))
    have F17 : Fld Z T5.heap tb "com/example/evenkeel/evenkeel/QueuedTasks" "before" "Lcom/example/evenkeel/evenkeel/QueuedTasks;" .null := I9.keep K5q (ninS (Ne.symm ne_q_tb) (ninS (Ne.symm ne_ta_tb) nin0))
    have F18 : Fld Z T5.heap tb "com/example/evenkeel/evenkeel/QueuedTasks" "after" "Lcom/example/evenkeel/evenkeel/QueuedTasks;" .null := I10.keep K5q (ninS (Ne.symm ne_q_tb) (ninS (Ne.symm ne_ta_tb) nin0))
    have Z19 : n0 ≤ T5.heap.size := Nat.le_trans Z0 K5q.1
    have K20 : Keep h0 T5.heap [q, ta, tb, ib] := K0.trans K5q (allS (Or.inl (List.mem_of_getElem? (i := 0) rfl)) (allS (Or.inl (List.mem_of_getElem? (i := 1) rfl)) all0))
    obtain ⟨cl21, Ar21, q21, S21, M21, H21, G21⟩ := id F16
    have hin21 : ¬ ((0 : Int32) < 0 ∨ cl21.slots.size ≤ ((0 : Int32)).toNatClampNeg) := inb_of S21 ⟨by decide, by decide⟩
    obtain ⟨T21, hX21, X21, e21, W21, st21⟩ := stZ X5 hx hZ rfl Ar21 (j := (0 : Int32)) hin21 (g := (mkF m 31 #[.val (.ref q), .val (.ref ra), .val (.ref ib), .val (.int cd), .val (.int (0 : Int32)), .val (.int v10), .unset] [(.int (0 : Int32)), (.int (0 : Int32)), (.ref ib)])) rfl rfl (hb hby d5_31)
    have F22 : Arv Z hX21 ib kb .boolean (2 : Int32) [(.int (0 : Int32)), (.int (0 : Int32))] (.int (0 : Int32)) := Arv.set Ar21 q21 S21 M21 H21 G21 (fits_nar_bool _) W21 0 rfl (Nat.le_of_ble_eq_true rfl)
    have N21 := Fr.snoc X21 N5 g_ib
    have F23 : Exa Z hX21 q "com/example/evenkeel/evenkeel/TaskQueue" := F10.wr W21
    have F24 : Exa Z hX21 ta "com/example/evenkeel/evenkeel/QueuedTasks" := F11.wr W21
    have F25 : Exa Z hX21 tb "com/example/evenkeel/evenkeel/QueuedTasks" := F14.wr W21
    have F26 : Arv Z hX21 ra ka (.object "com/example/evenkeel/evenkeel/QueuedTasks") (2 : Int32) [(.ref ta), (.ref tb)] .null := F15.other W21 ne_ra_ib
    have F27 : Fld Z hX21 tb "com/example/evenkeel/evenkeel/QueuedTasks" "before" "Lcom/example/evenkeel/evenkeel/QueuedTasks;" .null := F17.other W21 (Or.inl (Ne.symm ne_ib_tb))
    have F28 : Fld Z hX21 tb "com/example/evenkeel/evenkeel/QueuedTasks" "after" "Lcom/example/evenkeel/evenkeel/QueuedTasks;" .null := F18.other W21 (Or.inl (Ne.symm ne_ib_tb))
    have F29 : Fld Z hX21 q "com/example/evenkeel/evenkeel/TaskQueue" "first" "Lcom/example/evenkeel/evenkeel/QueuedTasks;" .null := F6.other W21 (Or.inl (Ne.symm ne_ib_q))
    have F30 : Fld Z hX21 q "com/example/evenkeel/evenkeel/TaskQueue" "last" "Lcom/example/evenkeel/evenkeel/QueuedTasks;" .null := F7.other W21 (Or.inl (Ne.symm ne_ib_q))
    have F31 : Fld Z hX21 ta "com/example/evenkeel/evenkeel/QueuedTasks" "before" "Lcom/example/evenkeel/evenkeel/QueuedTasks;" .null := F8.other W21 (Or.inl (Ne.symm ne_ib_ta))
    have F32 : Fld Z hX21 ta "com/example/evenkeel/evenkeel/QueuedTasks" "after" "Lcom/example/evenkeel/evenkeel/QueuedTasks;" .null := F9.other W21 (Or.inl (Ne.symm ne_ib_ta))
    have Z33 : n0 ≤ hX21.size := Nat.le_trans Z19 (Keep.of_wr W21).1
    have K34 : Keep h0 hX21 [q, ta, tb, ib] := K20.wr W21 (Or.inl (List.mem_of_getElem? (i := 3) rfl))
    obtain ⟨cl35, Ar35, q35, S35, M35, H35, G35⟩ := id F22
    have hin35 : ¬ ((0 : Int32) < 0 ∨ cl35.slots.size ≤ ((0 : Int32)).toNatClampNeg) := inb_of S35 ⟨by decide, by decide⟩
    have hat35 : cl35.slots[((0 : Int32)).toNatClampNeg]? = some (.int (0 : Int32)) := Has.at H35 hin35 rfl
    obtain ⟨cl36, Ar36, q36, S36, M36, H36, G36⟩ := id F22
    have hin36 : ¬ ((1 : Int32) < 0 ∨ cl36.slots.size ≤ ((1 : Int32)).toNatClampNeg) := inb_of S36 ⟨by decide, by decide⟩
    have hat36 : cl36.slots[((1 : Int32)).toNatClampNeg]? = some (.int (0 : Int32)) := Has.at H36 hin36 rfl
    obtain ⟨cq37, kq37, q37a, q37b, q37c⟩ := isOf hZ e21 F23
    obtain ⟨_, _, ⟨T37, L37, k37, n37⟩, -, X37, ⟨Lc37, hQ37, l37, y37, z37⟩, st37⟩ := X21.virtualBack hx (y := (⟨"com/example/evenkeel/evenkeel/TaskQueue", "isEmpty", "()Z"⟩ : MethodName)) (z := (⟨"com/example/evenkeel/evenkeel/TaskQueue", "isEmpty", "()Z"⟩ : MethodName)) hown (mvT hZ (hw _ (List.mem_of_getElem? (i := 31) rfl))) (mvT hZ (hw _ (List.mem_of_getElem? (i := 32) rfl))) (notFace_of_selects (args := #[]) (mvT hZ (hw _ (List.mem_of_getElem? (i := 34) rfl)))) (mvT hZ (hw _ (List.mem_of_getElem? (i := 34) rfl))) (mvT hZ (hw _ (List.mem_of_getElem? (i := 33) rfl))) (by decide) (backOf (W := 0) (rm4 l Z a0 hw [] q hX21 n0 Z33 F29) hZ (hw _ (List.mem_of_getElem? (i := 35) rfl)) (hw _ (List.mem_of_getElem? (i := 2) rfl)) (by decide) (by decide)) q37a q37c (g := (mkF m 84 #[.val (.ref q), .val (.ref ra), .val (.ref ib), .val (.int cd), .val (.int (0 : Int32)), .val (.int v10), .val (.int (1 : Int32))] [(.ref q)])) rfl (by rw [hml]; rfl) (Steps.refl _) (argsL := []) (rest := []) (lenOf pd_1 rfl) rfl (by show 2 * 0 + _ ≤ _; exact Nat.le_of_eq rfl) (hb hby d5_84) (fun _ _ => ⟨rfl, e21, (by decide : 0 + 0 ≤ _), (by decide : 0 + 0 ≤ _)⟩)
    dsimp only [Pt.U, Pt.locs, Pt.cells, Pt.slots] at X37 l37 y37 z37 st37 hQ37
    subst l37 y37 z37
    obtain ⟨rfl, N37q, e37⟩ := hQ37
    have N37 := Fr.app N21 N37q
    obtain ⟨fs, hr, hrun, hended, hW, hsame⟩ := X37.leave (v := some (Value.int (1 : Int32))) (fun h => by rw [Bd.returns] at h; cases h)
    refine ⟨_, _, pre1 _ ?_, hrun, hended, _, _, rfl, ?_, ⟨_, rfl⟩, hW, hsame.mono (by decide) (by decide)⟩
    · skip
      show Steps p.tables e below (s₁.setTop (mkF m 5 #[.val (.ref q), .val (.ref ra), .val (.ref ib), .val (.int cd), .val (.int (0 : Int32)), .unset, .unset] [])) _
      refine XS.iloadN X0.here hx rfl (hb hby d5_5) rfl ?_
      show Steps p.tables e below (s₁.setTop (mkF m 6 #[.val (.ref q), .val (.ref ra), .val (.ref ib), .val (.int cd), .val (.int (0 : Int32)), .unset, .unset] [(.int cd)])) _
      refine XS.iconst X0.here hx rfl (hb hby d5_6) ?_
      show Steps p.tables e below (s₁.setTop (mkF m 7 #[.val (.ref q), .val (.ref ra), .val (.ref ib), .val (.int cd), .val (.int (0 : Int32)), .unset, .unset] [(.int (1 : Int32)), (.int cd)])) _
      refine XS.iushr X0.here hx rfl (hb hby d5_7) rfl ?_
      show Steps p.tables e below (s₁.setTop (mkF m 8 #[.val (.ref q), .val (.ref ra), .val (.ref ib), .val (.int cd), .val (.int (0 : Int32)), .unset, .unset] [(.int ((cd.toUInt32 >>> ((1 : Int32) &&& 31).toUInt32).toInt32))])) _
      refine XS.iconst X0.here hx rfl (hb hby d5_8) ?_
      show Steps p.tables e below (s₁.setTop (mkF m 9 #[.val (.ref q), .val (.ref ra), .val (.ref ib), .val (.int cd), .val (.int (0 : Int32)), .unset, .unset] [(.int (1 : Int32)), (.int ((cd.toUInt32 >>> ((1 : Int32) &&& 31).toUInt32).toInt32))])) _
      refine XS.iand X0.here hx rfl (hb hby d5_9) rfl ?_
      show Steps p.tables e below (s₁.setTop (mkF m 10 #[.val (.ref q), .val (.ref ra), .val (.ref ib), .val (.int cd), .val (.int (0 : Int32)), .unset, .unset] [(.int (((cd.toUInt32 >>> ((1 : Int32) &&& 31).toUInt32).toInt32) &&& (1 : Int32)))])) _
      refine XS.istore X0.here hx rfl (hb hby d5_10) rfl (l' := #[.val (.ref q), .val (.ref ra), .val (.ref ib), .val (.int cd), .val (.int (0 : Int32)), .val (.int v10), .unset]) (by rw [hv10]; rfl) ?_
      show Steps p.tables e below (s₁.setTop (mkF m 12 #[.val (.ref q), .val (.ref ra), .val (.ref ib), .val (.int cd), .val (.int (0 : Int32)), .val (.int v10), .unset] [])) _
      refine XS.aloadN X0.here hx rfl (hb hby d5_12) rfl rfl ?_
      show Steps p.tables e below (s₁.setTop (mkF m 13 #[.val (.ref q), .val (.ref ra), .val (.ref ib), .val (.int cd), .val (.int (0 : Int32)), .val (.int v10), .unset] [(.ref ib)])) _
      refine XS.iload X0.here hx rfl (hb hby d5_13) rfl ?_
      show Steps p.tables e below (s₁.setTop (mkF m 15 #[.val (.ref q), .val (.ref ra), .val (.ref ib), .val (.int cd), .val (.int (0 : Int32)), .val (.int v10), .unset] [(.int (0 : Int32)), (.ref ib)])) _
      refine X0.baloadBooleans hx (j := (0 : Int32)) (v := (.int (1 : Int32))) (heq_of e0 Ar3.1) (State.isArrayOf_alike hZ.alike Ar3.2.1) Ar3.2.2 hin3 hat3 (g := (mkF m 15 #[.val (.ref q), .val (.ref ra), .val (.ref ib), .val (.int cd), .val (.int (0 : Int32)), .val (.int v10), .unset] [(.int (0 : Int32)), (.ref ib)])) rfl rfl (hb hby d5_15) _ ?_
      show Steps p.tables e below (s₁.setTop (mkF m 16 #[.val (.ref q), .val (.ref ra), .val (.ref ib), .val (.int cd), .val (.int (0 : Int32)), .val (.int v10), .unset] [(.int (1 : Int32))])) _
      refine XS.ifNo X0.here hx rfl (hb hby d5_16) rfl ((if0 _ _).trans (feq (by decide)).1) ?_
      show Steps p.tables e below (s₁.setTop (mkF m 19 #[.val (.ref q), .val (.ref ra), .val (.ref ib), .val (.int cd), .val (.int (0 : Int32)), .val (.int v10), .unset] [])) _
      refine XS.aloadN X0.here hx rfl (hb hby d5_19) rfl rfl ?_
      show Steps p.tables e below (s₁.setTop (mkF m 20 #[.val (.ref q), .val (.ref ra), .val (.ref ib), .val (.int cd), .val (.int (0 : Int32)), .val (.int v10), .unset] [(.ref q)])) _
      refine XS.aloadN X0.here hx rfl (hb hby d5_20) rfl rfl ?_
      show Steps p.tables e below (s₁.setTop (mkF m 21 #[.val (.ref q), .val (.ref ra), .val (.ref ib), .val (.int cd), .val (.int (0 : Int32)), .val (.int v10), .unset] [(.ref ra), (.ref q)])) _
      refine XS.iload X0.here hx rfl (hb hby d5_21) rfl ?_
      show Steps p.tables e below (s₁.setTop (mkF m 23 #[.val (.ref q), .val (.ref ra), .val (.ref ib), .val (.int cd), .val (.int (0 : Int32)), .val (.int v10), .unset] [(.int (0 : Int32)), (.ref ra), (.ref q)])) _
      refine X0.aaload hx (j := (0 : Int32)) (v := (.ref ta)) (heq_of e0 Ar4.1) (State.isArrayOf_alike hZ.alike Ar4.2.1) rfl Ar4.2.2 hin4 hat4 (g := (mkF m 23 #[.val (.ref q), .val (.ref ra), .val (.ref ib), .val (.int cd), .val (.int (0 : Int32)), .val (.int v10), .unset] [(.int (0 : Int32)), (.ref ra), (.ref q)])) rfl rfl (hb hby d5_23) _ ?_
      show Steps p.tables e below (s₁.setTop (mkF m 24 #[.val (.ref q), .val (.ref ra), .val (.ref ib), .val (.int cd), .val (.int (0 : Int32)), .val (.int v10), .unset] [(.ref ta), (.ref q)])) _
      refine st5.trans ?_
      show Steps p.tables e below (T5.setTop (mkF m 27 #[.val (.ref q), .val (.ref ra), .val (.ref ib), .val (.int cd), .val (.int (0 : Int32)), .val (.int v10), .unset] [])) _
      refine XS.aloadN X5.here hx rfl (hb hby d5_27) rfl rfl ?_
      show Steps p.tables e below (T5.setTop (mkF m 28 #[.val (.ref q), .val (.ref ra), .val (.ref ib), .val (.int cd), .val (.int (0 : Int32)), .val (.int v10), .unset] [(.ref ib)])) _
      refine XS.iload X5.here hx rfl (hb hby d5_28) rfl ?_
      show Steps p.tables e below (T5.setTop (mkF m 30 #[.val (.ref q), .val (.ref ra), .val (.ref ib), .val (.int cd), .val (.int (0 : Int32)), .val (.int v10), .unset] [(.int (0 : Int32)), (.ref ib)])) _
      refine XS.iconst X5.here hx rfl (hb hby d5_30) ?_
      show Steps p.tables e below (T5.setTop (mkF m 31 #[.val (.ref q), .val (.ref ra), .val (.ref ib), .val (.int cd), .val (.int (0 : Int32)), .val (.int v10), .unset] [(.int (0 : Int32)), (.int (0 : Int32)), (.ref ib)])) _
      refine st21 _ ?_
      show Steps p.tables e below (T21.setTop (mkF m 32 #[.val (.ref q), .val (.ref ra), .val (.ref ib), .val (.int cd), .val (.int (0 : Int32)), .val (.int v10), .unset] [])) _
      refine XS.goto X21.here hx rfl (pc0 := 32) (pc' := 64) rfl (hb hby d5_32) (by decide) (by decide) ?_
      show Steps p.tables e below (T21.setTop (mkF m 64 #[.val (.ref q), .val (.ref ra), .val (.ref ib), .val (.int cd), .val (.int (0 : Int32)), .val (.int v10), .unset] [])) _
      refine XS.aloadN X21.here hx rfl (hb hby d5_64) rfl rfl ?_
      show Steps p.tables e below (T21.setTop (mkF m 65 #[.val (.ref q), .val (.ref ra), .val (.ref ib), .val (.int cd), .val (.int (0 : Int32)), .val (.int v10), .unset] [(.ref ib)])) _
      refine XS.iconst X21.here hx rfl (hb hby d5_65) ?_
      show Steps p.tables e below (T21.setTop (mkF m 66 #[.val (.ref q), .val (.ref ra), .val (.ref ib), .val (.int cd), .val (.int (0 : Int32)), .val (.int v10), .unset] [(.int (0 : Int32)), (.ref ib)])) _
      refine X21.baloadBooleans hx (j := (0 : Int32)) (v := (.int (0 : Int32))) (heq_of e21 Ar35.1) (State.isArrayOf_alike hZ.alike Ar35.2.1) Ar35.2.2 hin35 hat35 (g := (mkF m 66 #[.val (.ref q), .val (.ref ra), .val (.ref ib), .val (.int cd), .val (.int (0 : Int32)), .val (.int v10), .unset] [(.int (0 : Int32)), (.ref ib)])) rfl rfl (hb hby d5_66) _ ?_
      show Steps p.tables e below (T21.setTop (mkF m 67 #[.val (.ref q), .val (.ref ra), .val (.ref ib), .val (.int cd), .val (.int (0 : Int32)), .val (.int v10), .unset] [(.int (0 : Int32))])) _
      refine XS.ifNo X21.here hx rfl (hb hby d5_67) rfl ((if0 _ _).trans (teq rfl).2) ?_
      show Steps p.tables e below (T21.setTop (mkF m 70 #[.val (.ref q), .val (.ref ra), .val (.ref ib), .val (.int cd), .val (.int (0 : Int32)), .val (.int v10), .unset] [])) _
      refine XS.aloadN X21.here hx rfl (hb hby d5_70) rfl rfl ?_
      show Steps p.tables e below (T21.setTop (mkF m 71 #[.val (.ref q), .val (.ref ra), .val (.ref ib), .val (.int cd), .val (.int (0 : Int32)), .val (.int v10), .unset] [(.ref ib)])) _
      refine XS.iconst X21.here hx rfl (hb hby d5_71) ?_
      show Steps p.tables e below (T21.setTop (mkF m 72 #[.val (.ref q), .val (.ref ra), .val (.ref ib), .val (.int cd), .val (.int (0 : Int32)), .val (.int v10), .unset] [(.int (1 : Int32)), (.ref ib)])) _
      refine X21.baloadBooleans hx (j := (1 : Int32)) (v := (.int (0 : Int32))) (heq_of e21 Ar36.1) (State.isArrayOf_alike hZ.alike Ar36.2.1) Ar36.2.2 hin36 hat36 (g := (mkF m 72 #[.val (.ref q), .val (.ref ra), .val (.ref ib), .val (.int cd), .val (.int (0 : Int32)), .val (.int v10), .unset] [(.int (1 : Int32)), (.ref ib)])) rfl rfl (hb hby d5_72) _ ?_
      show Steps p.tables e below (T21.setTop (mkF m 73 #[.val (.ref q), .val (.ref ra), .val (.ref ib), .val (.int cd), .val (.int (0 : Int32)), .val (.int v10), .unset] [(.int (0 : Int32))])) _
      refine XS.ifNo X21.here hx rfl (hb hby d5_73) rfl ((if0 _ _).trans (teq rfl).2) ?_
      show Steps p.tables e below (T21.setTop (mkF m 76 #[.val (.ref q), .val (.ref ra), .val (.ref ib), .val (.int cd), .val (.int (0 : Int32)), .val (.int v10), .unset] [])) _
      refine XS.iconst X21.here hx rfl (hb hby d5_76) ?_
      show Steps p.tables e below (T21.setTop (mkF m 77 #[.val (.ref q), .val (.ref ra), .val (.ref ib), .val (.int cd), .val (.int (0 : Int32)), .val (.int v10), .unset] [(.int (1 : Int32))])) _
      refine XS.goto X21.here hx rfl (pc0 := 77) (pc' := 81) rfl (hb hby d5_77) (by decide) (by decide) ?_
      show Steps p.tables e below (T21.setTop (mkF m 81 #[.val (.ref q), .val (.ref ra), .val (.ref ib), .val (.int cd), .val (.int (0 : Int32)), .val (.int v10), .unset] [(.int (1 : Int32))])) _
      refine XS.istore X21.here hx rfl (hb hby d5_81) rfl (l' := #[.val (.ref q), .val (.ref ra), .val (.ref ib), .val (.int cd), .val (.int (0 : Int32)), .val (.int v10), .val (.int (1 : Int32))]) rfl ?_
      show Steps p.tables e below (T21.setTop (mkF m 83 #[.val (.ref q), .val (.ref ra), .val (.ref ib), .val (.int cd), .val (.int (0 : Int32)), .val (.int v10), .val (.int (1 : Int32))] [])) _
      refine XS.aloadN X21.here hx rfl (hb hby d5_83) rfl rfl ?_
      show Steps p.tables e below (T21.setTop (mkF m 84 #[.val (.ref q), .val (.ref ra), .val (.ref ib), .val (.int cd), .val (.int (0 : Int32)), .val (.int v10), .val (.int (1 : Int32))] [(.ref q)])) _
      refine st37.trans ?_
      show Steps p.tables e below (T37.setTop (mkF m 87 #[.val (.ref q), .val (.ref ra), .val (.ref ib), .val (.int cd), .val (.int (0 : Int32)), .val (.int v10), .val (.int (1 : Int32))] [(.int (1 : Int32))])) _
      refine XS.iload X37.here hx rfl (hb hby d5_87) rfl ?_
      show Steps p.tables e below (T37.setTop (mkF m 89 #[.val (.ref q), .val (.ref ra), .val (.ref ib), .val (.int cd), .val (.int (0 : Int32)), .val (.int v10), .val (.int (1 : Int32))] [(.int (1 : Int32)), (.int (1 : Int32))])) _
      refine XS.icmpNo X37.here hx rfl (hb hby d5_89) rfl (teq rfl).2 ?_
      show Steps p.tables e below (T37.setTop (mkF m 92 #[.val (.ref q), .val (.ref ra), .val (.ref ib), .val (.int cd), .val (.int (0 : Int32)), .val (.int v10), .val (.int (1 : Int32))] [])) _
      refine XS.iconst X37.here hx rfl (hb hby d5_92) ?_
      show Steps p.tables e below (T37.setTop (mkF m 93 #[.val (.ref q), .val (.ref ra), .val (.ref ib), .val (.int cd), .val (.int (0 : Int32)), .val (.int v10), .val (.int (1 : Int32))] [(.int (1 : Int32))])) _
      refine XS.goto X37.here hx rfl (pc0 := 93) (pc' := 97) rfl (hb hby d5_93) (by decide) (by decide) ?_
      show Steps p.tables e below (T37.setTop (mkF m 97 #[.val (.ref q), .val (.ref ra), .val (.ref ib), .val (.int cd), .val (.int (0 : Int32)), .val (.int v10), .val (.int (1 : Int32))] [(.int (1 : Int32))])) _
      exact retN X37 hx (t := .boolean) Bd.returns (by simp) (hb hby d5_97) hr
    · show Q5_4 Z q ra ib cd ta tb ka kb h0 n0 _ T37.heap _
      rw [e37]
      exact ⟨rfl, N37, K34, F23, F24, F25, F26, F22, F29, F30, F31, F32, F27, F28⟩
theorem ef_5_5 (m : MethodId) (x0 : Addr) (x1 : Addr) (x2 : Addr) (x3 : Int32) : entryFrame m #[(.ref x0), (.ref x1), (.ref x2), (.int x3)] 7 = mkF m 0 #[.val (.ref x0), .val (.ref x1), .val (.ref x2), .val (.int x3), .unset, .unset, .unset] [] := by first | (simp [entryFrame, mkF, argsToLocals, Value.category]; done) | rfl
theorem own_split_5_5_5 (cd : Int32) (hk : (cd &&& (1 : Int32)) = (1 : Int32)) (hd : ((cd.toUInt32 >>> ((1 : Int32) &&& 31).toUInt32).toInt32 &&& (1 : Int32)) = (0 : Int32)) (v3 : Int32) (hv3 : v3 = (cd &&& (1 : Int32))) : v3 = (1 : Int32) := by rw [hv3]; exact hk
theorem own_split_5_5_12_s1 (cd : Int32) (hk : (cd &&& (1 : Int32)) = (1 : Int32)) (hd : ((cd.toUInt32 >>> ((1 : Int32) &&& 31).toUInt32).toInt32 &&& (1 : Int32)) = (0 : Int32)) (hv3 : (1 : Int32) = (cd &&& (1 : Int32))) (v10 : Int32) (hv10 : v10 = (((cd.toUInt32 >>> ((1 : Int32) &&& 31).toUInt32).toInt32) &&& (1 : Int32))) : v10 = (0 : Int32) := by rw [hv10]; exact hd
def Q5_5 (Z : State) (q : Addr) (ra : Addr) (ib : Addr) (cd : Int32) (ta : Addr) (tb : Addr) (ka : ClassId) (kb : ClassId) (h0 : Heap) (n0 : Nat) (v : Option Value) (h : Heap) (L : List Loc) : Prop := v = some (.int (1 : Int32)) ∧ Fr n0 L ∧ Keep h0 h [q, ta, tb, ib] ∧ Exa Z h q "com/example/evenkeel/evenkeel/TaskQueue" ∧ Exa Z h ta "com/example/evenkeel/evenkeel/QueuedTasks" ∧ Exa Z h tb "com/example/evenkeel/evenkeel/QueuedTasks" ∧ Arv Z h ra ka (.object "com/example/evenkeel/evenkeel/QueuedTasks") (2 : Int32) [(.ref ta), (.ref tb)] .null ∧ Arv Z h ib kb .boolean (2 : Int32) [(.int (1 : Int32)), (.int (1 : Int32))] (.int (0 : Int32)) ∧ Fld Z h q "com/example/evenkeel/evenkeel/TaskQueue" "first" "Lcom/example/evenkeel/evenkeel/QueuedTasks;" (.ref tb) ∧ Fld Z h q "com/example/evenkeel/evenkeel/TaskQueue" "last" "Lcom/example/evenkeel/evenkeel/QueuedTasks;" (.ref ta) ∧ Fld Z h ta "com/example/evenkeel/evenkeel/QueuedTasks" "before" "Lcom/example/evenkeel/evenkeel/QueuedTasks;" (.ref tb) ∧ Fld Z h ta "com/example/evenkeel/evenkeel/QueuedTasks" "after" "Lcom/example/evenkeel/evenkeel/QueuedTasks;" .null ∧ Fld Z h tb "com/example/evenkeel/evenkeel/QueuedTasks" "before" "Lcom/example/evenkeel/evenkeel/QueuedTasks;" .null ∧ Fld Z h tb "com/example/evenkeel/evenkeel/QueuedTasks" "after" "Lcom/example/evenkeel/evenkeel/QueuedTasks;" (.ref ta)
set_option maxRecDepth 65536 in
set_option maxHeartbeats 40000000 in
theorem rm5_5 (l : Launch) (Z : State) (a0 : Array Value) (hw : ∀ d ∈ tables_1, d.before a0 Z = true) (ws : List Jvm.Cond) (q : Addr) (ra : Addr) (ib : Addr) (cd : Int32) (ta : Addr) (tb : Addr) (ka : ClassId) (kb : ClassId) (h0 : Heap) (n0 : Nat) (Z0 : n0 ≤ h0.size) (I0 : Exa Z h0 q "com/example/evenkeel/evenkeel/TaskQueue") (I1 : Exa Z h0 ta "com/example/evenkeel/evenkeel/QueuedTasks") (I2 : Exa Z h0 tb "com/example/evenkeel/evenkeel/QueuedTasks") (I3 : Arv Z h0 ra ka (.object "com/example/evenkeel/evenkeel/QueuedTasks") (2 : Int32) [(.ref ta), (.ref tb)] .null) (I4 : Arv Z h0 ib kb .boolean (2 : Int32) [(.int (1 : Int32)), (.int (0 : Int32))] (.int (0 : Int32))) (I5 : Fld Z h0 q "com/example/evenkeel/evenkeel/TaskQueue" "first" "Lcom/example/evenkeel/evenkeel/QueuedTasks;" (.ref ta)) (I6 : Fld Z h0 q "com/example/evenkeel/evenkeel/TaskQueue" "last" "Lcom/example/evenkeel/evenkeel/QueuedTasks;" (.ref ta)) (I7 : Fld Z h0 ta "com/example/evenkeel/evenkeel/QueuedTasks" "before" "Lcom/example/evenkeel/evenkeel/QueuedTasks;" .null) (I8 : Fld Z h0 ta "com/example/evenkeel/evenkeel/QueuedTasks" "after" "Lcom/example/evenkeel/evenkeel/QueuedTasks;" .null) (I9 : Fld Z h0 tb "com/example/evenkeel/evenkeel/QueuedTasks" "before" "Lcom/example/evenkeel/evenkeel/QueuedTasks;" .null) (I10 : Fld Z h0 tb "com/example/evenkeel/evenkeel/QueuedTasks" "after" "Lcom/example/evenkeel/evenkeel/QueuedTasks;" .null) (g_q : n0 ≤ q) (g_ta : n0 ≤ ta) (g_tb : n0 ≤ tb) (g_ib : n0 ≤ ib) (ne_q_ta : q ≠ ta) (ne_q_tb : q ≠ tb) (ne_ta_tb : ta ≠ tb) (ne_ra_q : ra ≠ q) (ne_ra_ta : ra ≠ ta) (ne_ra_tb : ra ≠ tb) (ne_ib_q : ib ≠ q) (ne_ib_ta : ib ≠ ta) (ne_ib_tb : ib ≠ tb) (ne_ra_ib : ra ≠ ib) (hk : (cd &&& (1 : Int32)) = (1 : Int32)) (hd : ((cd.toUInt32 >>> ((1 : Int32) &&& 31).toUInt32).toInt32 &&& (1 : Int32)) = (0 : Int32)) :
    MetFree l (⟨"com/example/evenkeel/evenkeel/TaskQueueIsEmptyPinLaw", "step", "(Lcom/example/evenkeel/evenkeel/TaskQueue;[Lcom/example/evenkeel/evenkeel/QueuedTasks;[ZI)Z"⟩ : MethodName) (head1 (Jvm.Cond.code (⟨"com/example/evenkeel/evenkeel/TaskQueueIsEmptyPinLaw", "step", "(Lcom/example/evenkeel/evenkeel/TaskQueue;[Lcom/example/evenkeel/evenkeel/QueuedTasks;[ZI)Z"⟩ : MethodName) method_3_code 7 (some .boolean) :: ws) ({ frames := 1, cells := 0, slots := 0, locals := 13 } : Room)) (fun a U => a = #[(.ref q), (.ref ra), (.ref ib), (.int cd)] ∧ Z.Warmed39 U.vm ∧ U.heap = h0) (fun _ _ _ _ _ => True) (fun _ U o U' => ∃ v L, o = .returned v ∧ Q5_5 Z q ra ib cd ta tb ka kb h0 n0 v U'.heap L ∧ FrameEnd U o U' L ({ frames := 1, cells := 0, slots := 0, locals := 13 } : Room).cells ({ frames := 1, cells := 0, slots := 0, locals := 13 } : Room).slots) := by
  refine MetFree.of_bodySF (plainFor_of_name pn_5) hisR ?_
  intro p e s m args below meth c s₁ Bd hml0 hP hK
  obtain ⟨rfl, hZ, hh⟩ := hP
  have hx := Bd.exec
  have hby := Bd.bytes
  have hml : c.maxLocals = 7 := hml0
  have hown : s.vm.findClass "com/example/evenkeel/evenkeel/TaskQueueIsEmptyPinLaw" = some m.cls := findClass_of_methodNamed Bd.named
  have hnm := (name_of_methodNamed Bd.named Bd.method).1
  have X0 : Stand p l e ({ frames := 1, cells := 0, slots := 0, locals := 13 } : Room) s m #[(.ref q), (.ref ra), (.ref ib), (.int cd)] below meth c s₁ [] 0 0 := Stand.of_body Bd
  have e0 : s₁.heap = h0 := by rw [← hh, Bd.state]; rfl
  have N0 := Fr.nil n0
  have K0 : Keep h0 h0 [q, ta, tb, ib] := Keep.refl h0 _
  have pre0 : ∀ tq, Steps p.tables e below (s₁.setTop (mkF m 0 #[.val (.ref q), .val (.ref ra), .val (.ref ib), .val (.int cd), .unset, .unset, .unset] [])) tq → Steps p.tables e below (s₁.setTop (entryFrame m #[(.ref q), (.ref ra), (.ref ib), (.int cd)] 7)) tq := fun tq kq => castTop (ef_5_5 m q ra ib cd) kq
  obtain ⟨v3, hv3⟩ : ∃ z_q : Int32, z_q = (cd &&& (1 : Int32)) := ⟨_, rfl⟩
  have pre1 : ∀ tq, Steps p.tables e below (s₁.setTop (mkF m 5 #[.val (.ref q), .val (.ref ra), .val (.ref ib), .val (.int cd), .val (.int v3), .unset, .unset] [])) tq → Steps p.tables e below (s₁.setTop (entryFrame m #[(.ref q), (.ref ra), (.ref ib), (.int cd)] 7)) tq := by
    intro tq kt
    refine pre0 _ ?_
    show Steps p.tables e below (s₁.setTop (mkF m 0 #[.val (.ref q), .val (.ref ra), .val (.ref ib), .val (.int cd), .unset, .unset, .unset] [])) _
    refine XS.iloadN X0.here hx rfl (hb hby d5_0) rfl ?_
    show Steps p.tables e below (s₁.setTop (mkF m 1 #[.val (.ref q), .val (.ref ra), .val (.ref ib), .val (.int cd), .unset, .unset, .unset] [(.int cd)])) _
    refine XS.iconst X0.here hx rfl (hb hby d5_1) ?_
    show Steps p.tables e below (s₁.setTop (mkF m 2 #[.val (.ref q), .val (.ref ra), .val (.ref ib), .val (.int cd), .unset, .unset, .unset] [(.int (1 : Int32)), (.int cd)])) _
    refine XS.iand X0.here hx rfl (hb hby d5_2) rfl ?_
    show Steps p.tables e below (s₁.setTop (mkF m 3 #[.val (.ref q), .val (.ref ra), .val (.ref ib), .val (.int cd), .unset, .unset, .unset] [(.int (cd &&& (1 : Int32)))])) _
    refine XS.istore X0.here hx rfl (hb hby d5_3) rfl (l' := #[.val (.ref q), .val (.ref ra), .val (.ref ib), .val (.int cd), .val (.int v3), .unset, .unset]) (by rw [hv3]; rfl) ?_
    show Steps p.tables e below (s₁.setTop (mkF m 5 #[.val (.ref q), .val (.ref ra), .val (.ref ib), .val (.int cd), .val (.int v3), .unset, .unset] [])) _
    exact kt
  rcases (own_split_5_5_5 cd hk hd v3 hv3) with hs2
  · subst hs2
    obtain ⟨v10, hv10⟩ : ∃ z_q : Int32, z_q = (((cd.toUInt32 >>> ((1 : Int32) &&& 31).toUInt32).toInt32) &&& (1 : Int32)) := ⟨_, rfl⟩
    have pre3 : ∀ tq, Steps p.tables e below (s₁.setTop (mkF m 12 #[.val (.ref q), .val (.ref ra), .val (.ref ib), .val (.int cd), .val (.int (1 : Int32)), .val (.int v10), .unset] [])) tq → Steps p.tables e below (s₁.setTop (entryFrame m #[(.ref q), (.ref ra), (.ref ib), (.int cd)] 7)) tq := by
      intro tq kt
      refine pre1 _ ?_
      show Steps p.tables e below (s₁.setTop (mkF m 5 #[.val (.ref q), .val (.ref ra), .val (.ref ib), .val (.int cd), .val (.int (1 : Int32)), .unset, .unset] [])) _
      refine XS.iloadN X0.here hx rfl (hb hby d5_5) rfl ?_
      show Steps p.tables e below (s₁.setTop (mkF m 6 #[.val (.ref q), .val (.ref ra), .val (.ref ib), .val (.int cd), .val (.int (1 : Int32)), .unset, .unset] [(.int cd)])) _
      refine XS.iconst X0.here hx rfl (hb hby d5_6) ?_
      show Steps p.tables e below (s₁.setTop (mkF m 7 #[.val (.ref q), .val (.ref ra), .val (.ref ib), .val (.int cd), .val (.int (1 : Int32)), .unset, .unset] [(.int (1 : Int32)), (.int cd)])) _
      refine XS.iushr X0.here hx rfl (hb hby d5_7) rfl ?_
      show Steps p.tables e below (s₁.setTop (mkF m 8 #[.val (.ref q), .val (.ref ra), .val (.ref ib), .val (.int cd), .val (.int (1 : Int32)), .unset, .unset] [(.int ((cd.toUInt32 >>> ((1 : Int32) &&& 31).toUInt32).toInt32))])) _
      refine XS.iconst X0.here hx rfl (hb hby d5_8) ?_
      show Steps p.tables e below (s₁.setTop (mkF m 9 #[.val (.ref q), .val (.ref ra), .val (.ref ib), .val (.int cd), .val (.int (1 : Int32)), .unset, .unset] [(.int (1 : Int32)), (.int ((cd.toUInt32 >>> ((1 : Int32) &&& 31).toUInt32).toInt32))])) _
      refine XS.iand X0.here hx rfl (hb hby d5_9) rfl ?_
      show Steps p.tables e below (s₁.setTop (mkF m 10 #[.val (.ref q), .val (.ref ra), .val (.ref ib), .val (.int cd), .val (.int (1 : Int32)), .unset, .unset] [(.int (((cd.toUInt32 >>> ((1 : Int32) &&& 31).toUInt32).toInt32) &&& (1 : Int32)))])) _
      refine XS.istore X0.here hx rfl (hb hby d5_10) rfl (l' := #[.val (.ref q), .val (.ref ra), .val (.ref ib), .val (.int cd), .val (.int (1 : Int32)), .val (.int v10), .unset]) (by rw [hv10]; rfl) ?_
      show Steps p.tables e below (s₁.setTop (mkF m 12 #[.val (.ref q), .val (.ref ra), .val (.ref ib), .val (.int cd), .val (.int (1 : Int32)), .val (.int v10), .unset] [])) _
      exact kt
    rcases (own_split_5_5_12_s1 cd hk hd hv3 v10 hv10) with hs4
    · subst hs4
      obtain ⟨cl5, Ar5, q5, S5, M5, H5, G5⟩ := id I4
      have hin5 : ¬ ((1 : Int32) < 0 ∨ cl5.slots.size ≤ ((1 : Int32)).toNatClampNeg) := inb_of S5 ⟨by decide, by decide⟩
      have hat5 : cl5.slots[((1 : Int32)).toNatClampNeg]? = some (.int (0 : Int32)) := Has.at H5 hin5 rfl
      obtain ⟨cl6, Ar6, q6, S6, M6, H6, G6⟩ := id I3
      have hin6 : ¬ ((1 : Int32) < 0 ∨ cl6.slots.size ≤ ((1 : Int32)).toNatClampNeg) := inb_of S6 ⟨by decide, by decide⟩
      have hat6 : cl6.slots[((1 : Int32)).toNatClampNeg]? = some (.ref tb) := Has.at H6 hin6 rfl
      obtain ⟨cq7, kq7, q7a, q7b, q7c⟩ := isOf hZ e0 I0
      obtain ⟨_, _, ⟨T7, L7, k7, n7⟩, -, X7, ⟨Lc7, hQ7, l7, y7, z7⟩, st7⟩ := X0.virtualBack hx (y := (⟨"com/example/evenkeel/evenkeel/TaskQueue", "addFirst", "(Lcom/example/evenkeel/evenkeel/QueuedTasks;)V"⟩ : MethodName)) (z := (⟨"com/example/evenkeel/evenkeel/TaskQueue", "addFirst", "(Lcom/example/evenkeel/evenkeel/QueuedTasks;)V"⟩ : MethodName)) hown (mvT hZ (hw _ (List.mem_of_getElem? (i := 42) rfl))) (mvT hZ (hw _ (List.mem_of_getElem? (i := 43) rfl))) (notFace_of_selects (args := #[]) (mvT hZ (hw _ (List.mem_of_getElem? (i := 45) rfl)))) (mvT hZ (hw _ (List.mem_of_getElem? (i := 45) rfl))) (mvT hZ (hw _ (List.mem_of_getElem? (i := 44) rfl))) (by decide) (backOf (W := 0) (rm6_1 l Z a0 hw [] q tb ta h0 n0 Z0 I5 I6 I9 I10 I7 I8 I1 I0 I2 g_q g_tb g_ta ne_q_tb ne_q_ta (Ne.symm ne_ta_tb)) hZ (hw _ (List.mem_of_getElem? (i := 46) rfl)) (hw _ (List.mem_of_getElem? (i := 2) rfl)) (by decide) (by decide)) q7a q7c (g := (mkF m 45 #[.val (.ref q), .val (.ref ra), .val (.ref ib), .val (.int cd), .val (.int (1 : Int32)), .val (.int (0 : Int32)), .unset] [(.ref tb), (.ref q)])) rfl (by rw [hml]; rfl) (Steps.refl _) (argsL := [(.ref tb)]) (rest := []) (lenOf pd_0 rfl) rfl (by show 2 * 0 + _ ≤ _; exact Nat.le_of_eq rfl) (hb hby d5_45) (fun _ _ => ⟨rfl, e0, (by decide : 0 + 0 ≤ _), (by decide : 0 + 0 ≤ _)⟩)
      dsimp only [Pt.U, Pt.locs, Pt.cells, Pt.slots] at X7 l7 y7 z7 st7 hQ7
      subst l7 y7 z7
      obtain ⟨rfl, N7q, K7q, F8, F9, F10, F11, F12, F13, F14, F15, F16⟩ := hQ7
      have N7 := Fr.app N0 N7q
      have F17 : Exa Z T7.heap q "com/example/evenkeel/evenkeel/TaskQueue" := I0.keep K7q
      have F18 : Exa Z T7.heap ta "com/example/evenkeel/evenkeel/QueuedTasks" := I1.keep K7q
      have F19 : Exa Z T7.heap tb "com/example/evenkeel/evenkeel/QueuedTasks" := I2.keep K7q
      have F20 : Arv Z T7.heap ra ka (.object "com/example/evenkeel/evenkeel/QueuedTasks") (2 : Int32) [(.ref ta), (.ref tb)] .null := I3.keep K7q (ninS ne_ra_q (ninS ne_ra_tb (ninS ne_ra_ta nin0)))
      have F21 : Arv Z T7.heap ib kb .boolean (2 : Int32) [(.int (1 : Int32)), (.int (0 : Int32))] (.int (0 : Int32)) := I4.keep K7q (ninS ne_ib_q (ninS ne_ib_tb (ninS ne_ib_ta nin0)))
      have Z22 : n0 ≤ T7.heap.size := Nat.le_trans Z0 K7q.1
      have K23 : Keep h0 T7.heap [q, ta, tb, ib] := K0.trans K7q (allS (Or.inl (List.mem_of_getElem? (i := 0) rfl)) (allS (Or.inl (List.mem_of_getElem? (i := 2) rfl)) (allS (Or.inl (List.mem_of_getElem? (i := 1) rfl)) all0)))
      obtain ⟨cl24, Ar24, q24, S24, M24, H24, G24⟩ := id F21
      have hin24 : ¬ ((1 : Int32) < 0 ∨ cl24.slots.size ≤ ((1 : Int32)).toNatClampNeg) := inb_of S24 ⟨by decide, by decide⟩
      obtain ⟨T24, hX24, X24, e24, W24, st24⟩ := stZ X7 hx hZ rfl Ar24 (j := (1 : Int32)) hin24 (g := (mkF m 63 #[.val (.ref q), .val (.ref ra), .val (.ref ib), .val (.int cd), .val (.int (1 : Int32)), .val (.int (0 : Int32)), .unset] [(.int (1 : Int32)), (.int (1 : Int32)), (.ref ib)])) rfl rfl (hb hby d5_63)
      have F25 : Arv Z hX24 ib kb .boolean (2 : Int32) [(.int (1 : Int32)), (.int (1 : Int32))] (.int (0 : Int32)) := Arv.set Ar24 q24 S24 M24 H24 G24 (fits_nar_bool _) W24 1 rfl (Nat.le_of_ble_eq_true rfl)
      have N24 := Fr.snoc X24 N7 g_ib
      have F26 : Exa Z hX24 q "com/example/evenkeel/evenkeel/TaskQueue" := F15.wr W24
      have F27 : Exa Z hX24 ta "com/example/evenkeel/evenkeel/QueuedTasks" := F14.wr W24
      have F28 : Exa Z hX24 tb "com/example/evenkeel/evenkeel/QueuedTasks" := F16.wr W24
      have F29 : Arv Z hX24 ra ka (.object "com/example/evenkeel/evenkeel/QueuedTasks") (2 : Int32) [(.ref ta), (.ref tb)] .null := F20.other W24 ne_ra_ib
      have F30 : Fld Z hX24 q "com/example/evenkeel/evenkeel/TaskQueue" "first" "Lcom/example/evenkeel/evenkeel/QueuedTasks;" (.ref tb) := F8.other W24 (Or.inl (Ne.symm ne_ib_q))
      have F31 : Fld Z hX24 q "com/example/evenkeel/evenkeel/TaskQueue" "last" "Lcom/example/evenkeel/evenkeel/QueuedTasks;" (.ref ta) := F9.other W24 (Or.inl (Ne.symm ne_ib_q))
      have F32 : Fld Z hX24 tb "com/example/evenkeel/evenkeel/QueuedTasks" "before" "Lcom/example/evenkeel/evenkeel/QueuedTasks;" .null := F10.other W24 (Or.inl (Ne.symm ne_ib_tb))
      have F33 : Fld Z hX24 tb "com/example/evenkeel/evenkeel/QueuedTasks" "after" "Lcom/example/evenkeel/evenkeel/QueuedTasks;" (.ref ta) := F11.other W24 (Or.inl (Ne.symm ne_ib_tb))
      have F34 : Fld Z hX24 ta "com/example/evenkeel/evenkeel/QueuedTasks" "before" "Lcom/example/evenkeel/evenkeel/QueuedTasks;" (.ref tb) := F12.other W24 (Or.inl (Ne.symm ne_ib_ta))
      have F35 : Fld Z hX24 ta "com/example/evenkeel/evenkeel/QueuedTasks" "after" "Lcom/example/evenkeel/evenkeel/QueuedTasks;" .null := F13.other W24 (Or.inl (Ne.symm ne_ib_ta))
      have Z36 : n0 ≤ hX24.size := Nat.le_trans Z22 (Keep.of_wr W24).1
      have K37 : Keep h0 hX24 [q, ta, tb, ib] := K23.wr W24 (Or.inl (List.mem_of_getElem? (i := 3) rfl))
      obtain ⟨cl38, Ar38, q38, S38, M38, H38, G38⟩ := id F25
      have hin38 : ¬ ((0 : Int32) < 0 ∨ cl38.slots.size ≤ ((0 : Int32)).toNatClampNeg) := inb_of S38 ⟨by decide, by decide⟩
      have hat38 : cl38.slots[((0 : Int32)).toNatClampNeg]? = some (.int (1 : Int32)) := Has.at H38 hin38 rfl
      obtain ⟨cq39, kq39, q39a, q39b, q39c⟩ := isOf hZ e24 F26
      obtain ⟨_, _, ⟨T39, L39, k39, n39⟩, -, X39, ⟨Lc39, hQ39, l39, y39, z39⟩, st39⟩ := X24.virtualBack hx (y := (⟨"com/example/evenkeel/evenkeel/TaskQueue", "isEmpty", "()Z"⟩ : MethodName)) (z := (⟨"com/example/evenkeel/evenkeel/TaskQueue", "isEmpty", "()Z"⟩ : MethodName)) hown (mvT hZ (hw _ (List.mem_of_getElem? (i := 31) rfl))) (mvT hZ (hw _ (List.mem_of_getElem? (i := 32) rfl))) (notFace_of_selects (args := #[]) (mvT hZ (hw _ (List.mem_of_getElem? (i := 34) rfl)))) (mvT hZ (hw _ (List.mem_of_getElem? (i := 34) rfl))) (mvT hZ (hw _ (List.mem_of_getElem? (i := 33) rfl))) (by decide) (backOf (W := 0) (rm4_1 l Z a0 hw [] q tb hX24 n0 Z36 F30) hZ (hw _ (List.mem_of_getElem? (i := 35) rfl)) (hw _ (List.mem_of_getElem? (i := 2) rfl)) (by decide) (by decide)) q39a q39c (g := (mkF m 84 #[.val (.ref q), .val (.ref ra), .val (.ref ib), .val (.int cd), .val (.int (1 : Int32)), .val (.int (0 : Int32)), .val (.int (0 : Int32))] [(.ref q)])) rfl (by rw [hml]; rfl) (Steps.refl _) (argsL := []) (rest := []) (lenOf pd_1 rfl) rfl (by show 2 * 0 + _ ≤ _; exact Nat.le_of_eq rfl) (hb hby d5_84) (fun _ _ => ⟨rfl, e24, (by decide : 0 + 0 ≤ _), (by decide : 0 + 0 ≤ _)⟩)
      dsimp only [Pt.U, Pt.locs, Pt.cells, Pt.slots] at X39 l39 y39 z39 st39 hQ39
      subst l39 y39 z39
      obtain ⟨rfl, N39q, e39⟩ := hQ39
      have N39 := Fr.app N24 N39q
      obtain ⟨fs, hr, hrun, hended, hW, hsame⟩ := X39.leave (v := some (Value.int (1 : Int32))) (fun h => by rw [Bd.returns] at h; cases h)
      refine ⟨_, _, pre3 _ ?_, hrun, hended, _, _, rfl, ?_, ⟨_, rfl⟩, hW, hsame.mono (by decide) (by decide)⟩
      · skip
        show Steps p.tables e below (s₁.setTop (mkF m 12 #[.val (.ref q), .val (.ref ra), .val (.ref ib), .val (.int cd), .val (.int (1 : Int32)), .val (.int (0 : Int32)), .unset] [])) _
        refine XS.aloadN X0.here hx rfl (hb hby d5_12) rfl rfl ?_
        show Steps p.tables e below (s₁.setTop (mkF m 13 #[.val (.ref q), .val (.ref ra), .val (.ref ib), .val (.int cd), .val (.int (1 : Int32)), .val (.int (0 : Int32)), .unset] [(.ref ib)])) _
        refine XS.iload X0.here hx rfl (hb hby d5_13) rfl ?_
        show Steps p.tables e below (s₁.setTop (mkF m 15 #[.val (.ref q), .val (.ref ra), .val (.ref ib), .val (.int cd), .val (.int (1 : Int32)), .val (.int (0 : Int32)), .unset] [(.int (1 : Int32)), (.ref ib)])) _
        refine X0.baloadBooleans hx (j := (1 : Int32)) (v := (.int (0 : Int32))) (heq_of e0 Ar5.1) (State.isArrayOf_alike hZ.alike Ar5.2.1) Ar5.2.2 hin5 hat5 (g := (mkF m 15 #[.val (.ref q), .val (.ref ra), .val (.ref ib), .val (.int cd), .val (.int (1 : Int32)), .val (.int (0 : Int32)), .unset] [(.int (1 : Int32)), (.ref ib)])) rfl rfl (hb hby d5_15) _ ?_
        show Steps p.tables e below (s₁.setTop (mkF m 16 #[.val (.ref q), .val (.ref ra), .val (.ref ib), .val (.int cd), .val (.int (1 : Int32)), .val (.int (0 : Int32)), .unset] [(.int (0 : Int32))])) _
        refine XS.ifYes X0.here hx rfl (pc0 := 16) (pc' := 35) rfl (hb hby d5_16) rfl ((if0 _ _).trans (teq rfl).1) (by decide) (by decide) ?_
        show Steps p.tables e below (s₁.setTop (mkF m 35 #[.val (.ref q), .val (.ref ra), .val (.ref ib), .val (.int cd), .val (.int (1 : Int32)), .val (.int (0 : Int32)), .unset] [])) _
        refine XS.iload X0.here hx rfl (hb hby d5_35) rfl ?_
        show Steps p.tables e below (s₁.setTop (mkF m 37 #[.val (.ref q), .val (.ref ra), .val (.ref ib), .val (.int cd), .val (.int (1 : Int32)), .val (.int (0 : Int32)), .unset] [(.int (0 : Int32))])) _
        refine XS.ifNo X0.here hx rfl (hb hby d5_37) rfl ((if0 _ _).trans (teq rfl).2) ?_
        show Steps p.tables e below (s₁.setTop (mkF m 40 #[.val (.ref q), .val (.ref ra), .val (.ref ib), .val (.int cd), .val (.int (1 : Int32)), .val (.int (0 : Int32)), .unset] [])) _
        refine XS.aloadN X0.here hx rfl (hb hby d5_40) rfl rfl ?_
        show Steps p.tables e below (s₁.setTop (mkF m 41 #[.val (.ref q), .val (.ref ra), .val (.ref ib), .val (.int cd), .val (.int (1 : Int32)), .val (.int (0 : Int32)), .unset] [(.ref q)])) _
        refine XS.aloadN X0.here hx rfl (hb hby d5_41) rfl rfl ?_
        show Steps p.tables e below (s₁.setTop (mkF m 42 #[.val (.ref q), .val (.ref ra), .val (.ref ib), .val (.int cd), .val (.int (1 : Int32)), .val (.int (0 : Int32)), .unset] [(.ref ra), (.ref q)])) _
        refine XS.iload X0.here hx rfl (hb hby d5_42) rfl ?_
        show Steps p.tables e below (s₁.setTop (mkF m 44 #[.val (.ref q), .val (.ref ra), .val (.ref ib), .val (.int cd), .val (.int (1 : Int32)), .val (.int (0 : Int32)), .unset] [(.int (1 : Int32)), (.ref ra), (.ref q)])) _
        refine X0.aaload hx (j := (1 : Int32)) (v := (.ref tb)) (heq_of e0 Ar6.1) (State.isArrayOf_alike hZ.alike Ar6.2.1) rfl Ar6.2.2 hin6 hat6 (g := (mkF m 44 #[.val (.ref q), .val (.ref ra), .val (.ref ib), .val (.int cd), .val (.int (1 : Int32)), .val (.int (0 : Int32)), .unset] [(.int (1 : Int32)), (.ref ra), (.ref q)])) rfl rfl (hb hby d5_44) _ ?_
        show Steps p.tables e below (s₁.setTop (mkF m 45 #[.val (.ref q), .val (.ref ra), .val (.ref ib), .val (.int cd), .val (.int (1 : Int32)), .val (.int (0 : Int32)), .unset] [(.ref tb), (.ref q)])) _
        refine st7.trans ?_
        show Steps p.tables e below (T7.setTop (mkF m 48 #[.val (.ref q), .val (.ref ra), .val (.ref ib), .val (.int cd), .val (.int (1 : Int32)), .val (.int (0 : Int32)), .unset] [])) _
        refine XS.goto X7.here hx rfl (pc0 := 48) (pc' := 59) rfl (hb hby d5_48) (by decide) (by decide) ?_
        show Steps p.tables e below (T7.setTop (mkF m 59 #[.val (.ref q), .val (.ref ra), .val (.ref ib), .val (.int cd), .val (.int (1 : Int32)), .val (.int (0 : Int32)), .unset] [])) _
        refine XS.aloadN X7.here hx rfl (hb hby d5_59) rfl rfl ?_
        show Steps p.tables e below (T7.setTop (mkF m 60 #[.val (.ref q), .val (.ref ra), .val (.ref ib), .val (.int cd), .val (.int (1 : Int32)), .val (.int (0 : Int32)), .unset] [(.ref ib)])) _
        refine XS.iload X7.here hx rfl (hb hby d5_60) rfl ?_
        show Steps p.tables e below (T7.setTop (mkF m 62 #[.val (.ref q), .val (.ref ra), .val (.ref ib), .val (.int cd), .val (.int (1 : Int32)), .val (.int (0 : Int32)), .unset] [(.int (1 : Int32)), (.ref ib)])) _
        refine XS.iconst X7.here hx rfl (hb hby d5_62) ?_
        show Steps p.tables e below (T7.setTop (mkF m 63 #[.val (.ref q), .val (.ref ra), .val (.ref ib), .val (.int cd), .val (.int (1 : Int32)), .val (.int (0 : Int32)), .unset] [(.int (1 : Int32)), (.int (1 : Int32)), (.ref ib)])) _
        refine st24 _ ?_
        show Steps p.tables e below (T24.setTop (mkF m 64 #[.val (.ref q), .val (.ref ra), .val (.ref ib), .val (.int cd), .val (.int (1 : Int32)), .val (.int (0 : Int32)), .unset] [])) _
        refine XS.aloadN X24.here hx rfl (hb hby d5_64) rfl rfl ?_
        show Steps p.tables e below (T24.setTop (mkF m 65 #[.val (.ref q), .val (.ref ra), .val (.ref ib), .val (.int cd), .val (.int (1 : Int32)), .val (.int (0 : Int32)), .unset] [(.ref ib)])) _
        refine XS.iconst X24.here hx rfl (hb hby d5_65) ?_
        show Steps p.tables e below (T24.setTop (mkF m 66 #[.val (.ref q), .val (.ref ra), .val (.ref ib), .val (.int cd), .val (.int (1 : Int32)), .val (.int (0 : Int32)), .unset] [(.int (0 : Int32)), (.ref ib)])) _
        refine X24.baloadBooleans hx (j := (0 : Int32)) (v := (.int (1 : Int32))) (heq_of e24 Ar38.1) (State.isArrayOf_alike hZ.alike Ar38.2.1) Ar38.2.2 hin38 hat38 (g := (mkF m 66 #[.val (.ref q), .val (.ref ra), .val (.ref ib), .val (.int cd), .val (.int (1 : Int32)), .val (.int (0 : Int32)), .unset] [(.int (0 : Int32)), (.ref ib)])) rfl rfl (hb hby d5_66) _ ?_
        show Steps p.tables e below (T24.setTop (mkF m 67 #[.val (.ref q), .val (.ref ra), .val (.ref ib), .val (.int cd), .val (.int (1 : Int32)), .val (.int (0 : Int32)), .unset] [(.int (1 : Int32))])) _
        refine XS.ifYes X24.here hx rfl (pc0 := 67) (pc' := 80) rfl (hb hby d5_67) rfl ((if0 _ _).trans (feq (by decide)).2) (by decide) (by decide) ?_
        show Steps p.tables e below (T24.setTop (mkF m 80 #[.val (.ref q), .val (.ref ra), .val (.ref ib), .val (.int cd), .val (.int (1 : Int32)), .val (.int (0 : Int32)), .unset] [])) _
        refine XS.iconst X24.here hx rfl (hb hby d5_80) ?_
        show Steps p.tables e below (T24.setTop (mkF m 81 #[.val (.ref q), .val (.ref ra), .val (.ref ib), .val (.int cd), .val (.int (1 : Int32)), .val (.int (0 : Int32)), .unset] [(.int (0 : Int32))])) _
        refine XS.istore X24.here hx rfl (hb hby d5_81) rfl (l' := #[.val (.ref q), .val (.ref ra), .val (.ref ib), .val (.int cd), .val (.int (1 : Int32)), .val (.int (0 : Int32)), .val (.int (0 : Int32))]) rfl ?_
        show Steps p.tables e below (T24.setTop (mkF m 83 #[.val (.ref q), .val (.ref ra), .val (.ref ib), .val (.int cd), .val (.int (1 : Int32)), .val (.int (0 : Int32)), .val (.int (0 : Int32))] [])) _
        refine XS.aloadN X24.here hx rfl (hb hby d5_83) rfl rfl ?_
        show Steps p.tables e below (T24.setTop (mkF m 84 #[.val (.ref q), .val (.ref ra), .val (.ref ib), .val (.int cd), .val (.int (1 : Int32)), .val (.int (0 : Int32)), .val (.int (0 : Int32))] [(.ref q)])) _
        refine st39.trans ?_
        show Steps p.tables e below (T39.setTop (mkF m 87 #[.val (.ref q), .val (.ref ra), .val (.ref ib), .val (.int cd), .val (.int (1 : Int32)), .val (.int (0 : Int32)), .val (.int (0 : Int32))] [(.int (0 : Int32))])) _
        refine XS.iload X39.here hx rfl (hb hby d5_87) rfl ?_
        show Steps p.tables e below (T39.setTop (mkF m 89 #[.val (.ref q), .val (.ref ra), .val (.ref ib), .val (.int cd), .val (.int (1 : Int32)), .val (.int (0 : Int32)), .val (.int (0 : Int32))] [(.int (0 : Int32)), (.int (0 : Int32))])) _
        refine XS.icmpNo X39.here hx rfl (hb hby d5_89) rfl (teq rfl).2 ?_
        show Steps p.tables e below (T39.setTop (mkF m 92 #[.val (.ref q), .val (.ref ra), .val (.ref ib), .val (.int cd), .val (.int (1 : Int32)), .val (.int (0 : Int32)), .val (.int (0 : Int32))] [])) _
        refine XS.iconst X39.here hx rfl (hb hby d5_92) ?_
        show Steps p.tables e below (T39.setTop (mkF m 93 #[.val (.ref q), .val (.ref ra), .val (.ref ib), .val (.int cd), .val (.int (1 : Int32)), .val (.int (0 : Int32)), .val (.int (0 : Int32))] [(.int (1 : Int32))])) _
        refine XS.goto X39.here hx rfl (pc0 := 93) (pc' := 97) rfl (hb hby d5_93) (by decide) (by decide) ?_
        show Steps p.tables e below (T39.setTop (mkF m 97 #[.val (.ref q), .val (.ref ra), .val (.ref ib), .val (.int cd), .val (.int (1 : Int32)), .val (.int (0 : Int32)), .val (.int (0 : Int32))] [(.int (1 : Int32))])) _
        exact retN X39 hx (t := .boolean) Bd.returns (by simp) (hb hby d5_97) hr
      · show Q5_5 Z q ra ib cd ta tb ka kb h0 n0 _ T39.heap _
        rw [e39]
        exact ⟨rfl, N39, K37, F26, F27, F28, F29, F25, F30, F31, F34, F35, F32, F33⟩
theorem ef_5_6 (m : MethodId) (x0 : Addr) (x1 : Addr) (x2 : Addr) (x3 : Int32) : entryFrame m #[(.ref x0), (.ref x1), (.ref x2), (.int x3)] 7 = mkF m 0 #[.val (.ref x0), .val (.ref x1), .val (.ref x2), .val (.int x3), .unset, .unset, .unset] [] := by first | (simp [entryFrame, mkF, argsToLocals, Value.category]; done) | rfl
theorem own_split_5_6_5 (cd : Int32) (hk : (cd &&& (1 : Int32)) = (1 : Int32)) (hd : ((cd.toUInt32 >>> ((1 : Int32) &&& 31).toUInt32).toInt32 &&& (1 : Int32)) = (1 : Int32)) (v3 : Int32) (hv3 : v3 = (cd &&& (1 : Int32))) : v3 = (1 : Int32) := by rw [hv3]; exact hk
theorem own_split_5_6_12_s1 (cd : Int32) (hk : (cd &&& (1 : Int32)) = (1 : Int32)) (hd : ((cd.toUInt32 >>> ((1 : Int32) &&& 31).toUInt32).toInt32 &&& (1 : Int32)) = (1 : Int32)) (hv3 : (1 : Int32) = (cd &&& (1 : Int32))) (v10 : Int32) (hv10 : v10 = (((cd.toUInt32 >>> ((1 : Int32) &&& 31).toUInt32).toInt32) &&& (1 : Int32))) : v10 = (1 : Int32) := by rw [hv10]; exact hd
def Q5_6 (Z : State) (q : Addr) (ra : Addr) (ib : Addr) (cd : Int32) (ta : Addr) (tb : Addr) (ka : ClassId) (kb : ClassId) (h0 : Heap) (n0 : Nat) (v : Option Value) (h : Heap) (L : List Loc) : Prop := v = some (.int (1 : Int32)) ∧ Fr n0 L ∧ Keep h0 h [q, ta, tb, ib] ∧ Exa Z h q "com/example/evenkeel/evenkeel/TaskQueue" ∧ Exa Z h ta "com/example/evenkeel/evenkeel/QueuedTasks" ∧ Exa Z h tb "com/example/evenkeel/evenkeel/QueuedTasks" ∧ Arv Z h ra ka (.object "com/example/evenkeel/evenkeel/QueuedTasks") (2 : Int32) [(.ref ta), (.ref tb)] .null ∧ Arv Z h ib kb .boolean (2 : Int32) [(.int (1 : Int32)), (.int (1 : Int32))] (.int (0 : Int32)) ∧ Fld Z h q "com/example/evenkeel/evenkeel/TaskQueue" "first" "Lcom/example/evenkeel/evenkeel/QueuedTasks;" (.ref ta) ∧ Fld Z h q "com/example/evenkeel/evenkeel/TaskQueue" "last" "Lcom/example/evenkeel/evenkeel/QueuedTasks;" (.ref tb) ∧ Fld Z h ta "com/example/evenkeel/evenkeel/QueuedTasks" "before" "Lcom/example/evenkeel/evenkeel/QueuedTasks;" .null ∧ Fld Z h ta "com/example/evenkeel/evenkeel/QueuedTasks" "after" "Lcom/example/evenkeel/evenkeel/QueuedTasks;" (.ref tb) ∧ Fld Z h tb "com/example/evenkeel/evenkeel/QueuedTasks" "before" "Lcom/example/evenkeel/evenkeel/QueuedTasks;" (.ref ta) ∧ Fld Z h tb "com/example/evenkeel/evenkeel/QueuedTasks" "after" "Lcom/example/evenkeel/evenkeel/QueuedTasks;" .null
set_option maxRecDepth 65536 in
set_option maxHeartbeats 40000000 in
theorem rm5_6 (l : Launch) (Z : State) (a0 : Array Value) (hw : ∀ d ∈ tables_1, d.before a0 Z = true) (ws : List Jvm.Cond) (q : Addr) (ra : Addr) (ib : Addr) (cd : Int32) (ta : Addr) (tb : Addr) (ka : ClassId) (kb : ClassId) (h0 : Heap) (n0 : Nat) (Z0 : n0 ≤ h0.size) (I0 : Exa Z h0 q "com/example/evenkeel/evenkeel/TaskQueue") (I1 : Exa Z h0 ta "com/example/evenkeel/evenkeel/QueuedTasks") (I2 : Exa Z h0 tb "com/example/evenkeel/evenkeel/QueuedTasks") (I3 : Arv Z h0 ra ka (.object "com/example/evenkeel/evenkeel/QueuedTasks") (2 : Int32) [(.ref ta), (.ref tb)] .null) (I4 : Arv Z h0 ib kb .boolean (2 : Int32) [(.int (1 : Int32)), (.int (0 : Int32))] (.int (0 : Int32))) (I5 : Fld Z h0 q "com/example/evenkeel/evenkeel/TaskQueue" "first" "Lcom/example/evenkeel/evenkeel/QueuedTasks;" (.ref ta)) (I6 : Fld Z h0 q "com/example/evenkeel/evenkeel/TaskQueue" "last" "Lcom/example/evenkeel/evenkeel/QueuedTasks;" (.ref ta)) (I7 : Fld Z h0 ta "com/example/evenkeel/evenkeel/QueuedTasks" "before" "Lcom/example/evenkeel/evenkeel/QueuedTasks;" .null) (I8 : Fld Z h0 ta "com/example/evenkeel/evenkeel/QueuedTasks" "after" "Lcom/example/evenkeel/evenkeel/QueuedTasks;" .null) (I9 : Fld Z h0 tb "com/example/evenkeel/evenkeel/QueuedTasks" "before" "Lcom/example/evenkeel/evenkeel/QueuedTasks;" .null) (I10 : Fld Z h0 tb "com/example/evenkeel/evenkeel/QueuedTasks" "after" "Lcom/example/evenkeel/evenkeel/QueuedTasks;" .null) (g_q : n0 ≤ q) (g_ta : n0 ≤ ta) (g_tb : n0 ≤ tb) (g_ib : n0 ≤ ib) (ne_q_ta : q ≠ ta) (ne_q_tb : q ≠ tb) (ne_ta_tb : ta ≠ tb) (ne_ra_q : ra ≠ q) (ne_ra_ta : ra ≠ ta) (ne_ra_tb : ra ≠ tb) (ne_ib_q : ib ≠ q) (ne_ib_ta : ib ≠ ta) (ne_ib_tb : ib ≠ tb) (ne_ra_ib : ra ≠ ib) (hk : (cd &&& (1 : Int32)) = (1 : Int32)) (hd : ((cd.toUInt32 >>> ((1 : Int32) &&& 31).toUInt32).toInt32 &&& (1 : Int32)) = (1 : Int32)) :
    MetFree l (⟨"com/example/evenkeel/evenkeel/TaskQueueIsEmptyPinLaw", "step", "(Lcom/example/evenkeel/evenkeel/TaskQueue;[Lcom/example/evenkeel/evenkeel/QueuedTasks;[ZI)Z"⟩ : MethodName) (head1 (Jvm.Cond.code (⟨"com/example/evenkeel/evenkeel/TaskQueueIsEmptyPinLaw", "step", "(Lcom/example/evenkeel/evenkeel/TaskQueue;[Lcom/example/evenkeel/evenkeel/QueuedTasks;[ZI)Z"⟩ : MethodName) method_3_code 7 (some .boolean) :: ws) ({ frames := 1, cells := 0, slots := 0, locals := 13 } : Room)) (fun a U => a = #[(.ref q), (.ref ra), (.ref ib), (.int cd)] ∧ Z.Warmed39 U.vm ∧ U.heap = h0) (fun _ _ _ _ _ => True) (fun _ U o U' => ∃ v L, o = .returned v ∧ Q5_6 Z q ra ib cd ta tb ka kb h0 n0 v U'.heap L ∧ FrameEnd U o U' L ({ frames := 1, cells := 0, slots := 0, locals := 13 } : Room).cells ({ frames := 1, cells := 0, slots := 0, locals := 13 } : Room).slots) := by
  refine MetFree.of_bodySF (plainFor_of_name pn_5) hisR ?_
  intro p e s m args below meth c s₁ Bd hml0 hP hK
  obtain ⟨rfl, hZ, hh⟩ := hP
  have hx := Bd.exec
  have hby := Bd.bytes
  have hml : c.maxLocals = 7 := hml0
  have hown : s.vm.findClass "com/example/evenkeel/evenkeel/TaskQueueIsEmptyPinLaw" = some m.cls := findClass_of_methodNamed Bd.named
  have hnm := (name_of_methodNamed Bd.named Bd.method).1
  have X0 : Stand p l e ({ frames := 1, cells := 0, slots := 0, locals := 13 } : Room) s m #[(.ref q), (.ref ra), (.ref ib), (.int cd)] below meth c s₁ [] 0 0 := Stand.of_body Bd
  have e0 : s₁.heap = h0 := by rw [← hh, Bd.state]; rfl
  have N0 := Fr.nil n0
  have K0 : Keep h0 h0 [q, ta, tb, ib] := Keep.refl h0 _
  have pre0 : ∀ tq, Steps p.tables e below (s₁.setTop (mkF m 0 #[.val (.ref q), .val (.ref ra), .val (.ref ib), .val (.int cd), .unset, .unset, .unset] [])) tq → Steps p.tables e below (s₁.setTop (entryFrame m #[(.ref q), (.ref ra), (.ref ib), (.int cd)] 7)) tq := fun tq kq => castTop (ef_5_6 m q ra ib cd) kq
  obtain ⟨v3, hv3⟩ : ∃ z_q : Int32, z_q = (cd &&& (1 : Int32)) := ⟨_, rfl⟩
  have pre1 : ∀ tq, Steps p.tables e below (s₁.setTop (mkF m 5 #[.val (.ref q), .val (.ref ra), .val (.ref ib), .val (.int cd), .val (.int v3), .unset, .unset] [])) tq → Steps p.tables e below (s₁.setTop (entryFrame m #[(.ref q), (.ref ra), (.ref ib), (.int cd)] 7)) tq := by
    intro tq kt
    refine pre0 _ ?_
    show Steps p.tables e below (s₁.setTop (mkF m 0 #[.val (.ref q), .val (.ref ra), .val (.ref ib), .val (.int cd), .unset, .unset, .unset] [])) _
    refine XS.iloadN X0.here hx rfl (hb hby d5_0) rfl ?_
    show Steps p.tables e below (s₁.setTop (mkF m 1 #[.val (.ref q), .val (.ref ra), .val (.ref ib), .val (.int cd), .unset, .unset, .unset] [(.int cd)])) _
    refine XS.iconst X0.here hx rfl (hb hby d5_1) ?_
    show Steps p.tables e below (s₁.setTop (mkF m 2 #[.val (.ref q), .val (.ref ra), .val (.ref ib), .val (.int cd), .unset, .unset, .unset] [(.int (1 : Int32)), (.int cd)])) _
    refine XS.iand X0.here hx rfl (hb hby d5_2) rfl ?_
    show Steps p.tables e below (s₁.setTop (mkF m 3 #[.val (.ref q), .val (.ref ra), .val (.ref ib), .val (.int cd), .unset, .unset, .unset] [(.int (cd &&& (1 : Int32)))])) _
    refine XS.istore X0.here hx rfl (hb hby d5_3) rfl (l' := #[.val (.ref q), .val (.ref ra), .val (.ref ib), .val (.int cd), .val (.int v3), .unset, .unset]) (by rw [hv3]; rfl) ?_
    show Steps p.tables e below (s₁.setTop (mkF m 5 #[.val (.ref q), .val (.ref ra), .val (.ref ib), .val (.int cd), .val (.int v3), .unset, .unset] [])) _
    exact kt
  rcases (own_split_5_6_5 cd hk hd v3 hv3) with hs2
  · subst hs2
    obtain ⟨v10, hv10⟩ : ∃ z_q : Int32, z_q = (((cd.toUInt32 >>> ((1 : Int32) &&& 31).toUInt32).toInt32) &&& (1 : Int32)) := ⟨_, rfl⟩
    have pre3 : ∀ tq, Steps p.tables e below (s₁.setTop (mkF m 12 #[.val (.ref q), .val (.ref ra), .val (.ref ib), .val (.int cd), .val (.int (1 : Int32)), .val (.int v10), .unset] [])) tq → Steps p.tables e below (s₁.setTop (entryFrame m #[(.ref q), (.ref ra), (.ref ib), (.int cd)] 7)) tq := by
      intro tq kt
      refine pre1 _ ?_
      show Steps p.tables e below (s₁.setTop (mkF m 5 #[.val (.ref q), .val (.ref ra), .val (.ref ib), .val (.int cd), .val (.int (1 : Int32)), .unset, .unset] [])) _
      refine XS.iloadN X0.here hx rfl (hb hby d5_5) rfl ?_
      show Steps p.tables e below (s₁.setTop (mkF m 6 #[.val (.ref q), .val (.ref ra), .val (.ref ib), .val (.int cd), .val (.int (1 : Int32)), .unset, .unset] [(.int cd)])) _
      refine XS.iconst X0.here hx rfl (hb hby d5_6) ?_
      show Steps p.tables e below (s₁.setTop (mkF m 7 #[.val (.ref q), .val (.ref ra), .val (.ref ib), .val (.int cd), .val (.int (1 : Int32)), .unset, .unset] [(.int (1 : Int32)), (.int cd)])) _
      refine XS.iushr X0.here hx rfl (hb hby d5_7) rfl ?_
      show Steps p.tables e below (s₁.setTop (mkF m 8 #[.val (.ref q), .val (.ref ra), .val (.ref ib), .val (.int cd), .val (.int (1 : Int32)), .unset, .unset] [(.int ((cd.toUInt32 >>> ((1 : Int32) &&& 31).toUInt32).toInt32))])) _
      refine XS.iconst X0.here hx rfl (hb hby d5_8) ?_
      show Steps p.tables e below (s₁.setTop (mkF m 9 #[.val (.ref q), .val (.ref ra), .val (.ref ib), .val (.int cd), .val (.int (1 : Int32)), .unset, .unset] [(.int (1 : Int32)), (.int ((cd.toUInt32 >>> ((1 : Int32) &&& 31).toUInt32).toInt32))])) _
      refine XS.iand X0.here hx rfl (hb hby d5_9) rfl ?_
      show Steps p.tables e below (s₁.setTop (mkF m 10 #[.val (.ref q), .val (.ref ra), .val (.ref ib), .val (.int cd), .val (.int (1 : Int32)), .unset, .unset] [(.int (((cd.toUInt32 >>> ((1 : Int32) &&& 31).toUInt32).toInt32) &&& (1 : Int32)))])) _
      refine XS.istore X0.here hx rfl (hb hby d5_10) rfl (l' := #[.val (.ref q), .val (.ref ra), .val (.ref ib), .val (.int cd), .val (.int (1 : Int32)), .val (.int v10), .unset]) (by rw [hv10]; rfl) ?_
      show Steps p.tables e below (s₁.setTop (mkF m 12 #[.val (.ref q), .val (.ref ra), .val (.ref ib), .val (.int cd), .val (.int (1 : Int32)), .val (.int v10), .unset] [])) _
      exact kt
    rcases (own_split_5_6_12_s1 cd hk hd hv3 v10 hv10) with hs4
    · subst hs4
      obtain ⟨cl5, Ar5, q5, S5, M5, H5, G5⟩ := id I4
      have hin5 : ¬ ((1 : Int32) < 0 ∨ cl5.slots.size ≤ ((1 : Int32)).toNatClampNeg) := inb_of S5 ⟨by decide, by decide⟩
      have hat5 : cl5.slots[((1 : Int32)).toNatClampNeg]? = some (.int (0 : Int32)) := Has.at H5 hin5 rfl
      obtain ⟨cl6, Ar6, q6, S6, M6, H6, G6⟩ := id I3
      have hin6 : ¬ ((1 : Int32) < 0 ∨ cl6.slots.size ≤ ((1 : Int32)).toNatClampNeg) := inb_of S6 ⟨by decide, by decide⟩
      have hat6 : cl6.slots[((1 : Int32)).toNatClampNeg]? = some (.ref tb) := Has.at H6 hin6 rfl
      obtain ⟨cq7, kq7, q7a, q7b, q7c⟩ := isOf hZ e0 I0
      obtain ⟨_, _, ⟨T7, L7, k7, n7⟩, -, X7, ⟨Lc7, hQ7, l7, y7, z7⟩, st7⟩ := X0.virtualBack hx (y := (⟨"com/example/evenkeel/evenkeel/TaskQueue", "addLast", "(Lcom/example/evenkeel/evenkeel/QueuedTasks;)V"⟩ : MethodName)) (z := (⟨"com/example/evenkeel/evenkeel/TaskQueue", "addLast", "(Lcom/example/evenkeel/evenkeel/QueuedTasks;)V"⟩ : MethodName)) hown (mvT hZ (hw _ (List.mem_of_getElem? (i := 51) rfl))) (mvT hZ (hw _ (List.mem_of_getElem? (i := 52) rfl))) (notFace_of_selects (args := #[]) (mvT hZ (hw _ (List.mem_of_getElem? (i := 54) rfl)))) (mvT hZ (hw _ (List.mem_of_getElem? (i := 54) rfl))) (mvT hZ (hw _ (List.mem_of_getElem? (i := 53) rfl))) (by decide) (backOf (W := 0) (rm7_1 l Z a0 hw [] q tb ta h0 n0 Z0 I5 I6 I9 I10 I7 I8 I1 I0 I2 g_q g_tb g_ta ne_q_tb ne_q_ta (Ne.symm ne_ta_tb)) hZ (hw _ (List.mem_of_getElem? (i := 55) rfl)) (hw _ (List.mem_of_getElem? (i := 2) rfl)) (by decide) (by decide)) q7a q7c (g := (mkF m 56 #[.val (.ref q), .val (.ref ra), .val (.ref ib), .val (.int cd), .val (.int (1 : Int32)), .val (.int (1 : Int32)), .unset] [(.ref tb), (.ref q)])) rfl (by rw [hml]; rfl) (Steps.refl _) (argsL := [(.ref tb)]) (rest := []) (lenOf pd_0 rfl) rfl (by show 2 * 0 + _ ≤ _; exact Nat.le_of_eq rfl) (hb hby d5_56) (fun _ _ => ⟨rfl, e0, (by decide : 0 + 0 ≤ _), (by decide : 0 + 0 ≤ _)⟩)
      dsimp only [Pt.U, Pt.locs, Pt.cells, Pt.slots] at X7 l7 y7 z7 st7 hQ7
      subst l7 y7 z7
      obtain ⟨rfl, N7q, K7q, F8, F9, F10, F11, F12, F13, F14, F15, F16⟩ := hQ7
      have N7 := Fr.app N0 N7q
      have F17 : Exa Z T7.heap q "com/example/evenkeel/evenkeel/TaskQueue" := I0.keep K7q
      have F18 : Exa Z T7.heap ta "com/example/evenkeel/evenkeel/QueuedTasks" := I1.keep K7q
      have F19 : Exa Z T7.heap tb "com/example/evenkeel/evenkeel/QueuedTasks" := I2.keep K7q
      have F20 : Arv Z T7.heap ra ka (.object "com/example/evenkeel/evenkeel/QueuedTasks") (2 : Int32) [(.ref ta), (.ref tb)] .null := I3.keep K7q (ninS ne_ra_q (ninS ne_ra_tb (ninS ne_ra_ta nin0)))
      have F21 : Arv Z T7.heap ib kb .boolean (2 : Int32) [(.int (1 : Int32)), (.int (0 : Int32))] (.int (0 : Int32)) := I4.keep K7q (ninS ne_ib_q (ninS ne_ib_tb (ninS ne_ib_ta nin0)))
      have Z22 : n0 ≤ T7.heap.size := Nat.le_trans Z0 K7q.1
      have K23 : Keep h0 T7.heap [q, ta, tb, ib] := K0.trans K7q (allS (Or.inl (List.mem_of_getElem? (i := 0) rfl)) (allS (Or.inl (List.mem_of_getElem? (i := 2) rfl)) (allS (Or.inl (List.mem_of_getElem? (i := 1) rfl)) all0)))
      obtain ⟨cl24, Ar24, q24, S24, M24, H24, G24⟩ := id F21
      have hin24 : ¬ ((1 : Int32) < 0 ∨ cl24.slots.size ≤ ((1 : Int32)).toNatClampNeg) := inb_of S24 ⟨by decide, by decide⟩
      obtain ⟨T24, hX24, X24, e24, W24, st24⟩ := stZ X7 hx hZ rfl Ar24 (j := (1 : Int32)) hin24 (g := (mkF m 63 #[.val (.ref q), .val (.ref ra), .val (.ref ib), .val (.int cd), .val (.int (1 : Int32)), .val (.int (1 : Int32)), .unset] [(.int (1 : Int32)), (.int (1 : Int32)), (.ref ib)])) rfl rfl (hb hby d5_63)
      have F25 : Arv Z hX24 ib kb .boolean (2 : Int32) [(.int (1 : Int32)), (.int (1 : Int32))] (.int (0 : Int32)) := Arv.set Ar24 q24 S24 M24 H24 G24 (fits_nar_bool _) W24 1 rfl (Nat.le_of_ble_eq_true rfl)
      have N24 := Fr.snoc X24 N7 g_ib
      have F26 : Exa Z hX24 q "com/example/evenkeel/evenkeel/TaskQueue" := F15.wr W24
      have F27 : Exa Z hX24 ta "com/example/evenkeel/evenkeel/QueuedTasks" := F14.wr W24
      have F28 : Exa Z hX24 tb "com/example/evenkeel/evenkeel/QueuedTasks" := F16.wr W24
      have F29 : Arv Z hX24 ra ka (.object "com/example/evenkeel/evenkeel/QueuedTasks") (2 : Int32) [(.ref ta), (.ref tb)] .null := F20.other W24 ne_ra_ib
      have F30 : Fld Z hX24 q "com/example/evenkeel/evenkeel/TaskQueue" "first" "Lcom/example/evenkeel/evenkeel/QueuedTasks;" (.ref ta) := F8.other W24 (Or.inl (Ne.symm ne_ib_q))
      have F31 : Fld Z hX24 q "com/example/evenkeel/evenkeel/TaskQueue" "last" "Lcom/example/evenkeel/evenkeel/QueuedTasks;" (.ref tb) := F9.other W24 (Or.inl (Ne.symm ne_ib_q))
      have F32 : Fld Z hX24 tb "com/example/evenkeel/evenkeel/QueuedTasks" "before" "Lcom/example/evenkeel/evenkeel/QueuedTasks;" (.ref ta) := F10.other W24 (Or.inl (Ne.symm ne_ib_tb))
      have F33 : Fld Z hX24 tb "com/example/evenkeel/evenkeel/QueuedTasks" "after" "Lcom/example/evenkeel/evenkeel/QueuedTasks;" .null := F11.other W24 (Or.inl (Ne.symm ne_ib_tb))
      have F34 : Fld Z hX24 ta "com/example/evenkeel/evenkeel/QueuedTasks" "before" "Lcom/example/evenkeel/evenkeel/QueuedTasks;" .null := F12.other W24 (Or.inl (Ne.symm ne_ib_ta))
      have F35 : Fld Z hX24 ta "com/example/evenkeel/evenkeel/QueuedTasks" "after" "Lcom/example/evenkeel/evenkeel/QueuedTasks;" (.ref tb) := F13.other W24 (Or.inl (Ne.symm ne_ib_ta))
      have Z36 : n0 ≤ hX24.size := Nat.le_trans Z22 (Keep.of_wr W24).1
      have K37 : Keep h0 hX24 [q, ta, tb, ib] := K23.wr W24 (Or.inl (List.mem_of_getElem? (i := 3) rfl))
      obtain ⟨cl38, Ar38, q38, S38, M38, H38, G38⟩ := id F25
      have hin38 : ¬ ((0 : Int32) < 0 ∨ cl38.slots.size ≤ ((0 : Int32)).toNatClampNeg) := inb_of S38 ⟨by decide, by decide⟩
      have hat38 : cl38.slots[((0 : Int32)).toNatClampNeg]? = some (.int (1 : Int32)) := Has.at H38 hin38 rfl
      obtain ⟨cq39, kq39, q39a, q39b, q39c⟩ := isOf hZ e24 F26
      obtain ⟨_, _, ⟨T39, L39, k39, n39⟩, -, X39, ⟨Lc39, hQ39, l39, y39, z39⟩, st39⟩ := X24.virtualBack hx (y := (⟨"com/example/evenkeel/evenkeel/TaskQueue", "isEmpty", "()Z"⟩ : MethodName)) (z := (⟨"com/example/evenkeel/evenkeel/TaskQueue", "isEmpty", "()Z"⟩ : MethodName)) hown (mvT hZ (hw _ (List.mem_of_getElem? (i := 31) rfl))) (mvT hZ (hw _ (List.mem_of_getElem? (i := 32) rfl))) (notFace_of_selects (args := #[]) (mvT hZ (hw _ (List.mem_of_getElem? (i := 34) rfl)))) (mvT hZ (hw _ (List.mem_of_getElem? (i := 34) rfl))) (mvT hZ (hw _ (List.mem_of_getElem? (i := 33) rfl))) (by decide) (backOf (W := 0) (rm4_1 l Z a0 hw [] q ta hX24 n0 Z36 F30) hZ (hw _ (List.mem_of_getElem? (i := 35) rfl)) (hw _ (List.mem_of_getElem? (i := 2) rfl)) (by decide) (by decide)) q39a q39c (g := (mkF m 84 #[.val (.ref q), .val (.ref ra), .val (.ref ib), .val (.int cd), .val (.int (1 : Int32)), .val (.int (1 : Int32)), .val (.int (0 : Int32))] [(.ref q)])) rfl (by rw [hml]; rfl) (Steps.refl _) (argsL := []) (rest := []) (lenOf pd_1 rfl) rfl (by show 2 * 0 + _ ≤ _; exact Nat.le_of_eq rfl) (hb hby d5_84) (fun _ _ => ⟨rfl, e24, (by decide : 0 + 0 ≤ _), (by decide : 0 + 0 ≤ _)⟩)
      dsimp only [Pt.U, Pt.locs, Pt.cells, Pt.slots] at X39 l39 y39 z39 st39 hQ39
      subst l39 y39 z39
      obtain ⟨rfl, N39q, e39⟩ := hQ39
      have N39 := Fr.app N24 N39q
      obtain ⟨fs, hr, hrun, hended, hW, hsame⟩ := X39.leave (v := some (Value.int (1 : Int32))) (fun h => by rw [Bd.returns] at h; cases h)
      refine ⟨_, _, pre3 _ ?_, hrun, hended, _, _, rfl, ?_, ⟨_, rfl⟩, hW, hsame.mono (by decide) (by decide)⟩
      · skip
        show Steps p.tables e below (s₁.setTop (mkF m 12 #[.val (.ref q), .val (.ref ra), .val (.ref ib), .val (.int cd), .val (.int (1 : Int32)), .val (.int (1 : Int32)), .unset] [])) _
        refine XS.aloadN X0.here hx rfl (hb hby d5_12) rfl rfl ?_
        show Steps p.tables e below (s₁.setTop (mkF m 13 #[.val (.ref q), .val (.ref ra), .val (.ref ib), .val (.int cd), .val (.int (1 : Int32)), .val (.int (1 : Int32)), .unset] [(.ref ib)])) _
        refine XS.iload X0.here hx rfl (hb hby d5_13) rfl ?_
        show Steps p.tables e below (s₁.setTop (mkF m 15 #[.val (.ref q), .val (.ref ra), .val (.ref ib), .val (.int cd), .val (.int (1 : Int32)), .val (.int (1 : Int32)), .unset] [(.int (1 : Int32)), (.ref ib)])) _
        refine X0.baloadBooleans hx (j := (1 : Int32)) (v := (.int (0 : Int32))) (heq_of e0 Ar5.1) (State.isArrayOf_alike hZ.alike Ar5.2.1) Ar5.2.2 hin5 hat5 (g := (mkF m 15 #[.val (.ref q), .val (.ref ra), .val (.ref ib), .val (.int cd), .val (.int (1 : Int32)), .val (.int (1 : Int32)), .unset] [(.int (1 : Int32)), (.ref ib)])) rfl rfl (hb hby d5_15) _ ?_
        show Steps p.tables e below (s₁.setTop (mkF m 16 #[.val (.ref q), .val (.ref ra), .val (.ref ib), .val (.int cd), .val (.int (1 : Int32)), .val (.int (1 : Int32)), .unset] [(.int (0 : Int32))])) _
        refine XS.ifYes X0.here hx rfl (pc0 := 16) (pc' := 35) rfl (hb hby d5_16) rfl ((if0 _ _).trans (teq rfl).1) (by decide) (by decide) ?_
        show Steps p.tables e below (s₁.setTop (mkF m 35 #[.val (.ref q), .val (.ref ra), .val (.ref ib), .val (.int cd), .val (.int (1 : Int32)), .val (.int (1 : Int32)), .unset] [])) _
        refine XS.iload X0.here hx rfl (hb hby d5_35) rfl ?_
        show Steps p.tables e below (s₁.setTop (mkF m 37 #[.val (.ref q), .val (.ref ra), .val (.ref ib), .val (.int cd), .val (.int (1 : Int32)), .val (.int (1 : Int32)), .unset] [(.int (1 : Int32))])) _
        refine XS.ifYes X0.here hx rfl (pc0 := 37) (pc' := 51) rfl (hb hby d5_37) rfl ((if0 _ _).trans (feq (by decide)).2) (by decide) (by decide) ?_
        show Steps p.tables e below (s₁.setTop (mkF m 51 #[.val (.ref q), .val (.ref ra), .val (.ref ib), .val (.int cd), .val (.int (1 : Int32)), .val (.int (1 : Int32)), .unset] [])) _
        refine XS.aloadN X0.here hx rfl (hb hby d5_51) rfl rfl ?_
        show Steps p.tables e below (s₁.setTop (mkF m 52 #[.val (.ref q), .val (.ref ra), .val (.ref ib), .val (.int cd), .val (.int (1 : Int32)), .val (.int (1 : Int32)), .unset] [(.ref q)])) _
        refine XS.aloadN X0.here hx rfl (hb hby d5_52) rfl rfl ?_
        show Steps p.tables e below (s₁.setTop (mkF m 53 #[.val (.ref q), .val (.ref ra), .val (.ref ib), .val (.int cd), .val (.int (1 : Int32)), .val (.int (1 : Int32)), .unset] [(.ref ra), (.ref q)])) _
        refine XS.iload X0.here hx rfl (hb hby d5_53) rfl ?_
        show Steps p.tables e below (s₁.setTop (mkF m 55 #[.val (.ref q), .val (.ref ra), .val (.ref ib), .val (.int cd), .val (.int (1 : Int32)), .val (.int (1 : Int32)), .unset] [(.int (1 : Int32)), (.ref ra), (.ref q)])) _
        refine X0.aaload hx (j := (1 : Int32)) (v := (.ref tb)) (heq_of e0 Ar6.1) (State.isArrayOf_alike hZ.alike Ar6.2.1) rfl Ar6.2.2 hin6 hat6 (g := (mkF m 55 #[.val (.ref q), .val (.ref ra), .val (.ref ib), .val (.int cd), .val (.int (1 : Int32)), .val (.int (1 : Int32)), .unset] [(.int (1 : Int32)), (.ref ra), (.ref q)])) rfl rfl (hb hby d5_55) _ ?_
        show Steps p.tables e below (s₁.setTop (mkF m 56 #[.val (.ref q), .val (.ref ra), .val (.ref ib), .val (.int cd), .val (.int (1 : Int32)), .val (.int (1 : Int32)), .unset] [(.ref tb), (.ref q)])) _
        refine st7.trans ?_
        show Steps p.tables e below (T7.setTop (mkF m 59 #[.val (.ref q), .val (.ref ra), .val (.ref ib), .val (.int cd), .val (.int (1 : Int32)), .val (.int (1 : Int32)), .unset] [])) _
        refine XS.aloadN X7.here hx rfl (hb hby d5_59) rfl rfl ?_
        show Steps p.tables e below (T7.setTop (mkF m 60 #[.val (.ref q), .val (.ref ra), .val (.ref ib), .val (.int cd), .val (.int (1 : Int32)), .val (.int (1 : Int32)), .unset] [(.ref ib)])) _
        refine XS.iload X7.here hx rfl (hb hby d5_60) rfl ?_
        show Steps p.tables e below (T7.setTop (mkF m 62 #[.val (.ref q), .val (.ref ra), .val (.ref ib), .val (.int cd), .val (.int (1 : Int32)), .val (.int (1 : Int32)), .unset] [(.int (1 : Int32)), (.ref ib)])) _
        refine XS.iconst X7.here hx rfl (hb hby d5_62) ?_
        show Steps p.tables e below (T7.setTop (mkF m 63 #[.val (.ref q), .val (.ref ra), .val (.ref ib), .val (.int cd), .val (.int (1 : Int32)), .val (.int (1 : Int32)), .unset] [(.int (1 : Int32)), (.int (1 : Int32)), (.ref ib)])) _
        refine st24 _ ?_
        show Steps p.tables e below (T24.setTop (mkF m 64 #[.val (.ref q), .val (.ref ra), .val (.ref ib), .val (.int cd), .val (.int (1 : Int32)), .val (.int (1 : Int32)), .unset] [])) _
        refine XS.aloadN X24.here hx rfl (hb hby d5_64) rfl rfl ?_
        show Steps p.tables e below (T24.setTop (mkF m 65 #[.val (.ref q), .val (.ref ra), .val (.ref ib), .val (.int cd), .val (.int (1 : Int32)), .val (.int (1 : Int32)), .unset] [(.ref ib)])) _
        refine XS.iconst X24.here hx rfl (hb hby d5_65) ?_
        show Steps p.tables e below (T24.setTop (mkF m 66 #[.val (.ref q), .val (.ref ra), .val (.ref ib), .val (.int cd), .val (.int (1 : Int32)), .val (.int (1 : Int32)), .unset] [(.int (0 : Int32)), (.ref ib)])) _
        refine X24.baloadBooleans hx (j := (0 : Int32)) (v := (.int (1 : Int32))) (heq_of e24 Ar38.1) (State.isArrayOf_alike hZ.alike Ar38.2.1) Ar38.2.2 hin38 hat38 (g := (mkF m 66 #[.val (.ref q), .val (.ref ra), .val (.ref ib), .val (.int cd), .val (.int (1 : Int32)), .val (.int (1 : Int32)), .unset] [(.int (0 : Int32)), (.ref ib)])) rfl rfl (hb hby d5_66) _ ?_
        show Steps p.tables e below (T24.setTop (mkF m 67 #[.val (.ref q), .val (.ref ra), .val (.ref ib), .val (.int cd), .val (.int (1 : Int32)), .val (.int (1 : Int32)), .unset] [(.int (1 : Int32))])) _
        refine XS.ifYes X24.here hx rfl (pc0 := 67) (pc' := 80) rfl (hb hby d5_67) rfl ((if0 _ _).trans (feq (by decide)).2) (by decide) (by decide) ?_
        show Steps p.tables e below (T24.setTop (mkF m 80 #[.val (.ref q), .val (.ref ra), .val (.ref ib), .val (.int cd), .val (.int (1 : Int32)), .val (.int (1 : Int32)), .unset] [])) _
        refine XS.iconst X24.here hx rfl (hb hby d5_80) ?_
        show Steps p.tables e below (T24.setTop (mkF m 81 #[.val (.ref q), .val (.ref ra), .val (.ref ib), .val (.int cd), .val (.int (1 : Int32)), .val (.int (1 : Int32)), .unset] [(.int (0 : Int32))])) _
        refine XS.istore X24.here hx rfl (hb hby d5_81) rfl (l' := #[.val (.ref q), .val (.ref ra), .val (.ref ib), .val (.int cd), .val (.int (1 : Int32)), .val (.int (1 : Int32)), .val (.int (0 : Int32))]) rfl ?_
        show Steps p.tables e below (T24.setTop (mkF m 83 #[.val (.ref q), .val (.ref ra), .val (.ref ib), .val (.int cd), .val (.int (1 : Int32)), .val (.int (1 : Int32)), .val (.int (0 : Int32))] [])) _
        refine XS.aloadN X24.here hx rfl (hb hby d5_83) rfl rfl ?_
        show Steps p.tables e below (T24.setTop (mkF m 84 #[.val (.ref q), .val (.ref ra), .val (.ref ib), .val (.int cd), .val (.int (1 : Int32)), .val (.int (1 : Int32)), .val (.int (0 : Int32))] [(.ref q)])) _
        refine st39.trans ?_
        show Steps p.tables e below (T39.setTop (mkF m 87 #[.val (.ref q), .val (.ref ra), .val (.ref ib), .val (.int cd), .val (.int (1 : Int32)), .val (.int (1 : Int32)), .val (.int (0 : Int32))] [(.int (0 : Int32))])) _
        refine XS.iload X39.here hx rfl (hb hby d5_87) rfl ?_
        show Steps p.tables e below (T39.setTop (mkF m 89 #[.val (.ref q), .val (.ref ra), .val (.ref ib), .val (.int cd), .val (.int (1 : Int32)), .val (.int (1 : Int32)), .val (.int (0 : Int32))] [(.int (0 : Int32)), (.int (0 : Int32))])) _
        refine XS.icmpNo X39.here hx rfl (hb hby d5_89) rfl (teq rfl).2 ?_
        show Steps p.tables e below (T39.setTop (mkF m 92 #[.val (.ref q), .val (.ref ra), .val (.ref ib), .val (.int cd), .val (.int (1 : Int32)), .val (.int (1 : Int32)), .val (.int (0 : Int32))] [])) _
        refine XS.iconst X39.here hx rfl (hb hby d5_92) ?_
        show Steps p.tables e below (T39.setTop (mkF m 93 #[.val (.ref q), .val (.ref ra), .val (.ref ib), .val (.int cd), .val (.int (1 : Int32)), .val (.int (1 : Int32)), .val (.int (0 : Int32))] [(.int (1 : Int32))])) _
        refine XS.goto X39.here hx rfl (pc0 := 93) (pc' := 97) rfl (hb hby d5_93) (by decide) (by decide) ?_
        show Steps p.tables e below (T39.setTop (mkF m 97 #[.val (.ref q), .val (.ref ra), .val (.ref ib), .val (.int cd), .val (.int (1 : Int32)), .val (.int (1 : Int32)), .val (.int (0 : Int32))] [(.int (1 : Int32))])) _
        exact retN X39 hx (t := .boolean) Bd.returns (by simp) (hb hby d5_97) hr
      · show Q5_6 Z q ra ib cd ta tb ka kb h0 n0 _ T39.heap _
        rw [e39]
        exact ⟨rfl, N39, K37, F26, F27, F28, F29, F25, F30, F31, F34, F35, F32, F33⟩
theorem ef_5_7 (m : MethodId) (x0 : Addr) (x1 : Addr) (x2 : Addr) (x3 : Int32) : entryFrame m #[(.ref x0), (.ref x1), (.ref x2), (.int x3)] 7 = mkF m 0 #[.val (.ref x0), .val (.ref x1), .val (.ref x2), .val (.int x3), .unset, .unset, .unset] [] := by first | (simp [entryFrame, mkF, argsToLocals, Value.category]; done) | rfl
theorem own_split_5_7_5 (cd : Int32) (hk : (cd &&& (1 : Int32)) = (1 : Int32)) (v3 : Int32) (hv3 : v3 = (cd &&& (1 : Int32))) : v3 = (1 : Int32) := by rw [hv3]; exact hk
def Q5_7 (Z : State) (q : Addr) (ra : Addr) (ib : Addr) (cd : Int32) (ta : Addr) (tb : Addr) (ka : ClassId) (kb : ClassId) (h0 : Heap) (n0 : Nat) (v : Option Value) (h : Heap) (L : List Loc) : Prop := v = some (.int (1 : Int32)) ∧ Fr n0 L ∧ Keep h0 h [q, ta, tb, ib] ∧ Exa Z h q "com/example/evenkeel/evenkeel/TaskQueue" ∧ Exa Z h ta "com/example/evenkeel/evenkeel/QueuedTasks" ∧ Exa Z h tb "com/example/evenkeel/evenkeel/QueuedTasks" ∧ Arv Z h ra ka (.object "com/example/evenkeel/evenkeel/QueuedTasks") (2 : Int32) [(.ref ta), (.ref tb)] .null ∧ Arv Z h ib kb .boolean (2 : Int32) [(.int (0 : Int32)), (.int (0 : Int32))] (.int (0 : Int32)) ∧ Fld Z h q "com/example/evenkeel/evenkeel/TaskQueue" "first" "Lcom/example/evenkeel/evenkeel/QueuedTasks;" .null ∧ Fld Z h q "com/example/evenkeel/evenkeel/TaskQueue" "last" "Lcom/example/evenkeel/evenkeel/QueuedTasks;" .null ∧ Fld Z h ta "com/example/evenkeel/evenkeel/QueuedTasks" "before" "Lcom/example/evenkeel/evenkeel/QueuedTasks;" .null ∧ Fld Z h ta "com/example/evenkeel/evenkeel/QueuedTasks" "after" "Lcom/example/evenkeel/evenkeel/QueuedTasks;" .null ∧ Fld Z h tb "com/example/evenkeel/evenkeel/QueuedTasks" "before" "Lcom/example/evenkeel/evenkeel/QueuedTasks;" .null ∧ Fld Z h tb "com/example/evenkeel/evenkeel/QueuedTasks" "after" "Lcom/example/evenkeel/evenkeel/QueuedTasks;" .null
set_option maxRecDepth 65536 in
set_option maxHeartbeats 40000000 in
theorem rm5_7 (l : Launch) (Z : State) (a0 : Array Value) (hw : ∀ d ∈ tables_1, d.before a0 Z = true) (ws : List Jvm.Cond) (q : Addr) (ra : Addr) (ib : Addr) (cd : Int32) (ta : Addr) (tb : Addr) (ka : ClassId) (kb : ClassId) (h0 : Heap) (n0 : Nat) (Z0 : n0 ≤ h0.size) (I0 : Exa Z h0 q "com/example/evenkeel/evenkeel/TaskQueue") (I1 : Exa Z h0 ta "com/example/evenkeel/evenkeel/QueuedTasks") (I2 : Exa Z h0 tb "com/example/evenkeel/evenkeel/QueuedTasks") (I3 : Arv Z h0 ra ka (.object "com/example/evenkeel/evenkeel/QueuedTasks") (2 : Int32) [(.ref ta), (.ref tb)] .null) (I4 : Arv Z h0 ib kb .boolean (2 : Int32) [(.int (0 : Int32)), (.int (1 : Int32))] (.int (0 : Int32))) (I5 : Fld Z h0 q "com/example/evenkeel/evenkeel/TaskQueue" "first" "Lcom/example/evenkeel/evenkeel/QueuedTasks;" (.ref tb)) (I6 : Fld Z h0 q "com/example/evenkeel/evenkeel/TaskQueue" "last" "Lcom/example/evenkeel/evenkeel/QueuedTasks;" (.ref tb)) (I7 : Fld Z h0 ta "com/example/evenkeel/evenkeel/QueuedTasks" "before" "Lcom/example/evenkeel/evenkeel/QueuedTasks;" .null) (I8 : Fld Z h0 ta "com/example/evenkeel/evenkeel/QueuedTasks" "after" "Lcom/example/evenkeel/evenkeel/QueuedTasks;" .null) (I9 : Fld Z h0 tb "com/example/evenkeel/evenkeel/QueuedTasks" "before" "Lcom/example/evenkeel/evenkeel/QueuedTasks;" .null) (I10 : Fld Z h0 tb "com/example/evenkeel/evenkeel/QueuedTasks" "after" "Lcom/example/evenkeel/evenkeel/QueuedTasks;" .null) (g_q : n0 ≤ q) (g_ta : n0 ≤ ta) (g_tb : n0 ≤ tb) (g_ib : n0 ≤ ib) (ne_q_ta : q ≠ ta) (ne_q_tb : q ≠ tb) (ne_ta_tb : ta ≠ tb) (ne_ra_q : ra ≠ q) (ne_ra_ta : ra ≠ ta) (ne_ra_tb : ra ≠ tb) (ne_ib_q : ib ≠ q) (ne_ib_ta : ib ≠ ta) (ne_ib_tb : ib ≠ tb) (ne_ra_ib : ra ≠ ib) (hk : (cd &&& (1 : Int32)) = (1 : Int32)) :
    MetFree l (⟨"com/example/evenkeel/evenkeel/TaskQueueIsEmptyPinLaw", "step", "(Lcom/example/evenkeel/evenkeel/TaskQueue;[Lcom/example/evenkeel/evenkeel/QueuedTasks;[ZI)Z"⟩ : MethodName) (head1 (Jvm.Cond.code (⟨"com/example/evenkeel/evenkeel/TaskQueueIsEmptyPinLaw", "step", "(Lcom/example/evenkeel/evenkeel/TaskQueue;[Lcom/example/evenkeel/evenkeel/QueuedTasks;[ZI)Z"⟩ : MethodName) method_3_code 7 (some .boolean) :: ws) ({ frames := 1, cells := 0, slots := 0, locals := 13 } : Room)) (fun a U => a = #[(.ref q), (.ref ra), (.ref ib), (.int cd)] ∧ Z.Warmed39 U.vm ∧ U.heap = h0) (fun _ _ _ _ _ => True) (fun _ U o U' => ∃ v L, o = .returned v ∧ Q5_7 Z q ra ib cd ta tb ka kb h0 n0 v U'.heap L ∧ FrameEnd U o U' L ({ frames := 1, cells := 0, slots := 0, locals := 13 } : Room).cells ({ frames := 1, cells := 0, slots := 0, locals := 13 } : Room).slots) := by
  refine MetFree.of_bodySF (plainFor_of_name pn_5) hisR ?_
  intro p e s m args below meth c s₁ Bd hml0 hP hK
  obtain ⟨rfl, hZ, hh⟩ := hP
  have hx := Bd.exec
  have hby := Bd.bytes
  have hml : c.maxLocals = 7 := hml0
  have hown : s.vm.findClass "com/example/evenkeel/evenkeel/TaskQueueIsEmptyPinLaw" = some m.cls := findClass_of_methodNamed Bd.named
  have hnm := (name_of_methodNamed Bd.named Bd.method).1
  have X0 : Stand p l e ({ frames := 1, cells := 0, slots := 0, locals := 13 } : Room) s m #[(.ref q), (.ref ra), (.ref ib), (.int cd)] below meth c s₁ [] 0 0 := Stand.of_body Bd
  have e0 : s₁.heap = h0 := by rw [← hh, Bd.state]; rfl
  have N0 := Fr.nil n0
  have K0 : Keep h0 h0 [q, ta, tb, ib] := Keep.refl h0 _
  have pre0 : ∀ tq, Steps p.tables e below (s₁.setTop (mkF m 0 #[.val (.ref q), .val (.ref ra), .val (.ref ib), .val (.int cd), .unset, .unset, .unset] [])) tq → Steps p.tables e below (s₁.setTop (entryFrame m #[(.ref q), (.ref ra), (.ref ib), (.int cd)] 7)) tq := fun tq kq => castTop (ef_5_7 m q ra ib cd) kq
  obtain ⟨v3, hv3⟩ : ∃ z_q : Int32, z_q = (cd &&& (1 : Int32)) := ⟨_, rfl⟩
  have pre1 : ∀ tq, Steps p.tables e below (s₁.setTop (mkF m 5 #[.val (.ref q), .val (.ref ra), .val (.ref ib), .val (.int cd), .val (.int v3), .unset, .unset] [])) tq → Steps p.tables e below (s₁.setTop (entryFrame m #[(.ref q), (.ref ra), (.ref ib), (.int cd)] 7)) tq := by
    intro tq kt
    refine pre0 _ ?_
    show Steps p.tables e below (s₁.setTop (mkF m 0 #[.val (.ref q), .val (.ref ra), .val (.ref ib), .val (.int cd), .unset, .unset, .unset] [])) _
    refine XS.iloadN X0.here hx rfl (hb hby d5_0) rfl ?_
    show Steps p.tables e below (s₁.setTop (mkF m 1 #[.val (.ref q), .val (.ref ra), .val (.ref ib), .val (.int cd), .unset, .unset, .unset] [(.int cd)])) _
    refine XS.iconst X0.here hx rfl (hb hby d5_1) ?_
    show Steps p.tables e below (s₁.setTop (mkF m 2 #[.val (.ref q), .val (.ref ra), .val (.ref ib), .val (.int cd), .unset, .unset, .unset] [(.int (1 : Int32)), (.int cd)])) _
    refine XS.iand X0.here hx rfl (hb hby d5_2) rfl ?_
    show Steps p.tables e below (s₁.setTop (mkF m 3 #[.val (.ref q), .val (.ref ra), .val (.ref ib), .val (.int cd), .unset, .unset, .unset] [(.int (cd &&& (1 : Int32)))])) _
    refine XS.istore X0.here hx rfl (hb hby d5_3) rfl (l' := #[.val (.ref q), .val (.ref ra), .val (.ref ib), .val (.int cd), .val (.int v3), .unset, .unset]) (by rw [hv3]; rfl) ?_
    show Steps p.tables e below (s₁.setTop (mkF m 5 #[.val (.ref q), .val (.ref ra), .val (.ref ib), .val (.int cd), .val (.int v3), .unset, .unset] [])) _
    exact kt
  rcases (own_split_5_7_5 cd hk v3 hv3) with hs2
  · subst hs2
    obtain ⟨v10, hv10⟩ : ∃ z_q : Int32, z_q = (((cd.toUInt32 >>> ((1 : Int32) &&& 31).toUInt32).toInt32) &&& (1 : Int32)) := ⟨_, rfl⟩
    obtain ⟨cl3, Ar3, q3, S3, M3, H3, G3⟩ := id I4
    have hin3 : ¬ ((1 : Int32) < 0 ∨ cl3.slots.size ≤ ((1 : Int32)).toNatClampNeg) := inb_of S3 ⟨by decide, by decide⟩
    have hat3 : cl3.slots[((1 : Int32)).toNatClampNeg]? = some (.int (1 : Int32)) := Has.at H3 hin3 rfl
    obtain ⟨cl4, Ar4, q4, S4, M4, H4, G4⟩ := id I3
    have hin4 : ¬ ((1 : Int32) < 0 ∨ cl4.slots.size ≤ ((1 : Int32)).toNatClampNeg) := inb_of S4 ⟨by decide, by decide⟩
    have hat4 : cl4.slots[((1 : Int32)).toNatClampNeg]? = some (.ref tb) := Has.at H4 hin4 rfl
    obtain ⟨cq5, kq5, q5a, q5b, q5c⟩ := isOf hZ e0 I0
    obtain ⟨_, _, ⟨T5, L5, k5, n5⟩, -, X5, ⟨Lc5, hQ5, l5, y5, z5⟩, st5⟩ := X0.virtualBack hx (y := (⟨"com/example/evenkeel/evenkeel/TaskQueue", "remove", "(Lcom/example/evenkeel/evenkeel/QueuedTasks;)V"⟩ : MethodName)) (z := (⟨"com/example/evenkeel/evenkeel/TaskQueue", "remove", "(Lcom/example/evenkeel/evenkeel/QueuedTasks;)V"⟩ : MethodName)) hown (mvT hZ (hw _ (List.mem_of_getElem? (i := 58) rfl))) (mvT hZ (hw _ (List.mem_of_getElem? (i := 59) rfl))) (notFace_of_selects (args := #[]) (mvT hZ (hw _ (List.mem_of_getElem? (i := 61) rfl)))) (mvT hZ (hw _ (List.mem_of_getElem? (i := 61) rfl))) (mvT hZ (hw _ (List.mem_of_getElem? (i := 60) rfl))) (by decide) (backOf (W := 0) (rm8 l Z a0 hw [] q tb h0 n0 Z0 I5 I6 I9 I10 I0 I2 g_q g_tb ne_q_tb) hZ (hw _ (List.mem_of_getElem? (i := 62) rfl)) (hw _ (List.mem_of_getElem? (i := 2) rfl)) (by decide) (by decide)) q5a q5c (g := (mkF m 24 #[.val (.ref q), .val (.ref ra), .val (.ref ib), .val (.int cd), .val (.int (1 : Int32)), .val (.int v10), .unset] [(.ref tb), (.ref q)])) rfl (by rw [hml]; rfl) (Steps.refl _) (argsL := [(.ref tb)]) (rest := []) (lenOf pd_0 rfl) rfl (by show 2 * 0 + _ ≤ _; exact Nat.le_of_eq rfl) (hb hby d5_24) (fun _ _ => ⟨rfl, e0, (by decide : 0 + 0 ≤ _), (by decide : 0 + 0 ≤ _)⟩)
    dsimp only [Pt.U, Pt.locs, Pt.cells, Pt.slots] at X5 l5 y5 z5 st5 hQ5
    subst l5 y5 z5
    obtain ⟨rfl, N5q, K5q, F6, F7, F8, F9, F10, F11⟩ := hQ5
    have N5 := Fr.app N0 N5q
    have F12 : Exa Z T5.heap q "com/example/evenkeel/evenkeel/TaskQueue" := I0.keep K5q
    have F13 : Exa Z T5.heap ta "com/example/evenkeel/evenkeel/QueuedTasks" := I1.keep K5q
    have F14 : Exa Z T5.heap tb "com/example/evenkeel/evenkeel/QueuedTasks" := I2.keep K5q
    have F15 : Arv Z T5.heap ra ka (.object "com/example/evenkeel/evenkeel/QueuedTasks") (2 : Int32) [(.ref ta), (.ref tb)] .null := I3.keep K5q (ninS ne_ra_q (ninS ne_ra_tb nin0))
    have F16 : Arv Z T5.heap ib kb .boolean (2 : Int32) [(.int (0 : Int32)), (.int (1 : Int32))] (.int (0 : Int32)) := I4.keep K5q (ninS ne_ib_q (ninS ne_ib_tb nin0))
    have F17 : Fld Z T5.heap ta "com/example/evenkeel/evenkeel/QueuedTasks" "before" "Lcom/example/evenkeel/evenkeel/QueuedTasks;" .null := I7.keep K5q (ninS (Ne.symm ne_q_ta) (ninS ne_ta_tb nin0))
    have F18 : Fld Z T5.heap ta "com/example/evenkeel/evenkeel/QueuedTasks" "after" "Lcom/example/evenkeel/evenkeel/QueuedTasks;" .null := I8.keep K5q (ninS (Ne.symm ne_q_ta) (ninS ne_ta_tb nin0))
    have Z19 : n0 ≤ T5.heap.size := Nat.le_trans Z0 K5q.1
    have K20 : Keep h0 T5.heap [q, ta, tb, ib] := K0.trans K5q (allS (Or.inl (List.mem_of_getElem? (i := 0) rfl)) (allS (Or.inl (List.mem_of_getElem? (i := 2) rfl)) all0))
    obtain ⟨cl21, Ar21, q21, S21, M21, H21, G21⟩ := id F16
    have hin21 : ¬ ((1 : Int32) < 0 ∨ cl21.slots.size ≤ ((1 : Int32)).toNatClampNeg) := inb_of S21 ⟨by decide, by decide⟩
    obtain ⟨T21, hX21, X21, e21, W21, st21⟩ := stZ X5 hx hZ rfl Ar21 (j := (1 : Int32)) hin21 (g := (mkF m 31 #[.val (.ref q), .val (.ref ra), .val (.ref ib), .val (.int cd), .val (.int (1 : Int32)), .val (.int v10), .unset] [(.int (0 : Int32)), (.int (1 : Int32)), (.ref ib)])) rfl rfl (hb hby d5_31)
    have F22 : Arv Z hX21 ib kb .boolean (2 : Int32) [(.int (0 : Int32)), (.int (0 : Int32))] (.int (0 : Int32)) := Arv.set Ar21 q21 S21 M21 H21 G21 (fits_nar_bool _) W21 1 rfl (Nat.le_of_ble_eq_true rfl)
    have N21 := Fr.snoc X21 N5 g_ib
    have F23 : Exa Z hX21 q "com/example/evenkeel/evenkeel/TaskQueue" := F10.wr W21
    have F24 : Exa Z hX21 ta "com/example/evenkeel/evenkeel/QueuedTasks" := F13.wr W21
    have F25 : Exa Z hX21 tb "com/example/evenkeel/evenkeel/QueuedTasks" := F11.wr W21
    have F26 : Arv Z hX21 ra ka (.object "com/example/evenkeel/evenkeel/QueuedTasks") (2 : Int32) [(.ref ta), (.ref tb)] .null := F15.other W21 ne_ra_ib
    have F27 : Fld Z hX21 ta "com/example/evenkeel/evenkeel/QueuedTasks" "before" "Lcom/example/evenkeel/evenkeel/QueuedTasks;" .null := F17.other W21 (Or.inl (Ne.symm ne_ib_ta))
    have F28 : Fld Z hX21 ta "com/example/evenkeel/evenkeel/QueuedTasks" "after" "Lcom/example/evenkeel/evenkeel/QueuedTasks;" .null := F18.other W21 (Or.inl (Ne.symm ne_ib_ta))
    have F29 : Fld Z hX21 q "com/example/evenkeel/evenkeel/TaskQueue" "first" "Lcom/example/evenkeel/evenkeel/QueuedTasks;" .null := F6.other W21 (Or.inl (Ne.symm ne_ib_q))
    have F30 : Fld Z hX21 q "com/example/evenkeel/evenkeel/TaskQueue" "last" "Lcom/example/evenkeel/evenkeel/QueuedTasks;" .null := F7.other W21 (Or.inl (Ne.symm ne_ib_q))
    have F31 : Fld Z hX21 tb "com/example/evenkeel/evenkeel/QueuedTasks" "before" "Lcom/example/evenkeel/evenkeel/QueuedTasks;" .null := F8.other W21 (Or.inl (Ne.symm ne_ib_tb))
    have F32 : Fld Z hX21 tb "com/example/evenkeel/evenkeel/QueuedTasks" "after" "Lcom/example/evenkeel/evenkeel/QueuedTasks;" .null := F9.other W21 (Or.inl (Ne.symm ne_ib_tb))
    have Z33 : n0 ≤ hX21.size := Nat.le_trans Z19 (Keep.of_wr W21).1
    have K34 : Keep h0 hX21 [q, ta, tb, ib] := K20.wr W21 (Or.inl (List.mem_of_getElem? (i := 3) rfl))
    obtain ⟨cl35, Ar35, q35, S35, M35, H35, G35⟩ := id F22
    have hin35 : ¬ ((0 : Int32) < 0 ∨ cl35.slots.size ≤ ((0 : Int32)).toNatClampNeg) := inb_of S35 ⟨by decide, by decide⟩
    have hat35 : cl35.slots[((0 : Int32)).toNatClampNeg]? = some (.int (0 : Int32)) := Has.at H35 hin35 rfl
    obtain ⟨cl36, Ar36, q36, S36, M36, H36, G36⟩ := id F22
    have hin36 : ¬ ((1 : Int32) < 0 ∨ cl36.slots.size ≤ ((1 : Int32)).toNatClampNeg) := inb_of S36 ⟨by decide, by decide⟩
    have hat36 : cl36.slots[((1 : Int32)).toNatClampNeg]? = some (.int (0 : Int32)) := Has.at H36 hin36 rfl
    obtain ⟨cq37, kq37, q37a, q37b, q37c⟩ := isOf hZ e21 F23
    obtain ⟨_, _, ⟨T37, L37, k37, n37⟩, -, X37, ⟨Lc37, hQ37, l37, y37, z37⟩, st37⟩ := X21.virtualBack hx (y := (⟨"com/example/evenkeel/evenkeel/TaskQueue", "isEmpty", "()Z"⟩ : MethodName)) (z := (⟨"com/example/evenkeel/evenkeel/TaskQueue", "isEmpty", "()Z"⟩ : MethodName)) hown (mvT hZ (hw _ (List.mem_of_getElem? (i := 31) rfl))) (mvT hZ (hw _ (List.mem_of_getElem? (i := 32) rfl))) (notFace_of_selects (args := #[]) (mvT hZ (hw _ (List.mem_of_getElem? (i := 34) rfl)))) (mvT hZ (hw _ (List.mem_of_getElem? (i := 34) rfl))) (mvT hZ (hw _ (List.mem_of_getElem? (i := 33) rfl))) (by decide) (backOf (W := 0) (rm4 l Z a0 hw [] q hX21 n0 Z33 F29) hZ (hw _ (List.mem_of_getElem? (i := 35) rfl)) (hw _ (List.mem_of_getElem? (i := 2) rfl)) (by decide) (by decide)) q37a q37c (g := (mkF m 84 #[.val (.ref q), .val (.ref ra), .val (.ref ib), .val (.int cd), .val (.int (1 : Int32)), .val (.int v10), .val (.int (1 : Int32))] [(.ref q)])) rfl (by rw [hml]; rfl) (Steps.refl _) (argsL := []) (rest := []) (lenOf pd_1 rfl) rfl (by show 2 * 0 + _ ≤ _; exact Nat.le_of_eq rfl) (hb hby d5_84) (fun _ _ => ⟨rfl, e21, (by decide : 0 + 0 ≤ _), (by decide : 0 + 0 ≤ _)⟩)
    dsimp only [Pt.U, Pt.locs, Pt.cells, Pt.slots] at X37 l37 y37 z37 st37 hQ37
    subst l37 y37 z37
    obtain ⟨rfl, N37q, e37⟩ := hQ37
    have N37 := Fr.app N21 N37q
    obtain ⟨fs, hr, hrun, hended, hW, hsame⟩ := X37.leave (v := some (Value.int (1 : Int32))) (fun h => by rw [Bd.returns] at h; cases h)
    refine ⟨_, _, pre1 _ ?_, hrun, hended, _, _, rfl, ?_, ⟨_, rfl⟩, hW, hsame.mono (by decide) (by decide)⟩
    · skip
      show Steps p.tables e below (s₁.setTop (mkF m 5 #[.val (.ref q), .val (.ref ra), .val (.ref ib), .val (.int cd), .val (.int (1 : Int32)), .unset, .unset] [])) _
      refine XS.iloadN X0.here hx rfl (hb hby d5_5) rfl ?_
      show Steps p.tables e below (s₁.setTop (mkF m 6 #[.val (.ref q), .val (.ref ra), .val (.ref ib), .val (.int cd), .val (.int (1 : Int32)), .unset, .unset] [(.int cd)])) _
      refine XS.iconst X0.here hx rfl (hb hby d5_6) ?_
      show Steps p.tables e below (s₁.setTop (mkF m 7 #[.val (.ref q), .val (.ref ra), .val (.ref ib), .val (.int cd), .val (.int (1 : Int32)), .unset, .unset] [(.int (1 : Int32)), (.int cd)])) _
      refine XS.iushr X0.here hx rfl (hb hby d5_7) rfl ?_
      show Steps p.tables e below (s₁.setTop (mkF m 8 #[.val (.ref q), .val (.ref ra), .val (.ref ib), .val (.int cd), .val (.int (1 : Int32)), .unset, .unset] [(.int ((cd.toUInt32 >>> ((1 : Int32) &&& 31).toUInt32).toInt32))])) _
      refine XS.iconst X0.here hx rfl (hb hby d5_8) ?_
      show Steps p.tables e below (s₁.setTop (mkF m 9 #[.val (.ref q), .val (.ref ra), .val (.ref ib), .val (.int cd), .val (.int (1 : Int32)), .unset, .unset] [(.int (1 : Int32)), (.int ((cd.toUInt32 >>> ((1 : Int32) &&& 31).toUInt32).toInt32))])) _
      refine XS.iand X0.here hx rfl (hb hby d5_9) rfl ?_
      show Steps p.tables e below (s₁.setTop (mkF m 10 #[.val (.ref q), .val (.ref ra), .val (.ref ib), .val (.int cd), .val (.int (1 : Int32)), .unset, .unset] [(.int (((cd.toUInt32 >>> ((1 : Int32) &&& 31).toUInt32).toInt32) &&& (1 : Int32)))])) _
      refine XS.istore X0.here hx rfl (hb hby d5_10) rfl (l' := #[.val (.ref q), .val (.ref ra), .val (.ref ib), .val (.int cd), .val (.int (1 : Int32)), .val (.int v10), .unset]) (by rw [hv10]; rfl) ?_
      show Steps p.tables e below (s₁.setTop (mkF m 12 #[.val (.ref q), .val (.ref ra), .val (.ref ib), .val (.int cd), .val (.int (1 : Int32)), .val (.int v10), .unset] [])) _
      refine XS.aloadN X0.here hx rfl (hb hby d5_12) rfl rfl ?_
      show Steps p.tables e below (s₁.setTop (mkF m 13 #[.val (.ref q), .val (.ref ra), .val (.ref ib), .val (.int cd), .val (.int (1 : Int32)), .val (.int v10), .unset] [(.ref ib)])) _
      refine XS.iload X0.here hx rfl (hb hby d5_13) rfl ?_
      show Steps p.tables e below (s₁.setTop (mkF m 15 #[.val (.ref q), .val (.ref ra), .val (.ref ib), .val (.int cd), .val (.int (1 : Int32)), .val (.int v10), .unset] [(.int (1 : Int32)), (.ref ib)])) _
      refine X0.baloadBooleans hx (j := (1 : Int32)) (v := (.int (1 : Int32))) (heq_of e0 Ar3.1) (State.isArrayOf_alike hZ.alike Ar3.2.1) Ar3.2.2 hin3 hat3 (g := (mkF m 15 #[.val (.ref q), .val (.ref ra), .val (.ref ib), .val (.int cd), .val (.int (1 : Int32)), .val (.int v10), .unset] [(.int (1 : Int32)), (.ref ib)])) rfl rfl (hb hby d5_15) _ ?_
      show Steps p.tables e below (s₁.setTop (mkF m 16 #[.val (.ref q), .val (.ref ra), .val (.ref ib), .val (.int cd), .val (.int (1 : Int32)), .val (.int v10), .unset] [(.int (1 : Int32))])) _
      refine XS.ifNo X0.here hx rfl (hb hby d5_16) rfl ((if0 _ _).trans (feq (by decide)).1) ?_
      show Steps p.tables e below (s₁.setTop (mkF m 19 #[.val (.ref q), .val (.ref ra), .val (.ref ib), .val (.int cd), .val (.int (1 : Int32)), .val (.int v10), .unset] [])) _
      refine XS.aloadN X0.here hx rfl (hb hby d5_19) rfl rfl ?_
      show Steps p.tables e below (s₁.setTop (mkF m 20 #[.val (.ref q), .val (.ref ra), .val (.ref ib), .val (.int cd), .val (.int (1 : Int32)), .val (.int v10), .unset] [(.ref q)])) _
      refine XS.aloadN X0.here hx rfl (hb hby d5_20) rfl rfl ?_
      show Steps p.tables e below (s₁.setTop (mkF m 21 #[.val (.ref q), .val (.ref ra), .val (.ref ib), .val (.int cd), .val (.int (1 : Int32)), .val (.int v10), .unset] [(.ref ra), (.ref q)])) _
      refine XS.iload X0.here hx rfl (hb hby d5_21) rfl ?_
      show Steps p.tables e below (s₁.setTop (mkF m 23 #[.val (.ref q), .val (.ref ra), .val (.ref ib), .val (.int cd), .val (.int (1 : Int32)), .val (.int v10), .unset] [(.int (1 : Int32)), (.ref ra), (.ref q)])) _
      refine X0.aaload hx (j := (1 : Int32)) (v := (.ref tb)) (heq_of e0 Ar4.1) (State.isArrayOf_alike hZ.alike Ar4.2.1) rfl Ar4.2.2 hin4 hat4 (g := (mkF m 23 #[.val (.ref q), .val (.ref ra), .val (.ref ib), .val (.int cd), .val (.int (1 : Int32)), .val (.int v10), .unset] [(.int (1 : Int32)), (.ref ra), (.ref q)])) rfl rfl (hb hby d5_23) _ ?_
      show Steps p.tables e below (s₁.setTop (mkF m 24 #[.val (.ref q), .val (.ref ra), .val (.ref ib), .val (.int cd), .val (.int (1 : Int32)), .val (.int v10), .unset] [(.ref tb), (.ref q)])) _
      refine st5.trans ?_
      show Steps p.tables e below (T5.setTop (mkF m 27 #[.val (.ref q), .val (.ref ra), .val (.ref ib), .val (.int cd), .val (.int (1 : Int32)), .val (.int v10), .unset] [])) _
      refine XS.aloadN X5.here hx rfl (hb hby d5_27) rfl rfl ?_
      show Steps p.tables e below (T5.setTop (mkF m 28 #[.val (.ref q), .val (.ref ra), .val (.ref ib), .val (.int cd), .val (.int (1 : Int32)), .val (.int v10), .unset] [(.ref ib)])) _
      refine XS.iload X5.here hx rfl (hb hby d5_28) rfl ?_
      show Steps p.tables e below (T5.setTop (mkF m 30 #[.val (.ref q), .val (.ref ra), .val (.ref ib), .val (.int cd), .val (.int (1 : Int32)), .val (.int v10), .unset] [(.int (1 : Int32)), (.ref ib)])) _
      refine XS.iconst X5.here hx rfl (hb hby d5_30) ?_
      show Steps p.tables e below (T5.setTop (mkF m 31 #[.val (.ref q), .val (.ref ra), .val (.ref ib), .val (.int cd), .val (.int (1 : Int32)), .val (.int v10), .unset] [(.int (0 : Int32)), (.int (1 : Int32)), (.ref ib)])) _
      refine st21 _ ?_
      show Steps p.tables e below (T21.setTop (mkF m 32 #[.val (.ref q), .val (.ref ra), .val (.ref ib), .val (.int cd), .val (.int (1 : Int32)), .val (.int v10), .unset] [])) _
      refine XS.goto X21.here hx rfl (pc0 := 32) (pc' := 64) rfl (hb hby d5_32) (by decide) (by decide) ?_
      show Steps p.tables e below (T21.setTop (mkF m 64 #[.val (.ref q), .val (.ref ra), .val (.ref ib), .val (.int cd), .val (.int (1 : Int32)), .val (.int v10), .unset] [])) _
      refine XS.aloadN X21.here hx rfl (hb hby d5_64) rfl rfl ?_
      show Steps p.tables e below (T21.setTop (mkF m 65 #[.val (.ref q), .val (.ref ra), .val (.ref ib), .val (.int cd), .val (.int (1 : Int32)), .val (.int v10), .unset] [(.ref ib)])) _
      refine XS.iconst X21.here hx rfl (hb hby d5_65) ?_
      show Steps p.tables e below (T21.setTop (mkF m 66 #[.val (.ref q), .val (.ref ra), .val (.ref ib), .val (.int cd), .val (.int (1 : Int32)), .val (.int v10), .unset] [(.int (0 : Int32)), (.ref ib)])) _
      refine X21.baloadBooleans hx (j := (0 : Int32)) (v := (.int (0 : Int32))) (heq_of e21 Ar35.1) (State.isArrayOf_alike hZ.alike Ar35.2.1) Ar35.2.2 hin35 hat35 (g := (mkF m 66 #[.val (.ref q), .val (.ref ra), .val (.ref ib), .val (.int cd), .val (.int (1 : Int32)), .val (.int v10), .unset] [(.int (0 : Int32)), (.ref ib)])) rfl rfl (hb hby d5_66) _ ?_
      show Steps p.tables e below (T21.setTop (mkF m 67 #[.val (.ref q), .val (.ref ra), .val (.ref ib), .val (.int cd), .val (.int (1 : Int32)), .val (.int v10), .unset] [(.int (0 : Int32))])) _
      refine XS.ifNo X21.here hx rfl (hb hby d5_67) rfl ((if0 _ _).trans (teq rfl).2) ?_
      show Steps p.tables e below (T21.setTop (mkF m 70 #[.val (.ref q), .val (.ref ra), .val (.ref ib), .val (.int cd), .val (.int (1 : Int32)), .val (.int v10), .unset] [])) _
      refine XS.aloadN X21.here hx rfl (hb hby d5_70) rfl rfl ?_
      show Steps p.tables e below (T21.setTop (mkF m 71 #[.val (.ref q), .val (.ref ra), .val (.ref ib), .val (.int cd), .val (.int (1 : Int32)), .val (.int v10), .unset] [(.ref ib)])) _
      refine XS.iconst X21.here hx rfl (hb hby d5_71) ?_
      show Steps p.tables e below (T21.setTop (mkF m 72 #[.val (.ref q), .val (.ref ra), .val (.ref ib), .val (.int cd), .val (.int (1 : Int32)), .val (.int v10), .unset] [(.int (1 : Int32)), (.ref ib)])) _
      refine X21.baloadBooleans hx (j := (1 : Int32)) (v := (.int (0 : Int32))) (heq_of e21 Ar36.1) (State.isArrayOf_alike hZ.alike Ar36.2.1) Ar36.2.2 hin36 hat36 (g := (mkF m 72 #[.val (.ref q), .val (.ref ra), .val (.ref ib), .val (.int cd), .val (.int (1 : Int32)), .val (.int v10), .unset] [(.int (1 : Int32)), (.ref ib)])) rfl rfl (hb hby d5_72) _ ?_
      show Steps p.tables e below (T21.setTop (mkF m 73 #[.val (.ref q), .val (.ref ra), .val (.ref ib), .val (.int cd), .val (.int (1 : Int32)), .val (.int v10), .unset] [(.int (0 : Int32))])) _
      refine XS.ifNo X21.here hx rfl (hb hby d5_73) rfl ((if0 _ _).trans (teq rfl).2) ?_
      show Steps p.tables e below (T21.setTop (mkF m 76 #[.val (.ref q), .val (.ref ra), .val (.ref ib), .val (.int cd), .val (.int (1 : Int32)), .val (.int v10), .unset] [])) _
      refine XS.iconst X21.here hx rfl (hb hby d5_76) ?_
      show Steps p.tables e below (T21.setTop (mkF m 77 #[.val (.ref q), .val (.ref ra), .val (.ref ib), .val (.int cd), .val (.int (1 : Int32)), .val (.int v10), .unset] [(.int (1 : Int32))])) _
      refine XS.goto X21.here hx rfl (pc0 := 77) (pc' := 81) rfl (hb hby d5_77) (by decide) (by decide) ?_
      show Steps p.tables e below (T21.setTop (mkF m 81 #[.val (.ref q), .val (.ref ra), .val (.ref ib), .val (.int cd), .val (.int (1 : Int32)), .val (.int v10), .unset] [(.int (1 : Int32))])) _
      refine XS.istore X21.here hx rfl (hb hby d5_81) rfl (l' := #[.val (.ref q), .val (.ref ra), .val (.ref ib), .val (.int cd), .val (.int (1 : Int32)), .val (.int v10), .val (.int (1 : Int32))]) rfl ?_
      show Steps p.tables e below (T21.setTop (mkF m 83 #[.val (.ref q), .val (.ref ra), .val (.ref ib), .val (.int cd), .val (.int (1 : Int32)), .val (.int v10), .val (.int (1 : Int32))] [])) _
      refine XS.aloadN X21.here hx rfl (hb hby d5_83) rfl rfl ?_
      show Steps p.tables e below (T21.setTop (mkF m 84 #[.val (.ref q), .val (.ref ra), .val (.ref ib), .val (.int cd), .val (.int (1 : Int32)), .val (.int v10), .val (.int (1 : Int32))] [(.ref q)])) _
      refine st37.trans ?_
      show Steps p.tables e below (T37.setTop (mkF m 87 #[.val (.ref q), .val (.ref ra), .val (.ref ib), .val (.int cd), .val (.int (1 : Int32)), .val (.int v10), .val (.int (1 : Int32))] [(.int (1 : Int32))])) _
      refine XS.iload X37.here hx rfl (hb hby d5_87) rfl ?_
      show Steps p.tables e below (T37.setTop (mkF m 89 #[.val (.ref q), .val (.ref ra), .val (.ref ib), .val (.int cd), .val (.int (1 : Int32)), .val (.int v10), .val (.int (1 : Int32))] [(.int (1 : Int32)), (.int (1 : Int32))])) _
      refine XS.icmpNo X37.here hx rfl (hb hby d5_89) rfl (teq rfl).2 ?_
      show Steps p.tables e below (T37.setTop (mkF m 92 #[.val (.ref q), .val (.ref ra), .val (.ref ib), .val (.int cd), .val (.int (1 : Int32)), .val (.int v10), .val (.int (1 : Int32))] [])) _
      refine XS.iconst X37.here hx rfl (hb hby d5_92) ?_
      show Steps p.tables e below (T37.setTop (mkF m 93 #[.val (.ref q), .val (.ref ra), .val (.ref ib), .val (.int cd), .val (.int (1 : Int32)), .val (.int v10), .val (.int (1 : Int32))] [(.int (1 : Int32))])) _
      refine XS.goto X37.here hx rfl (pc0 := 93) (pc' := 97) rfl (hb hby d5_93) (by decide) (by decide) ?_
      show Steps p.tables e below (T37.setTop (mkF m 97 #[.val (.ref q), .val (.ref ra), .val (.ref ib), .val (.int cd), .val (.int (1 : Int32)), .val (.int v10), .val (.int (1 : Int32))] [(.int (1 : Int32))])) _
      exact retN X37 hx (t := .boolean) Bd.returns (by simp) (hb hby d5_97) hr
    · show Q5_7 Z q ra ib cd ta tb ka kb h0 n0 _ T37.heap _
      rw [e37]
      exact ⟨rfl, N37, K34, F23, F24, F25, F26, F22, F29, F30, F27, F28, F31, F32⟩
theorem ef_5_8 (m : MethodId) (x0 : Addr) (x1 : Addr) (x2 : Addr) (x3 : Int32) : entryFrame m #[(.ref x0), (.ref x1), (.ref x2), (.int x3)] 7 = mkF m 0 #[.val (.ref x0), .val (.ref x1), .val (.ref x2), .val (.int x3), .unset, .unset, .unset] [] := by first | (simp [entryFrame, mkF, argsToLocals, Value.category]; done) | rfl
theorem own_split_5_8_5 (cd : Int32) (hk : (cd &&& (1 : Int32)) = (0 : Int32)) (hd : ((cd.toUInt32 >>> ((1 : Int32) &&& 31).toUInt32).toInt32 &&& (1 : Int32)) = (0 : Int32)) (v3 : Int32) (hv3 : v3 = (cd &&& (1 : Int32))) : v3 = (0 : Int32) := by rw [hv3]; exact hk
theorem own_split_5_8_12_s0 (cd : Int32) (hk : (cd &&& (1 : Int32)) = (0 : Int32)) (hd : ((cd.toUInt32 >>> ((1 : Int32) &&& 31).toUInt32).toInt32 &&& (1 : Int32)) = (0 : Int32)) (hv3 : (0 : Int32) = (cd &&& (1 : Int32))) (v10 : Int32) (hv10 : v10 = (((cd.toUInt32 >>> ((1 : Int32) &&& 31).toUInt32).toInt32) &&& (1 : Int32))) : v10 = (0 : Int32) := by rw [hv10]; exact hd
def Q5_8 (Z : State) (q : Addr) (ra : Addr) (ib : Addr) (cd : Int32) (ta : Addr) (tb : Addr) (ka : ClassId) (kb : ClassId) (h0 : Heap) (n0 : Nat) (v : Option Value) (h : Heap) (L : List Loc) : Prop := v = some (.int (1 : Int32)) ∧ Fr n0 L ∧ Keep h0 h [q, ta, tb, ib] ∧ Exa Z h q "com/example/evenkeel/evenkeel/TaskQueue" ∧ Exa Z h ta "com/example/evenkeel/evenkeel/QueuedTasks" ∧ Exa Z h tb "com/example/evenkeel/evenkeel/QueuedTasks" ∧ Arv Z h ra ka (.object "com/example/evenkeel/evenkeel/QueuedTasks") (2 : Int32) [(.ref ta), (.ref tb)] .null ∧ Arv Z h ib kb .boolean (2 : Int32) [(.int (1 : Int32)), (.int (1 : Int32))] (.int (0 : Int32)) ∧ Fld Z h q "com/example/evenkeel/evenkeel/TaskQueue" "first" "Lcom/example/evenkeel/evenkeel/QueuedTasks;" (.ref ta) ∧ Fld Z h q "com/example/evenkeel/evenkeel/TaskQueue" "last" "Lcom/example/evenkeel/evenkeel/QueuedTasks;" (.ref tb) ∧ Fld Z h ta "com/example/evenkeel/evenkeel/QueuedTasks" "before" "Lcom/example/evenkeel/evenkeel/QueuedTasks;" .null ∧ Fld Z h ta "com/example/evenkeel/evenkeel/QueuedTasks" "after" "Lcom/example/evenkeel/evenkeel/QueuedTasks;" (.ref tb) ∧ Fld Z h tb "com/example/evenkeel/evenkeel/QueuedTasks" "before" "Lcom/example/evenkeel/evenkeel/QueuedTasks;" (.ref ta) ∧ Fld Z h tb "com/example/evenkeel/evenkeel/QueuedTasks" "after" "Lcom/example/evenkeel/evenkeel/QueuedTasks;" .null
set_option maxRecDepth 65536 in
set_option maxHeartbeats 40000000 in
theorem rm5_8 (l : Launch) (Z : State) (a0 : Array Value) (hw : ∀ d ∈ tables_1, d.before a0 Z = true) (ws : List Jvm.Cond) (q : Addr) (ra : Addr) (ib : Addr) (cd : Int32) (ta : Addr) (tb : Addr) (ka : ClassId) (kb : ClassId) (h0 : Heap) (n0 : Nat) (Z0 : n0 ≤ h0.size) (I0 : Exa Z h0 q "com/example/evenkeel/evenkeel/TaskQueue") (I1 : Exa Z h0 ta "com/example/evenkeel/evenkeel/QueuedTasks") (I2 : Exa Z h0 tb "com/example/evenkeel/evenkeel/QueuedTasks") (I3 : Arv Z h0 ra ka (.object "com/example/evenkeel/evenkeel/QueuedTasks") (2 : Int32) [(.ref ta), (.ref tb)] .null) (I4 : Arv Z h0 ib kb .boolean (2 : Int32) [(.int (0 : Int32)), (.int (1 : Int32))] (.int (0 : Int32))) (I5 : Fld Z h0 q "com/example/evenkeel/evenkeel/TaskQueue" "first" "Lcom/example/evenkeel/evenkeel/QueuedTasks;" (.ref tb)) (I6 : Fld Z h0 q "com/example/evenkeel/evenkeel/TaskQueue" "last" "Lcom/example/evenkeel/evenkeel/QueuedTasks;" (.ref tb)) (I7 : Fld Z h0 ta "com/example/evenkeel/evenkeel/QueuedTasks" "before" "Lcom/example/evenkeel/evenkeel/QueuedTasks;" .null) (I8 : Fld Z h0 ta "com/example/evenkeel/evenkeel/QueuedTasks" "after" "Lcom/example/evenkeel/evenkeel/QueuedTasks;" .null) (I9 : Fld Z h0 tb "com/example/evenkeel/evenkeel/QueuedTasks" "before" "Lcom/example/evenkeel/evenkeel/QueuedTasks;" .null) (I10 : Fld Z h0 tb "com/example/evenkeel/evenkeel/QueuedTasks" "after" "Lcom/example/evenkeel/evenkeel/QueuedTasks;" .null) (g_q : n0 ≤ q) (g_ta : n0 ≤ ta) (g_tb : n0 ≤ tb) (g_ib : n0 ≤ ib) (ne_q_ta : q ≠ ta) (ne_q_tb : q ≠ tb) (ne_ta_tb : ta ≠ tb) (ne_ra_q : ra ≠ q) (ne_ra_ta : ra ≠ ta) (ne_ra_tb : ra ≠ tb) (ne_ib_q : ib ≠ q) (ne_ib_ta : ib ≠ ta) (ne_ib_tb : ib ≠ tb) (ne_ra_ib : ra ≠ ib) (hk : (cd &&& (1 : Int32)) = (0 : Int32)) (hd : ((cd.toUInt32 >>> ((1 : Int32) &&& 31).toUInt32).toInt32 &&& (1 : Int32)) = (0 : Int32)) :
    MetFree l (⟨"com/example/evenkeel/evenkeel/TaskQueueIsEmptyPinLaw", "step", "(Lcom/example/evenkeel/evenkeel/TaskQueue;[Lcom/example/evenkeel/evenkeel/QueuedTasks;[ZI)Z"⟩ : MethodName) (head1 (Jvm.Cond.code (⟨"com/example/evenkeel/evenkeel/TaskQueueIsEmptyPinLaw", "step", "(Lcom/example/evenkeel/evenkeel/TaskQueue;[Lcom/example/evenkeel/evenkeel/QueuedTasks;[ZI)Z"⟩ : MethodName) method_3_code 7 (some .boolean) :: ws) ({ frames := 1, cells := 0, slots := 0, locals := 13 } : Room)) (fun a U => a = #[(.ref q), (.ref ra), (.ref ib), (.int cd)] ∧ Z.Warmed39 U.vm ∧ U.heap = h0) (fun _ _ _ _ _ => True) (fun _ U o U' => ∃ v L, o = .returned v ∧ Q5_8 Z q ra ib cd ta tb ka kb h0 n0 v U'.heap L ∧ FrameEnd U o U' L ({ frames := 1, cells := 0, slots := 0, locals := 13 } : Room).cells ({ frames := 1, cells := 0, slots := 0, locals := 13 } : Room).slots) := by
  refine MetFree.of_bodySF (plainFor_of_name pn_5) hisR ?_
  intro p e s m args below meth c s₁ Bd hml0 hP hK
  obtain ⟨rfl, hZ, hh⟩ := hP
  have hx := Bd.exec
  have hby := Bd.bytes
  have hml : c.maxLocals = 7 := hml0
  have hown : s.vm.findClass "com/example/evenkeel/evenkeel/TaskQueueIsEmptyPinLaw" = some m.cls := findClass_of_methodNamed Bd.named
  have hnm := (name_of_methodNamed Bd.named Bd.method).1
  have X0 : Stand p l e ({ frames := 1, cells := 0, slots := 0, locals := 13 } : Room) s m #[(.ref q), (.ref ra), (.ref ib), (.int cd)] below meth c s₁ [] 0 0 := Stand.of_body Bd
  have e0 : s₁.heap = h0 := by rw [← hh, Bd.state]; rfl
  have N0 := Fr.nil n0
  have K0 : Keep h0 h0 [q, ta, tb, ib] := Keep.refl h0 _
  have pre0 : ∀ tq, Steps p.tables e below (s₁.setTop (mkF m 0 #[.val (.ref q), .val (.ref ra), .val (.ref ib), .val (.int cd), .unset, .unset, .unset] [])) tq → Steps p.tables e below (s₁.setTop (entryFrame m #[(.ref q), (.ref ra), (.ref ib), (.int cd)] 7)) tq := fun tq kq => castTop (ef_5_8 m q ra ib cd) kq
  obtain ⟨v3, hv3⟩ : ∃ z_q : Int32, z_q = (cd &&& (1 : Int32)) := ⟨_, rfl⟩
  have pre1 : ∀ tq, Steps p.tables e below (s₁.setTop (mkF m 5 #[.val (.ref q), .val (.ref ra), .val (.ref ib), .val (.int cd), .val (.int v3), .unset, .unset] [])) tq → Steps p.tables e below (s₁.setTop (entryFrame m #[(.ref q), (.ref ra), (.ref ib), (.int cd)] 7)) tq := by
    intro tq kt
    refine pre0 _ ?_
    show Steps p.tables e below (s₁.setTop (mkF m 0 #[.val (.ref q), .val (.ref ra), .val (.ref ib), .val (.int cd), .unset, .unset, .unset] [])) _
    refine XS.iloadN X0.here hx rfl (hb hby d5_0) rfl ?_
    show Steps p.tables e below (s₁.setTop (mkF m 1 #[.val (.ref q), .val (.ref ra), .val (.ref ib), .val (.int cd), .unset, .unset, .unset] [(.int cd)])) _
    refine XS.iconst X0.here hx rfl (hb hby d5_1) ?_
    show Steps p.tables e below (s₁.setTop (mkF m 2 #[.val (.ref q), .val (.ref ra), .val (.ref ib), .val (.int cd), .unset, .unset, .unset] [(.int (1 : Int32)), (.int cd)])) _
    refine XS.iand X0.here hx rfl (hb hby d5_2) rfl ?_
    show Steps p.tables e below (s₁.setTop (mkF m 3 #[.val (.ref q), .val (.ref ra), .val (.ref ib), .val (.int cd), .unset, .unset, .unset] [(.int (cd &&& (1 : Int32)))])) _
    refine XS.istore X0.here hx rfl (hb hby d5_3) rfl (l' := #[.val (.ref q), .val (.ref ra), .val (.ref ib), .val (.int cd), .val (.int v3), .unset, .unset]) (by rw [hv3]; rfl) ?_
    show Steps p.tables e below (s₁.setTop (mkF m 5 #[.val (.ref q), .val (.ref ra), .val (.ref ib), .val (.int cd), .val (.int v3), .unset, .unset] [])) _
    exact kt
  rcases (own_split_5_8_5 cd hk hd v3 hv3) with hs2
  · subst hs2
    obtain ⟨v10, hv10⟩ : ∃ z_q : Int32, z_q = (((cd.toUInt32 >>> ((1 : Int32) &&& 31).toUInt32).toInt32) &&& (1 : Int32)) := ⟨_, rfl⟩
    have pre3 : ∀ tq, Steps p.tables e below (s₁.setTop (mkF m 12 #[.val (.ref q), .val (.ref ra), .val (.ref ib), .val (.int cd), .val (.int (0 : Int32)), .val (.int v10), .unset] [])) tq → Steps p.tables e below (s₁.setTop (entryFrame m #[(.ref q), (.ref ra), (.ref ib), (.int cd)] 7)) tq := by
      intro tq kt
      refine pre1 _ ?_
      show Steps p.tables e below (s₁.setTop (mkF m 5 #[.val (.ref q), .val (.ref ra), .val (.ref ib), .val (.int cd), .val (.int (0 : Int32)), .unset, .unset] [])) _
      refine XS.iloadN X0.here hx rfl (hb hby d5_5) rfl ?_
      show Steps p.tables e below (s₁.setTop (mkF m 6 #[.val (.ref q), .val (.ref ra), .val (.ref ib), .val (.int cd), .val (.int (0 : Int32)), .unset, .unset] [(.int cd)])) _
      refine XS.iconst X0.here hx rfl (hb hby d5_6) ?_
      show Steps p.tables e below (s₁.setTop (mkF m 7 #[.val (.ref q), .val (.ref ra), .val (.ref ib), .val (.int cd), .val (.int (0 : Int32)), .unset, .unset] [(.int (1 : Int32)), (.int cd)])) _
      refine XS.iushr X0.here hx rfl (hb hby d5_7) rfl ?_
      show Steps p.tables e below (s₁.setTop (mkF m 8 #[.val (.ref q), .val (.ref ra), .val (.ref ib), .val (.int cd), .val (.int (0 : Int32)), .unset, .unset] [(.int ((cd.toUInt32 >>> ((1 : Int32) &&& 31).toUInt32).toInt32))])) _
      refine XS.iconst X0.here hx rfl (hb hby d5_8) ?_
      show Steps p.tables e below (s₁.setTop (mkF m 9 #[.val (.ref q), .val (.ref ra), .val (.ref ib), .val (.int cd), .val (.int (0 : Int32)), .unset, .unset] [(.int (1 : Int32)), (.int ((cd.toUInt32 >>> ((1 : Int32) &&& 31).toUInt32).toInt32))])) _
      refine XS.iand X0.here hx rfl (hb hby d5_9) rfl ?_
      show Steps p.tables e below (s₁.setTop (mkF m 10 #[.val (.ref q), .val (.ref ra), .val (.ref ib), .val (.int cd), .val (.int (0 : Int32)), .unset, .unset] [(.int (((cd.toUInt32 >>> ((1 : Int32) &&& 31).toUInt32).toInt32) &&& (1 : Int32)))])) _
      refine XS.istore X0.here hx rfl (hb hby d5_10) rfl (l' := #[.val (.ref q), .val (.ref ra), .val (.ref ib), .val (.int cd), .val (.int (0 : Int32)), .val (.int v10), .unset]) (by rw [hv10]; rfl) ?_
      show Steps p.tables e below (s₁.setTop (mkF m 12 #[.val (.ref q), .val (.ref ra), .val (.ref ib), .val (.int cd), .val (.int (0 : Int32)), .val (.int v10), .unset] [])) _
      exact kt
    rcases (own_split_5_8_12_s0 cd hk hd hv3 v10 hv10) with hs4
    · subst hs4
      obtain ⟨cl5, Ar5, q5, S5, M5, H5, G5⟩ := id I4
      have hin5 : ¬ ((0 : Int32) < 0 ∨ cl5.slots.size ≤ ((0 : Int32)).toNatClampNeg) := inb_of S5 ⟨by decide, by decide⟩
      have hat5 : cl5.slots[((0 : Int32)).toNatClampNeg]? = some (.int (0 : Int32)) := Has.at H5 hin5 rfl
      obtain ⟨cl6, Ar6, q6, S6, M6, H6, G6⟩ := id I3
      have hin6 : ¬ ((0 : Int32) < 0 ∨ cl6.slots.size ≤ ((0 : Int32)).toNatClampNeg) := inb_of S6 ⟨by decide, by decide⟩
      have hat6 : cl6.slots[((0 : Int32)).toNatClampNeg]? = some (.ref ta) := Has.at H6 hin6 rfl
      obtain ⟨cq7, kq7, q7a, q7b, q7c⟩ := isOf hZ e0 I0
      obtain ⟨_, _, ⟨T7, L7, k7, n7⟩, -, X7, ⟨Lc7, hQ7, l7, y7, z7⟩, st7⟩ := X0.virtualBack hx (y := (⟨"com/example/evenkeel/evenkeel/TaskQueue", "addFirst", "(Lcom/example/evenkeel/evenkeel/QueuedTasks;)V"⟩ : MethodName)) (z := (⟨"com/example/evenkeel/evenkeel/TaskQueue", "addFirst", "(Lcom/example/evenkeel/evenkeel/QueuedTasks;)V"⟩ : MethodName)) hown (mvT hZ (hw _ (List.mem_of_getElem? (i := 42) rfl))) (mvT hZ (hw _ (List.mem_of_getElem? (i := 43) rfl))) (notFace_of_selects (args := #[]) (mvT hZ (hw _ (List.mem_of_getElem? (i := 45) rfl)))) (mvT hZ (hw _ (List.mem_of_getElem? (i := 45) rfl))) (mvT hZ (hw _ (List.mem_of_getElem? (i := 44) rfl))) (by decide) (backOf (W := 0) (rm6_1 l Z a0 hw [] q ta tb h0 n0 Z0 I5 I6 I7 I8 I9 I10 I2 I0 I1 g_q g_ta g_tb ne_q_ta ne_q_tb ne_ta_tb) hZ (hw _ (List.mem_of_getElem? (i := 46) rfl)) (hw _ (List.mem_of_getElem? (i := 2) rfl)) (by decide) (by decide)) q7a q7c (g := (mkF m 45 #[.val (.ref q), .val (.ref ra), .val (.ref ib), .val (.int cd), .val (.int (0 : Int32)), .val (.int (0 : Int32)), .unset] [(.ref ta), (.ref q)])) rfl (by rw [hml]; rfl) (Steps.refl _) (argsL := [(.ref ta)]) (rest := []) (lenOf pd_0 rfl) rfl (by show 2 * 0 + _ ≤ _; exact Nat.le_of_eq rfl) (hb hby d5_45) (fun _ _ => ⟨rfl, e0, (by decide : 0 + 0 ≤ _), (by decide : 0 + 0 ≤ _)⟩)
      dsimp only [Pt.U, Pt.locs, Pt.cells, Pt.slots] at X7 l7 y7 z7 st7 hQ7
      subst l7 y7 z7
      obtain ⟨rfl, N7q, K7q, F8, F9, F10, F11, F12, F13, F14, F15, F16⟩ := hQ7
      have N7 := Fr.app N0 N7q
      have F17 : Exa Z T7.heap q "com/example/evenkeel/evenkeel/TaskQueue" := I0.keep K7q
      have F18 : Exa Z T7.heap ta "com/example/evenkeel/evenkeel/QueuedTasks" := I1.keep K7q
      have F19 : Exa Z T7.heap tb "com/example/evenkeel/evenkeel/QueuedTasks" := I2.keep K7q
      have F20 : Arv Z T7.heap ra ka (.object "com/example/evenkeel/evenkeel/QueuedTasks") (2 : Int32) [(.ref ta), (.ref tb)] .null := I3.keep K7q (ninS ne_ra_q (ninS ne_ra_ta (ninS ne_ra_tb nin0)))
      have F21 : Arv Z T7.heap ib kb .boolean (2 : Int32) [(.int (0 : Int32)), (.int (1 : Int32))] (.int (0 : Int32)) := I4.keep K7q (ninS ne_ib_q (ninS ne_ib_ta (ninS ne_ib_tb nin0)))
      have Z22 : n0 ≤ T7.heap.size := Nat.le_trans Z0 K7q.1
      have K23 : Keep h0 T7.heap [q, ta, tb, ib] := K0.trans K7q (allS (Or.inl (List.mem_of_getElem? (i := 0) rfl)) (allS (Or.inl (List.mem_of_getElem? (i := 1) rfl)) (allS (Or.inl (List.mem_of_getElem? (i := 2) rfl)) all0)))
      obtain ⟨cl24, Ar24, q24, S24, M24, H24, G24⟩ := id F21
      have hin24 : ¬ ((0 : Int32) < 0 ∨ cl24.slots.size ≤ ((0 : Int32)).toNatClampNeg) := inb_of S24 ⟨by decide, by decide⟩
      obtain ⟨T24, hX24, X24, e24, W24, st24⟩ := stZ X7 hx hZ rfl Ar24 (j := (0 : Int32)) hin24 (g := (mkF m 63 #[.val (.ref q), .val (.ref ra), .val (.ref ib), .val (.int cd), .val (.int (0 : Int32)), .val (.int (0 : Int32)), .unset] [(.int (1 : Int32)), (.int (0 : Int32)), (.ref ib)])) rfl rfl (hb hby d5_63)
      have F25 : Arv Z hX24 ib kb .boolean (2 : Int32) [(.int (1 : Int32)), (.int (1 : Int32))] (.int (0 : Int32)) := Arv.set Ar24 q24 S24 M24 H24 G24 (fits_nar_bool _) W24 0 rfl (Nat.le_of_ble_eq_true rfl)
      have N24 := Fr.snoc X24 N7 g_ib
      have F26 : Exa Z hX24 q "com/example/evenkeel/evenkeel/TaskQueue" := F15.wr W24
      have F27 : Exa Z hX24 ta "com/example/evenkeel/evenkeel/QueuedTasks" := F16.wr W24
      have F28 : Exa Z hX24 tb "com/example/evenkeel/evenkeel/QueuedTasks" := F14.wr W24
      have F29 : Arv Z hX24 ra ka (.object "com/example/evenkeel/evenkeel/QueuedTasks") (2 : Int32) [(.ref ta), (.ref tb)] .null := F20.other W24 ne_ra_ib
      have F30 : Fld Z hX24 q "com/example/evenkeel/evenkeel/TaskQueue" "first" "Lcom/example/evenkeel/evenkeel/QueuedTasks;" (.ref ta) := F8.other W24 (Or.inl (Ne.symm ne_ib_q))
      have F31 : Fld Z hX24 q "com/example/evenkeel/evenkeel/TaskQueue" "last" "Lcom/example/evenkeel/evenkeel/QueuedTasks;" (.ref tb) := F9.other W24 (Or.inl (Ne.symm ne_ib_q))
      have F32 : Fld Z hX24 ta "com/example/evenkeel/evenkeel/QueuedTasks" "before" "Lcom/example/evenkeel/evenkeel/QueuedTasks;" .null := F10.other W24 (Or.inl (Ne.symm ne_ib_ta))
      have F33 : Fld Z hX24 ta "com/example/evenkeel/evenkeel/QueuedTasks" "after" "Lcom/example/evenkeel/evenkeel/QueuedTasks;" (.ref tb) := F11.other W24 (Or.inl (Ne.symm ne_ib_ta))
      have F34 : Fld Z hX24 tb "com/example/evenkeel/evenkeel/QueuedTasks" "before" "Lcom/example/evenkeel/evenkeel/QueuedTasks;" (.ref ta) := F12.other W24 (Or.inl (Ne.symm ne_ib_tb))
      have F35 : Fld Z hX24 tb "com/example/evenkeel/evenkeel/QueuedTasks" "after" "Lcom/example/evenkeel/evenkeel/QueuedTasks;" .null := F13.other W24 (Or.inl (Ne.symm ne_ib_tb))
      have Z36 : n0 ≤ hX24.size := Nat.le_trans Z22 (Keep.of_wr W24).1
      have K37 : Keep h0 hX24 [q, ta, tb, ib] := K23.wr W24 (Or.inl (List.mem_of_getElem? (i := 3) rfl))
      obtain ⟨cl38, Ar38, q38, S38, M38, H38, G38⟩ := id F25
      have hin38 : ¬ ((0 : Int32) < 0 ∨ cl38.slots.size ≤ ((0 : Int32)).toNatClampNeg) := inb_of S38 ⟨by decide, by decide⟩
      have hat38 : cl38.slots[((0 : Int32)).toNatClampNeg]? = some (.int (1 : Int32)) := Has.at H38 hin38 rfl
      obtain ⟨cq39, kq39, q39a, q39b, q39c⟩ := isOf hZ e24 F26
      obtain ⟨_, _, ⟨T39, L39, k39, n39⟩, -, X39, ⟨Lc39, hQ39, l39, y39, z39⟩, st39⟩ := X24.virtualBack hx (y := (⟨"com/example/evenkeel/evenkeel/TaskQueue", "isEmpty", "()Z"⟩ : MethodName)) (z := (⟨"com/example/evenkeel/evenkeel/TaskQueue", "isEmpty", "()Z"⟩ : MethodName)) hown (mvT hZ (hw _ (List.mem_of_getElem? (i := 31) rfl))) (mvT hZ (hw _ (List.mem_of_getElem? (i := 32) rfl))) (notFace_of_selects (args := #[]) (mvT hZ (hw _ (List.mem_of_getElem? (i := 34) rfl)))) (mvT hZ (hw _ (List.mem_of_getElem? (i := 34) rfl))) (mvT hZ (hw _ (List.mem_of_getElem? (i := 33) rfl))) (by decide) (backOf (W := 0) (rm4_1 l Z a0 hw [] q ta hX24 n0 Z36 F30) hZ (hw _ (List.mem_of_getElem? (i := 35) rfl)) (hw _ (List.mem_of_getElem? (i := 2) rfl)) (by decide) (by decide)) q39a q39c (g := (mkF m 84 #[.val (.ref q), .val (.ref ra), .val (.ref ib), .val (.int cd), .val (.int (0 : Int32)), .val (.int (0 : Int32)), .val (.int (0 : Int32))] [(.ref q)])) rfl (by rw [hml]; rfl) (Steps.refl _) (argsL := []) (rest := []) (lenOf pd_1 rfl) rfl (by show 2 * 0 + _ ≤ _; exact Nat.le_of_eq rfl) (hb hby d5_84) (fun _ _ => ⟨rfl, e24, (by decide : 0 + 0 ≤ _), (by decide : 0 + 0 ≤ _)⟩)
      dsimp only [Pt.U, Pt.locs, Pt.cells, Pt.slots] at X39 l39 y39 z39 st39 hQ39
      subst l39 y39 z39
      obtain ⟨rfl, N39q, e39⟩ := hQ39
      have N39 := Fr.app N24 N39q
      obtain ⟨fs, hr, hrun, hended, hW, hsame⟩ := X39.leave (v := some (Value.int (1 : Int32))) (fun h => by rw [Bd.returns] at h; cases h)
      refine ⟨_, _, pre3 _ ?_, hrun, hended, _, _, rfl, ?_, ⟨_, rfl⟩, hW, hsame.mono (by decide) (by decide)⟩
      · skip
        show Steps p.tables e below (s₁.setTop (mkF m 12 #[.val (.ref q), .val (.ref ra), .val (.ref ib), .val (.int cd), .val (.int (0 : Int32)), .val (.int (0 : Int32)), .unset] [])) _
        refine XS.aloadN X0.here hx rfl (hb hby d5_12) rfl rfl ?_
        show Steps p.tables e below (s₁.setTop (mkF m 13 #[.val (.ref q), .val (.ref ra), .val (.ref ib), .val (.int cd), .val (.int (0 : Int32)), .val (.int (0 : Int32)), .unset] [(.ref ib)])) _
        refine XS.iload X0.here hx rfl (hb hby d5_13) rfl ?_
        show Steps p.tables e below (s₁.setTop (mkF m 15 #[.val (.ref q), .val (.ref ra), .val (.ref ib), .val (.int cd), .val (.int (0 : Int32)), .val (.int (0 : Int32)), .unset] [(.int (0 : Int32)), (.ref ib)])) _
        refine X0.baloadBooleans hx (j := (0 : Int32)) (v := (.int (0 : Int32))) (heq_of e0 Ar5.1) (State.isArrayOf_alike hZ.alike Ar5.2.1) Ar5.2.2 hin5 hat5 (g := (mkF m 15 #[.val (.ref q), .val (.ref ra), .val (.ref ib), .val (.int cd), .val (.int (0 : Int32)), .val (.int (0 : Int32)), .unset] [(.int (0 : Int32)), (.ref ib)])) rfl rfl (hb hby d5_15) _ ?_
        show Steps p.tables e below (s₁.setTop (mkF m 16 #[.val (.ref q), .val (.ref ra), .val (.ref ib), .val (.int cd), .val (.int (0 : Int32)), .val (.int (0 : Int32)), .unset] [(.int (0 : Int32))])) _
        refine XS.ifYes X0.here hx rfl (pc0 := 16) (pc' := 35) rfl (hb hby d5_16) rfl ((if0 _ _).trans (teq rfl).1) (by decide) (by decide) ?_
        show Steps p.tables e below (s₁.setTop (mkF m 35 #[.val (.ref q), .val (.ref ra), .val (.ref ib), .val (.int cd), .val (.int (0 : Int32)), .val (.int (0 : Int32)), .unset] [])) _
        refine XS.iload X0.here hx rfl (hb hby d5_35) rfl ?_
        show Steps p.tables e below (s₁.setTop (mkF m 37 #[.val (.ref q), .val (.ref ra), .val (.ref ib), .val (.int cd), .val (.int (0 : Int32)), .val (.int (0 : Int32)), .unset] [(.int (0 : Int32))])) _
        refine XS.ifNo X0.here hx rfl (hb hby d5_37) rfl ((if0 _ _).trans (teq rfl).2) ?_
        show Steps p.tables e below (s₁.setTop (mkF m 40 #[.val (.ref q), .val (.ref ra), .val (.ref ib), .val (.int cd), .val (.int (0 : Int32)), .val (.int (0 : Int32)), .unset] [])) _
        refine XS.aloadN X0.here hx rfl (hb hby d5_40) rfl rfl ?_
        show Steps p.tables e below (s₁.setTop (mkF m 41 #[.val (.ref q), .val (.ref ra), .val (.ref ib), .val (.int cd), .val (.int (0 : Int32)), .val (.int (0 : Int32)), .unset] [(.ref q)])) _
        refine XS.aloadN X0.here hx rfl (hb hby d5_41) rfl rfl ?_
        show Steps p.tables e below (s₁.setTop (mkF m 42 #[.val (.ref q), .val (.ref ra), .val (.ref ib), .val (.int cd), .val (.int (0 : Int32)), .val (.int (0 : Int32)), .unset] [(.ref ra), (.ref q)])) _
        refine XS.iload X0.here hx rfl (hb hby d5_42) rfl ?_
        show Steps p.tables e below (s₁.setTop (mkF m 44 #[.val (.ref q), .val (.ref ra), .val (.ref ib), .val (.int cd), .val (.int (0 : Int32)), .val (.int (0 : Int32)), .unset] [(.int (0 : Int32)), (.ref ra), (.ref q)])) _
        refine X0.aaload hx (j := (0 : Int32)) (v := (.ref ta)) (heq_of e0 Ar6.1) (State.isArrayOf_alike hZ.alike Ar6.2.1) rfl Ar6.2.2 hin6 hat6 (g := (mkF m 44 #[.val (.ref q), .val (.ref ra), .val (.ref ib), .val (.int cd), .val (.int (0 : Int32)), .val (.int (0 : Int32)), .unset] [(.int (0 : Int32)), (.ref ra), (.ref q)])) rfl rfl (hb hby d5_44) _ ?_
        show Steps p.tables e below (s₁.setTop (mkF m 45 #[.val (.ref q), .val (.ref ra), .val (.ref ib), .val (.int cd), .val (.int (0 : Int32)), .val (.int (0 : Int32)), .unset] [(.ref ta), (.ref q)])) _
        refine st7.trans ?_
        show Steps p.tables e below (T7.setTop (mkF m 48 #[.val (.ref q), .val (.ref ra), .val (.ref ib), .val (.int cd), .val (.int (0 : Int32)), .val (.int (0 : Int32)), .unset] [])) _
        refine XS.goto X7.here hx rfl (pc0 := 48) (pc' := 59) rfl (hb hby d5_48) (by decide) (by decide) ?_
        show Steps p.tables e below (T7.setTop (mkF m 59 #[.val (.ref q), .val (.ref ra), .val (.ref ib), .val (.int cd), .val (.int (0 : Int32)), .val (.int (0 : Int32)), .unset] [])) _
        refine XS.aloadN X7.here hx rfl (hb hby d5_59) rfl rfl ?_
        show Steps p.tables e below (T7.setTop (mkF m 60 #[.val (.ref q), .val (.ref ra), .val (.ref ib), .val (.int cd), .val (.int (0 : Int32)), .val (.int (0 : Int32)), .unset] [(.ref ib)])) _
        refine XS.iload X7.here hx rfl (hb hby d5_60) rfl ?_
        show Steps p.tables e below (T7.setTop (mkF m 62 #[.val (.ref q), .val (.ref ra), .val (.ref ib), .val (.int cd), .val (.int (0 : Int32)), .val (.int (0 : Int32)), .unset] [(.int (0 : Int32)), (.ref ib)])) _
        refine XS.iconst X7.here hx rfl (hb hby d5_62) ?_
        show Steps p.tables e below (T7.setTop (mkF m 63 #[.val (.ref q), .val (.ref ra), .val (.ref ib), .val (.int cd), .val (.int (0 : Int32)), .val (.int (0 : Int32)), .unset] [(.int (1 : Int32)), (.int (0 : Int32)), (.ref ib)])) _
        refine st24 _ ?_
        show Steps p.tables e below (T24.setTop (mkF m 64 #[.val (.ref q), .val (.ref ra), .val (.ref ib), .val (.int cd), .val (.int (0 : Int32)), .val (.int (0 : Int32)), .unset] [])) _
        refine XS.aloadN X24.here hx rfl (hb hby d5_64) rfl rfl ?_
        show Steps p.tables e below (T24.setTop (mkF m 65 #[.val (.ref q), .val (.ref ra), .val (.ref ib), .val (.int cd), .val (.int (0 : Int32)), .val (.int (0 : Int32)), .unset] [(.ref ib)])) _
        refine XS.iconst X24.here hx rfl (hb hby d5_65) ?_
        show Steps p.tables e below (T24.setTop (mkF m 66 #[.val (.ref q), .val (.ref ra), .val (.ref ib), .val (.int cd), .val (.int (0 : Int32)), .val (.int (0 : Int32)), .unset] [(.int (0 : Int32)), (.ref ib)])) _
        refine X24.baloadBooleans hx (j := (0 : Int32)) (v := (.int (1 : Int32))) (heq_of e24 Ar38.1) (State.isArrayOf_alike hZ.alike Ar38.2.1) Ar38.2.2 hin38 hat38 (g := (mkF m 66 #[.val (.ref q), .val (.ref ra), .val (.ref ib), .val (.int cd), .val (.int (0 : Int32)), .val (.int (0 : Int32)), .unset] [(.int (0 : Int32)), (.ref ib)])) rfl rfl (hb hby d5_66) _ ?_
        show Steps p.tables e below (T24.setTop (mkF m 67 #[.val (.ref q), .val (.ref ra), .val (.ref ib), .val (.int cd), .val (.int (0 : Int32)), .val (.int (0 : Int32)), .unset] [(.int (1 : Int32))])) _
        refine XS.ifYes X24.here hx rfl (pc0 := 67) (pc' := 80) rfl (hb hby d5_67) rfl ((if0 _ _).trans (feq (by decide)).2) (by decide) (by decide) ?_
        show Steps p.tables e below (T24.setTop (mkF m 80 #[.val (.ref q), .val (.ref ra), .val (.ref ib), .val (.int cd), .val (.int (0 : Int32)), .val (.int (0 : Int32)), .unset] [])) _
        refine XS.iconst X24.here hx rfl (hb hby d5_80) ?_
        show Steps p.tables e below (T24.setTop (mkF m 81 #[.val (.ref q), .val (.ref ra), .val (.ref ib), .val (.int cd), .val (.int (0 : Int32)), .val (.int (0 : Int32)), .unset] [(.int (0 : Int32))])) _
        refine XS.istore X24.here hx rfl (hb hby d5_81) rfl (l' := #[.val (.ref q), .val (.ref ra), .val (.ref ib), .val (.int cd), .val (.int (0 : Int32)), .val (.int (0 : Int32)), .val (.int (0 : Int32))]) rfl ?_
        show Steps p.tables e below (T24.setTop (mkF m 83 #[.val (.ref q), .val (.ref ra), .val (.ref ib), .val (.int cd), .val (.int (0 : Int32)), .val (.int (0 : Int32)), .val (.int (0 : Int32))] [])) _
        refine XS.aloadN X24.here hx rfl (hb hby d5_83) rfl rfl ?_
        show Steps p.tables e below (T24.setTop (mkF m 84 #[.val (.ref q), .val (.ref ra), .val (.ref ib), .val (.int cd), .val (.int (0 : Int32)), .val (.int (0 : Int32)), .val (.int (0 : Int32))] [(.ref q)])) _
        refine st39.trans ?_
        show Steps p.tables e below (T39.setTop (mkF m 87 #[.val (.ref q), .val (.ref ra), .val (.ref ib), .val (.int cd), .val (.int (0 : Int32)), .val (.int (0 : Int32)), .val (.int (0 : Int32))] [(.int (0 : Int32))])) _
        refine XS.iload X39.here hx rfl (hb hby d5_87) rfl ?_
        show Steps p.tables e below (T39.setTop (mkF m 89 #[.val (.ref q), .val (.ref ra), .val (.ref ib), .val (.int cd), .val (.int (0 : Int32)), .val (.int (0 : Int32)), .val (.int (0 : Int32))] [(.int (0 : Int32)), (.int (0 : Int32))])) _
        refine XS.icmpNo X39.here hx rfl (hb hby d5_89) rfl (teq rfl).2 ?_
        show Steps p.tables e below (T39.setTop (mkF m 92 #[.val (.ref q), .val (.ref ra), .val (.ref ib), .val (.int cd), .val (.int (0 : Int32)), .val (.int (0 : Int32)), .val (.int (0 : Int32))] [])) _
        refine XS.iconst X39.here hx rfl (hb hby d5_92) ?_
        show Steps p.tables e below (T39.setTop (mkF m 93 #[.val (.ref q), .val (.ref ra), .val (.ref ib), .val (.int cd), .val (.int (0 : Int32)), .val (.int (0 : Int32)), .val (.int (0 : Int32))] [(.int (1 : Int32))])) _
        refine XS.goto X39.here hx rfl (pc0 := 93) (pc' := 97) rfl (hb hby d5_93) (by decide) (by decide) ?_
        show Steps p.tables e below (T39.setTop (mkF m 97 #[.val (.ref q), .val (.ref ra), .val (.ref ib), .val (.int cd), .val (.int (0 : Int32)), .val (.int (0 : Int32)), .val (.int (0 : Int32))] [(.int (1 : Int32))])) _
        exact retN X39 hx (t := .boolean) Bd.returns (by simp) (hb hby d5_97) hr
      · show Q5_8 Z q ra ib cd ta tb ka kb h0 n0 _ T39.heap _
        rw [e39]
        exact ⟨rfl, N39, K37, F26, F27, F28, F29, F25, F30, F31, F32, F33, F34, F35⟩
theorem ef_5_9 (m : MethodId) (x0 : Addr) (x1 : Addr) (x2 : Addr) (x3 : Int32) : entryFrame m #[(.ref x0), (.ref x1), (.ref x2), (.int x3)] 7 = mkF m 0 #[.val (.ref x0), .val (.ref x1), .val (.ref x2), .val (.int x3), .unset, .unset, .unset] [] := by first | (simp [entryFrame, mkF, argsToLocals, Value.category]; done) | rfl
theorem own_split_5_9_5 (cd : Int32) (hk : (cd &&& (1 : Int32)) = (0 : Int32)) (hd : ((cd.toUInt32 >>> ((1 : Int32) &&& 31).toUInt32).toInt32 &&& (1 : Int32)) = (1 : Int32)) (v3 : Int32) (hv3 : v3 = (cd &&& (1 : Int32))) : v3 = (0 : Int32) := by rw [hv3]; exact hk
theorem own_split_5_9_12_s0 (cd : Int32) (hk : (cd &&& (1 : Int32)) = (0 : Int32)) (hd : ((cd.toUInt32 >>> ((1 : Int32) &&& 31).toUInt32).toInt32 &&& (1 : Int32)) = (1 : Int32)) (hv3 : (0 : Int32) = (cd &&& (1 : Int32))) (v10 : Int32) (hv10 : v10 = (((cd.toUInt32 >>> ((1 : Int32) &&& 31).toUInt32).toInt32) &&& (1 : Int32))) : v10 = (1 : Int32) := by rw [hv10]; exact hd
def Q5_9 (Z : State) (q : Addr) (ra : Addr) (ib : Addr) (cd : Int32) (ta : Addr) (tb : Addr) (ka : ClassId) (kb : ClassId) (h0 : Heap) (n0 : Nat) (v : Option Value) (h : Heap) (L : List Loc) : Prop := v = some (.int (1 : Int32)) ∧ Fr n0 L ∧ Keep h0 h [q, ta, tb, ib] ∧ Exa Z h q "com/example/evenkeel/evenkeel/TaskQueue" ∧ Exa Z h ta "com/example/evenkeel/evenkeel/QueuedTasks" ∧ Exa Z h tb "com/example/evenkeel/evenkeel/QueuedTasks" ∧ Arv Z h ra ka (.object "com/example/evenkeel/evenkeel/QueuedTasks") (2 : Int32) [(.ref ta), (.ref tb)] .null ∧ Arv Z h ib kb .boolean (2 : Int32) [(.int (1 : Int32)), (.int (1 : Int32))] (.int (0 : Int32)) ∧ Fld Z h q "com/example/evenkeel/evenkeel/TaskQueue" "first" "Lcom/example/evenkeel/evenkeel/QueuedTasks;" (.ref tb) ∧ Fld Z h q "com/example/evenkeel/evenkeel/TaskQueue" "last" "Lcom/example/evenkeel/evenkeel/QueuedTasks;" (.ref ta) ∧ Fld Z h ta "com/example/evenkeel/evenkeel/QueuedTasks" "before" "Lcom/example/evenkeel/evenkeel/QueuedTasks;" (.ref tb) ∧ Fld Z h ta "com/example/evenkeel/evenkeel/QueuedTasks" "after" "Lcom/example/evenkeel/evenkeel/QueuedTasks;" .null ∧ Fld Z h tb "com/example/evenkeel/evenkeel/QueuedTasks" "before" "Lcom/example/evenkeel/evenkeel/QueuedTasks;" .null ∧ Fld Z h tb "com/example/evenkeel/evenkeel/QueuedTasks" "after" "Lcom/example/evenkeel/evenkeel/QueuedTasks;" (.ref ta)
set_option maxRecDepth 65536 in
set_option maxHeartbeats 40000000 in
theorem rm5_9 (l : Launch) (Z : State) (a0 : Array Value) (hw : ∀ d ∈ tables_1, d.before a0 Z = true) (ws : List Jvm.Cond) (q : Addr) (ra : Addr) (ib : Addr) (cd : Int32) (ta : Addr) (tb : Addr) (ka : ClassId) (kb : ClassId) (h0 : Heap) (n0 : Nat) (Z0 : n0 ≤ h0.size) (I0 : Exa Z h0 q "com/example/evenkeel/evenkeel/TaskQueue") (I1 : Exa Z h0 ta "com/example/evenkeel/evenkeel/QueuedTasks") (I2 : Exa Z h0 tb "com/example/evenkeel/evenkeel/QueuedTasks") (I3 : Arv Z h0 ra ka (.object "com/example/evenkeel/evenkeel/QueuedTasks") (2 : Int32) [(.ref ta), (.ref tb)] .null) (I4 : Arv Z h0 ib kb .boolean (2 : Int32) [(.int (0 : Int32)), (.int (1 : Int32))] (.int (0 : Int32))) (I5 : Fld Z h0 q "com/example/evenkeel/evenkeel/TaskQueue" "first" "Lcom/example/evenkeel/evenkeel/QueuedTasks;" (.ref tb)) (I6 : Fld Z h0 q "com/example/evenkeel/evenkeel/TaskQueue" "last" "Lcom/example/evenkeel/evenkeel/QueuedTasks;" (.ref tb)) (I7 : Fld Z h0 ta "com/example/evenkeel/evenkeel/QueuedTasks" "before" "Lcom/example/evenkeel/evenkeel/QueuedTasks;" .null) (I8 : Fld Z h0 ta "com/example/evenkeel/evenkeel/QueuedTasks" "after" "Lcom/example/evenkeel/evenkeel/QueuedTasks;" .null) (I9 : Fld Z h0 tb "com/example/evenkeel/evenkeel/QueuedTasks" "before" "Lcom/example/evenkeel/evenkeel/QueuedTasks;" .null) (I10 : Fld Z h0 tb "com/example/evenkeel/evenkeel/QueuedTasks" "after" "Lcom/example/evenkeel/evenkeel/QueuedTasks;" .null) (g_q : n0 ≤ q) (g_ta : n0 ≤ ta) (g_tb : n0 ≤ tb) (g_ib : n0 ≤ ib) (ne_q_ta : q ≠ ta) (ne_q_tb : q ≠ tb) (ne_ta_tb : ta ≠ tb) (ne_ra_q : ra ≠ q) (ne_ra_ta : ra ≠ ta) (ne_ra_tb : ra ≠ tb) (ne_ib_q : ib ≠ q) (ne_ib_ta : ib ≠ ta) (ne_ib_tb : ib ≠ tb) (ne_ra_ib : ra ≠ ib) (hk : (cd &&& (1 : Int32)) = (0 : Int32)) (hd : ((cd.toUInt32 >>> ((1 : Int32) &&& 31).toUInt32).toInt32 &&& (1 : Int32)) = (1 : Int32)) :
    MetFree l (⟨"com/example/evenkeel/evenkeel/TaskQueueIsEmptyPinLaw", "step", "(Lcom/example/evenkeel/evenkeel/TaskQueue;[Lcom/example/evenkeel/evenkeel/QueuedTasks;[ZI)Z"⟩ : MethodName) (head1 (Jvm.Cond.code (⟨"com/example/evenkeel/evenkeel/TaskQueueIsEmptyPinLaw", "step", "(Lcom/example/evenkeel/evenkeel/TaskQueue;[Lcom/example/evenkeel/evenkeel/QueuedTasks;[ZI)Z"⟩ : MethodName) method_3_code 7 (some .boolean) :: ws) ({ frames := 1, cells := 0, slots := 0, locals := 13 } : Room)) (fun a U => a = #[(.ref q), (.ref ra), (.ref ib), (.int cd)] ∧ Z.Warmed39 U.vm ∧ U.heap = h0) (fun _ _ _ _ _ => True) (fun _ U o U' => ∃ v L, o = .returned v ∧ Q5_9 Z q ra ib cd ta tb ka kb h0 n0 v U'.heap L ∧ FrameEnd U o U' L ({ frames := 1, cells := 0, slots := 0, locals := 13 } : Room).cells ({ frames := 1, cells := 0, slots := 0, locals := 13 } : Room).slots) := by
  refine MetFree.of_bodySF (plainFor_of_name pn_5) hisR ?_
  intro p e s m args below meth c s₁ Bd hml0 hP hK
  obtain ⟨rfl, hZ, hh⟩ := hP
  have hx := Bd.exec
  have hby := Bd.bytes
  have hml : c.maxLocals = 7 := hml0
  have hown : s.vm.findClass "com/example/evenkeel/evenkeel/TaskQueueIsEmptyPinLaw" = some m.cls := findClass_of_methodNamed Bd.named
  have hnm := (name_of_methodNamed Bd.named Bd.method).1
  have X0 : Stand p l e ({ frames := 1, cells := 0, slots := 0, locals := 13 } : Room) s m #[(.ref q), (.ref ra), (.ref ib), (.int cd)] below meth c s₁ [] 0 0 := Stand.of_body Bd
  have e0 : s₁.heap = h0 := by rw [← hh, Bd.state]; rfl
  have N0 := Fr.nil n0
  have K0 : Keep h0 h0 [q, ta, tb, ib] := Keep.refl h0 _
  have pre0 : ∀ tq, Steps p.tables e below (s₁.setTop (mkF m 0 #[.val (.ref q), .val (.ref ra), .val (.ref ib), .val (.int cd), .unset, .unset, .unset] [])) tq → Steps p.tables e below (s₁.setTop (entryFrame m #[(.ref q), (.ref ra), (.ref ib), (.int cd)] 7)) tq := fun tq kq => castTop (ef_5_9 m q ra ib cd) kq
  obtain ⟨v3, hv3⟩ : ∃ z_q : Int32, z_q = (cd &&& (1 : Int32)) := ⟨_, rfl⟩
  have pre1 : ∀ tq, Steps p.tables e below (s₁.setTop (mkF m 5 #[.val (.ref q), .val (.ref ra), .val (.ref ib), .val (.int cd), .val (.int v3), .unset, .unset] [])) tq → Steps p.tables e below (s₁.setTop (entryFrame m #[(.ref q), (.ref ra), (.ref ib), (.int cd)] 7)) tq := by
    intro tq kt
    refine pre0 _ ?_
    show Steps p.tables e below (s₁.setTop (mkF m 0 #[.val (.ref q), .val (.ref ra), .val (.ref ib), .val (.int cd), .unset, .unset, .unset] [])) _
    refine XS.iloadN X0.here hx rfl (hb hby d5_0) rfl ?_
    show Steps p.tables e below (s₁.setTop (mkF m 1 #[.val (.ref q), .val (.ref ra), .val (.ref ib), .val (.int cd), .unset, .unset, .unset] [(.int cd)])) _
    refine XS.iconst X0.here hx rfl (hb hby d5_1) ?_
    show Steps p.tables e below (s₁.setTop (mkF m 2 #[.val (.ref q), .val (.ref ra), .val (.ref ib), .val (.int cd), .unset, .unset, .unset] [(.int (1 : Int32)), (.int cd)])) _
    refine XS.iand X0.here hx rfl (hb hby d5_2) rfl ?_
    show Steps p.tables e below (s₁.setTop (mkF m 3 #[.val (.ref q), .val (.ref ra), .val (.ref ib), .val (.int cd), .unset, .unset, .unset] [(.int (cd &&& (1 : Int32)))])) _
    refine XS.istore X0.here hx rfl (hb hby d5_3) rfl (l' := #[.val (.ref q), .val (.ref ra), .val (.ref ib), .val (.int cd), .val (.int v3), .unset, .unset]) (by rw [hv3]; rfl) ?_
    show Steps p.tables e below (s₁.setTop (mkF m 5 #[.val (.ref q), .val (.ref ra), .val (.ref ib), .val (.int cd), .val (.int v3), .unset, .unset] [])) _
    exact kt
  rcases (own_split_5_9_5 cd hk hd v3 hv3) with hs2
  · subst hs2
    obtain ⟨v10, hv10⟩ : ∃ z_q : Int32, z_q = (((cd.toUInt32 >>> ((1 : Int32) &&& 31).toUInt32).toInt32) &&& (1 : Int32)) := ⟨_, rfl⟩
    have pre3 : ∀ tq, Steps p.tables e below (s₁.setTop (mkF m 12 #[.val (.ref q), .val (.ref ra), .val (.ref ib), .val (.int cd), .val (.int (0 : Int32)), .val (.int v10), .unset] [])) tq → Steps p.tables e below (s₁.setTop (entryFrame m #[(.ref q), (.ref ra), (.ref ib), (.int cd)] 7)) tq := by
      intro tq kt
      refine pre1 _ ?_
      show Steps p.tables e below (s₁.setTop (mkF m 5 #[.val (.ref q), .val (.ref ra), .val (.ref ib), .val (.int cd), .val (.int (0 : Int32)), .unset, .unset] [])) _
      refine XS.iloadN X0.here hx rfl (hb hby d5_5) rfl ?_
      show Steps p.tables e below (s₁.setTop (mkF m 6 #[.val (.ref q), .val (.ref ra), .val (.ref ib), .val (.int cd), .val (.int (0 : Int32)), .unset, .unset] [(.int cd)])) _
      refine XS.iconst X0.here hx rfl (hb hby d5_6) ?_
      show Steps p.tables e below (s₁.setTop (mkF m 7 #[.val (.ref q), .val (.ref ra), .val (.ref ib), .val (.int cd), .val (.int (0 : Int32)), .unset, .unset] [(.int (1 : Int32)), (.int cd)])) _
      refine XS.iushr X0.here hx rfl (hb hby d5_7) rfl ?_
      show Steps p.tables e below (s₁.setTop (mkF m 8 #[.val (.ref q), .val (.ref ra), .val (.ref ib), .val (.int cd), .val (.int (0 : Int32)), .unset, .unset] [(.int ((cd.toUInt32 >>> ((1 : Int32) &&& 31).toUInt32).toInt32))])) _
      refine XS.iconst X0.here hx rfl (hb hby d5_8) ?_
      show Steps p.tables e below (s₁.setTop (mkF m 9 #[.val (.ref q), .val (.ref ra), .val (.ref ib), .val (.int cd), .val (.int (0 : Int32)), .unset, .unset] [(.int (1 : Int32)), (.int ((cd.toUInt32 >>> ((1 : Int32) &&& 31).toUInt32).toInt32))])) _
      refine XS.iand X0.here hx rfl (hb hby d5_9) rfl ?_
      show Steps p.tables e below (s₁.setTop (mkF m 10 #[.val (.ref q), .val (.ref ra), .val (.ref ib), .val (.int cd), .val (.int (0 : Int32)), .unset, .unset] [(.int (((cd.toUInt32 >>> ((1 : Int32) &&& 31).toUInt32).toInt32) &&& (1 : Int32)))])) _
      refine XS.istore X0.here hx rfl (hb hby d5_10) rfl (l' := #[.val (.ref q), .val (.ref ra), .val (.ref ib), .val (.int cd), .val (.int (0 : Int32)), .val (.int v10), .unset]) (by rw [hv10]; rfl) ?_
      show Steps p.tables e below (s₁.setTop (mkF m 12 #[.val (.ref q), .val (.ref ra), .val (.ref ib), .val (.int cd), .val (.int (0 : Int32)), .val (.int v10), .unset] [])) _
      exact kt
    rcases (own_split_5_9_12_s0 cd hk hd hv3 v10 hv10) with hs4
    · subst hs4
      obtain ⟨cl5, Ar5, q5, S5, M5, H5, G5⟩ := id I4
      have hin5 : ¬ ((0 : Int32) < 0 ∨ cl5.slots.size ≤ ((0 : Int32)).toNatClampNeg) := inb_of S5 ⟨by decide, by decide⟩
      have hat5 : cl5.slots[((0 : Int32)).toNatClampNeg]? = some (.int (0 : Int32)) := Has.at H5 hin5 rfl
      obtain ⟨cl6, Ar6, q6, S6, M6, H6, G6⟩ := id I3
      have hin6 : ¬ ((0 : Int32) < 0 ∨ cl6.slots.size ≤ ((0 : Int32)).toNatClampNeg) := inb_of S6 ⟨by decide, by decide⟩
      have hat6 : cl6.slots[((0 : Int32)).toNatClampNeg]? = some (.ref ta) := Has.at H6 hin6 rfl
      obtain ⟨cq7, kq7, q7a, q7b, q7c⟩ := isOf hZ e0 I0
      obtain ⟨_, _, ⟨T7, L7, k7, n7⟩, -, X7, ⟨Lc7, hQ7, l7, y7, z7⟩, st7⟩ := X0.virtualBack hx (y := (⟨"com/example/evenkeel/evenkeel/TaskQueue", "addLast", "(Lcom/example/evenkeel/evenkeel/QueuedTasks;)V"⟩ : MethodName)) (z := (⟨"com/example/evenkeel/evenkeel/TaskQueue", "addLast", "(Lcom/example/evenkeel/evenkeel/QueuedTasks;)V"⟩ : MethodName)) hown (mvT hZ (hw _ (List.mem_of_getElem? (i := 51) rfl))) (mvT hZ (hw _ (List.mem_of_getElem? (i := 52) rfl))) (notFace_of_selects (args := #[]) (mvT hZ (hw _ (List.mem_of_getElem? (i := 54) rfl)))) (mvT hZ (hw _ (List.mem_of_getElem? (i := 54) rfl))) (mvT hZ (hw _ (List.mem_of_getElem? (i := 53) rfl))) (by decide) (backOf (W := 0) (rm7_1 l Z a0 hw [] q ta tb h0 n0 Z0 I5 I6 I7 I8 I9 I10 I2 I0 I1 g_q g_ta g_tb ne_q_ta ne_q_tb ne_ta_tb) hZ (hw _ (List.mem_of_getElem? (i := 55) rfl)) (hw _ (List.mem_of_getElem? (i := 2) rfl)) (by decide) (by decide)) q7a q7c (g := (mkF m 56 #[.val (.ref q), .val (.ref ra), .val (.ref ib), .val (.int cd), .val (.int (0 : Int32)), .val (.int (1 : Int32)), .unset] [(.ref ta), (.ref q)])) rfl (by rw [hml]; rfl) (Steps.refl _) (argsL := [(.ref ta)]) (rest := []) (lenOf pd_0 rfl) rfl (by show 2 * 0 + _ ≤ _; exact Nat.le_of_eq rfl) (hb hby d5_56) (fun _ _ => ⟨rfl, e0, (by decide : 0 + 0 ≤ _), (by decide : 0 + 0 ≤ _)⟩)
      dsimp only [Pt.U, Pt.locs, Pt.cells, Pt.slots] at X7 l7 y7 z7 st7 hQ7
      subst l7 y7 z7
      obtain ⟨rfl, N7q, K7q, F8, F9, F10, F11, F12, F13, F14, F15, F16⟩ := hQ7
      have N7 := Fr.app N0 N7q
      have F17 : Exa Z T7.heap q "com/example/evenkeel/evenkeel/TaskQueue" := I0.keep K7q
      have F18 : Exa Z T7.heap ta "com/example/evenkeel/evenkeel/QueuedTasks" := I1.keep K7q
      have F19 : Exa Z T7.heap tb "com/example/evenkeel/evenkeel/QueuedTasks" := I2.keep K7q
      have F20 : Arv Z T7.heap ra ka (.object "com/example/evenkeel/evenkeel/QueuedTasks") (2 : Int32) [(.ref ta), (.ref tb)] .null := I3.keep K7q (ninS ne_ra_q (ninS ne_ra_ta (ninS ne_ra_tb nin0)))
      have F21 : Arv Z T7.heap ib kb .boolean (2 : Int32) [(.int (0 : Int32)), (.int (1 : Int32))] (.int (0 : Int32)) := I4.keep K7q (ninS ne_ib_q (ninS ne_ib_ta (ninS ne_ib_tb nin0)))
      have Z22 : n0 ≤ T7.heap.size := Nat.le_trans Z0 K7q.1
      have K23 : Keep h0 T7.heap [q, ta, tb, ib] := K0.trans K7q (allS (Or.inl (List.mem_of_getElem? (i := 0) rfl)) (allS (Or.inl (List.mem_of_getElem? (i := 1) rfl)) (allS (Or.inl (List.mem_of_getElem? (i := 2) rfl)) all0)))
      obtain ⟨cl24, Ar24, q24, S24, M24, H24, G24⟩ := id F21
      have hin24 : ¬ ((0 : Int32) < 0 ∨ cl24.slots.size ≤ ((0 : Int32)).toNatClampNeg) := inb_of S24 ⟨by decide, by decide⟩
      obtain ⟨T24, hX24, X24, e24, W24, st24⟩ := stZ X7 hx hZ rfl Ar24 (j := (0 : Int32)) hin24 (g := (mkF m 63 #[.val (.ref q), .val (.ref ra), .val (.ref ib), .val (.int cd), .val (.int (0 : Int32)), .val (.int (1 : Int32)), .unset] [(.int (1 : Int32)), (.int (0 : Int32)), (.ref ib)])) rfl rfl (hb hby d5_63)
      have F25 : Arv Z hX24 ib kb .boolean (2 : Int32) [(.int (1 : Int32)), (.int (1 : Int32))] (.int (0 : Int32)) := Arv.set Ar24 q24 S24 M24 H24 G24 (fits_nar_bool _) W24 0 rfl (Nat.le_of_ble_eq_true rfl)
      have N24 := Fr.snoc X24 N7 g_ib
      have F26 : Exa Z hX24 q "com/example/evenkeel/evenkeel/TaskQueue" := F15.wr W24
      have F27 : Exa Z hX24 ta "com/example/evenkeel/evenkeel/QueuedTasks" := F16.wr W24
      have F28 : Exa Z hX24 tb "com/example/evenkeel/evenkeel/QueuedTasks" := F14.wr W24
      have F29 : Arv Z hX24 ra ka (.object "com/example/evenkeel/evenkeel/QueuedTasks") (2 : Int32) [(.ref ta), (.ref tb)] .null := F20.other W24 ne_ra_ib
      have F30 : Fld Z hX24 q "com/example/evenkeel/evenkeel/TaskQueue" "first" "Lcom/example/evenkeel/evenkeel/QueuedTasks;" (.ref tb) := F8.other W24 (Or.inl (Ne.symm ne_ib_q))
      have F31 : Fld Z hX24 q "com/example/evenkeel/evenkeel/TaskQueue" "last" "Lcom/example/evenkeel/evenkeel/QueuedTasks;" (.ref ta) := F9.other W24 (Or.inl (Ne.symm ne_ib_q))
      have F32 : Fld Z hX24 ta "com/example/evenkeel/evenkeel/QueuedTasks" "before" "Lcom/example/evenkeel/evenkeel/QueuedTasks;" (.ref tb) := F10.other W24 (Or.inl (Ne.symm ne_ib_ta))
      have F33 : Fld Z hX24 ta "com/example/evenkeel/evenkeel/QueuedTasks" "after" "Lcom/example/evenkeel/evenkeel/QueuedTasks;" .null := F11.other W24 (Or.inl (Ne.symm ne_ib_ta))
      have F34 : Fld Z hX24 tb "com/example/evenkeel/evenkeel/QueuedTasks" "before" "Lcom/example/evenkeel/evenkeel/QueuedTasks;" .null := F12.other W24 (Or.inl (Ne.symm ne_ib_tb))
      have F35 : Fld Z hX24 tb "com/example/evenkeel/evenkeel/QueuedTasks" "after" "Lcom/example/evenkeel/evenkeel/QueuedTasks;" (.ref ta) := F13.other W24 (Or.inl (Ne.symm ne_ib_tb))
      have Z36 : n0 ≤ hX24.size := Nat.le_trans Z22 (Keep.of_wr W24).1
      have K37 : Keep h0 hX24 [q, ta, tb, ib] := K23.wr W24 (Or.inl (List.mem_of_getElem? (i := 3) rfl))
      obtain ⟨cl38, Ar38, q38, S38, M38, H38, G38⟩ := id F25
      have hin38 : ¬ ((0 : Int32) < 0 ∨ cl38.slots.size ≤ ((0 : Int32)).toNatClampNeg) := inb_of S38 ⟨by decide, by decide⟩
      have hat38 : cl38.slots[((0 : Int32)).toNatClampNeg]? = some (.int (1 : Int32)) := Has.at H38 hin38 rfl
      obtain ⟨cq39, kq39, q39a, q39b, q39c⟩ := isOf hZ e24 F26
      obtain ⟨_, _, ⟨T39, L39, k39, n39⟩, -, X39, ⟨Lc39, hQ39, l39, y39, z39⟩, st39⟩ := X24.virtualBack hx (y := (⟨"com/example/evenkeel/evenkeel/TaskQueue", "isEmpty", "()Z"⟩ : MethodName)) (z := (⟨"com/example/evenkeel/evenkeel/TaskQueue", "isEmpty", "()Z"⟩ : MethodName)) hown (mvT hZ (hw _ (List.mem_of_getElem? (i := 31) rfl))) (mvT hZ (hw _ (List.mem_of_getElem? (i := 32) rfl))) (notFace_of_selects (args := #[]) (mvT hZ (hw _ (List.mem_of_getElem? (i := 34) rfl)))) (mvT hZ (hw _ (List.mem_of_getElem? (i := 34) rfl))) (mvT hZ (hw _ (List.mem_of_getElem? (i := 33) rfl))) (by decide) (backOf (W := 0) (rm4_1 l Z a0 hw [] q tb hX24 n0 Z36 F30) hZ (hw _ (List.mem_of_getElem? (i := 35) rfl)) (hw _ (List.mem_of_getElem? (i := 2) rfl)) (by decide) (by decide)) q39a q39c (g := (mkF m 84 #[.val (.ref q), .val (.ref ra), .val (.ref ib), .val (.int cd), .val (.int (0 : Int32)), .val (.int (1 : Int32)), .val (.int (0 : Int32))] [(.ref q)])) rfl (by rw [hml]; rfl) (Steps.refl _) (argsL := []) (rest := []) (lenOf pd_1 rfl) rfl (by show 2 * 0 + _ ≤ _; exact Nat.le_of_eq rfl) (hb hby d5_84) (fun _ _ => ⟨rfl, e24, (by decide : 0 + 0 ≤ _), (by decide : 0 + 0 ≤ _)⟩)
      dsimp only [Pt.U, Pt.locs, Pt.cells, Pt.slots] at X39 l39 y39 z39 st39 hQ39
      subst l39 y39 z39
      obtain ⟨rfl, N39q, e39⟩ := hQ39
      have N39 := Fr.app N24 N39q
      obtain ⟨fs, hr, hrun, hended, hW, hsame⟩ := X39.leave (v := some (Value.int (1 : Int32))) (fun h => by rw [Bd.returns] at h; cases h)
      refine ⟨_, _, pre3 _ ?_, hrun, hended, _, _, rfl, ?_, ⟨_, rfl⟩, hW, hsame.mono (by decide) (by decide)⟩
      · skip
        show Steps p.tables e below (s₁.setTop (mkF m 12 #[.val (.ref q), .val (.ref ra), .val (.ref ib), .val (.int cd), .val (.int (0 : Int32)), .val (.int (1 : Int32)), .unset] [])) _
        refine XS.aloadN X0.here hx rfl (hb hby d5_12) rfl rfl ?_
        show Steps p.tables e below (s₁.setTop (mkF m 13 #[.val (.ref q), .val (.ref ra), .val (.ref ib), .val (.int cd), .val (.int (0 : Int32)), .val (.int (1 : Int32)), .unset] [(.ref ib)])) _
        refine XS.iload X0.here hx rfl (hb hby d5_13) rfl ?_
        show Steps p.tables e below (s₁.setTop (mkF m 15 #[.val (.ref q), .val (.ref ra), .val (.ref ib), .val (.int cd), .val (.int (0 : Int32)), .val (.int (1 : Int32)), .unset] [(.int (0 : Int32)), (.ref ib)])) _
        refine X0.baloadBooleans hx (j := (0 : Int32)) (v := (.int (0 : Int32))) (heq_of e0 Ar5.1) (State.isArrayOf_alike hZ.alike Ar5.2.1) Ar5.2.2 hin5 hat5 (g := (mkF m 15 #[.val (.ref q), .val (.ref ra), .val (.ref ib), .val (.int cd), .val (.int (0 : Int32)), .val (.int (1 : Int32)), .unset] [(.int (0 : Int32)), (.ref ib)])) rfl rfl (hb hby d5_15) _ ?_
        show Steps p.tables e below (s₁.setTop (mkF m 16 #[.val (.ref q), .val (.ref ra), .val (.ref ib), .val (.int cd), .val (.int (0 : Int32)), .val (.int (1 : Int32)), .unset] [(.int (0 : Int32))])) _
        refine XS.ifYes X0.here hx rfl (pc0 := 16) (pc' := 35) rfl (hb hby d5_16) rfl ((if0 _ _).trans (teq rfl).1) (by decide) (by decide) ?_
        show Steps p.tables e below (s₁.setTop (mkF m 35 #[.val (.ref q), .val (.ref ra), .val (.ref ib), .val (.int cd), .val (.int (0 : Int32)), .val (.int (1 : Int32)), .unset] [])) _
        refine XS.iload X0.here hx rfl (hb hby d5_35) rfl ?_
        show Steps p.tables e below (s₁.setTop (mkF m 37 #[.val (.ref q), .val (.ref ra), .val (.ref ib), .val (.int cd), .val (.int (0 : Int32)), .val (.int (1 : Int32)), .unset] [(.int (1 : Int32))])) _
        refine XS.ifYes X0.here hx rfl (pc0 := 37) (pc' := 51) rfl (hb hby d5_37) rfl ((if0 _ _).trans (feq (by decide)).2) (by decide) (by decide) ?_
        show Steps p.tables e below (s₁.setTop (mkF m 51 #[.val (.ref q), .val (.ref ra), .val (.ref ib), .val (.int cd), .val (.int (0 : Int32)), .val (.int (1 : Int32)), .unset] [])) _
        refine XS.aloadN X0.here hx rfl (hb hby d5_51) rfl rfl ?_
        show Steps p.tables e below (s₁.setTop (mkF m 52 #[.val (.ref q), .val (.ref ra), .val (.ref ib), .val (.int cd), .val (.int (0 : Int32)), .val (.int (1 : Int32)), .unset] [(.ref q)])) _
        refine XS.aloadN X0.here hx rfl (hb hby d5_52) rfl rfl ?_
        show Steps p.tables e below (s₁.setTop (mkF m 53 #[.val (.ref q), .val (.ref ra), .val (.ref ib), .val (.int cd), .val (.int (0 : Int32)), .val (.int (1 : Int32)), .unset] [(.ref ra), (.ref q)])) _
        refine XS.iload X0.here hx rfl (hb hby d5_53) rfl ?_
        show Steps p.tables e below (s₁.setTop (mkF m 55 #[.val (.ref q), .val (.ref ra), .val (.ref ib), .val (.int cd), .val (.int (0 : Int32)), .val (.int (1 : Int32)), .unset] [(.int (0 : Int32)), (.ref ra), (.ref q)])) _
        refine X0.aaload hx (j := (0 : Int32)) (v := (.ref ta)) (heq_of e0 Ar6.1) (State.isArrayOf_alike hZ.alike Ar6.2.1) rfl Ar6.2.2 hin6 hat6 (g := (mkF m 55 #[.val (.ref q), .val (.ref ra), .val (.ref ib), .val (.int cd), .val (.int (0 : Int32)), .val (.int (1 : Int32)), .unset] [(.int (0 : Int32)), (.ref ra), (.ref q)])) rfl rfl (hb hby d5_55) _ ?_
        show Steps p.tables e below (s₁.setTop (mkF m 56 #[.val (.ref q), .val (.ref ra), .val (.ref ib), .val (.int cd), .val (.int (0 : Int32)), .val (.int (1 : Int32)), .unset] [(.ref ta), (.ref q)])) _
        refine st7.trans ?_
        show Steps p.tables e below (T7.setTop (mkF m 59 #[.val (.ref q), .val (.ref ra), .val (.ref ib), .val (.int cd), .val (.int (0 : Int32)), .val (.int (1 : Int32)), .unset] [])) _
        refine XS.aloadN X7.here hx rfl (hb hby d5_59) rfl rfl ?_
        show Steps p.tables e below (T7.setTop (mkF m 60 #[.val (.ref q), .val (.ref ra), .val (.ref ib), .val (.int cd), .val (.int (0 : Int32)), .val (.int (1 : Int32)), .unset] [(.ref ib)])) _
        refine XS.iload X7.here hx rfl (hb hby d5_60) rfl ?_
        show Steps p.tables e below (T7.setTop (mkF m 62 #[.val (.ref q), .val (.ref ra), .val (.ref ib), .val (.int cd), .val (.int (0 : Int32)), .val (.int (1 : Int32)), .unset] [(.int (0 : Int32)), (.ref ib)])) _
        refine XS.iconst X7.here hx rfl (hb hby d5_62) ?_
        show Steps p.tables e below (T7.setTop (mkF m 63 #[.val (.ref q), .val (.ref ra), .val (.ref ib), .val (.int cd), .val (.int (0 : Int32)), .val (.int (1 : Int32)), .unset] [(.int (1 : Int32)), (.int (0 : Int32)), (.ref ib)])) _
        refine st24 _ ?_
        show Steps p.tables e below (T24.setTop (mkF m 64 #[.val (.ref q), .val (.ref ra), .val (.ref ib), .val (.int cd), .val (.int (0 : Int32)), .val (.int (1 : Int32)), .unset] [])) _
        refine XS.aloadN X24.here hx rfl (hb hby d5_64) rfl rfl ?_
        show Steps p.tables e below (T24.setTop (mkF m 65 #[.val (.ref q), .val (.ref ra), .val (.ref ib), .val (.int cd), .val (.int (0 : Int32)), .val (.int (1 : Int32)), .unset] [(.ref ib)])) _
        refine XS.iconst X24.here hx rfl (hb hby d5_65) ?_
        show Steps p.tables e below (T24.setTop (mkF m 66 #[.val (.ref q), .val (.ref ra), .val (.ref ib), .val (.int cd), .val (.int (0 : Int32)), .val (.int (1 : Int32)), .unset] [(.int (0 : Int32)), (.ref ib)])) _
        refine X24.baloadBooleans hx (j := (0 : Int32)) (v := (.int (1 : Int32))) (heq_of e24 Ar38.1) (State.isArrayOf_alike hZ.alike Ar38.2.1) Ar38.2.2 hin38 hat38 (g := (mkF m 66 #[.val (.ref q), .val (.ref ra), .val (.ref ib), .val (.int cd), .val (.int (0 : Int32)), .val (.int (1 : Int32)), .unset] [(.int (0 : Int32)), (.ref ib)])) rfl rfl (hb hby d5_66) _ ?_
        show Steps p.tables e below (T24.setTop (mkF m 67 #[.val (.ref q), .val (.ref ra), .val (.ref ib), .val (.int cd), .val (.int (0 : Int32)), .val (.int (1 : Int32)), .unset] [(.int (1 : Int32))])) _
        refine XS.ifYes X24.here hx rfl (pc0 := 67) (pc' := 80) rfl (hb hby d5_67) rfl ((if0 _ _).trans (feq (by decide)).2) (by decide) (by decide) ?_
        show Steps p.tables e below (T24.setTop (mkF m 80 #[.val (.ref q), .val (.ref ra), .val (.ref ib), .val (.int cd), .val (.int (0 : Int32)), .val (.int (1 : Int32)), .unset] [])) _
        refine XS.iconst X24.here hx rfl (hb hby d5_80) ?_
        show Steps p.tables e below (T24.setTop (mkF m 81 #[.val (.ref q), .val (.ref ra), .val (.ref ib), .val (.int cd), .val (.int (0 : Int32)), .val (.int (1 : Int32)), .unset] [(.int (0 : Int32))])) _
        refine XS.istore X24.here hx rfl (hb hby d5_81) rfl (l' := #[.val (.ref q), .val (.ref ra), .val (.ref ib), .val (.int cd), .val (.int (0 : Int32)), .val (.int (1 : Int32)), .val (.int (0 : Int32))]) rfl ?_
        show Steps p.tables e below (T24.setTop (mkF m 83 #[.val (.ref q), .val (.ref ra), .val (.ref ib), .val (.int cd), .val (.int (0 : Int32)), .val (.int (1 : Int32)), .val (.int (0 : Int32))] [])) _
        refine XS.aloadN X24.here hx rfl (hb hby d5_83) rfl rfl ?_
        show Steps p.tables e below (T24.setTop (mkF m 84 #[.val (.ref q), .val (.ref ra), .val (.ref ib), .val (.int cd), .val (.int (0 : Int32)), .val (.int (1 : Int32)), .val (.int (0 : Int32))] [(.ref q)])) _
        refine st39.trans ?_
        show Steps p.tables e below (T39.setTop (mkF m 87 #[.val (.ref q), .val (.ref ra), .val (.ref ib), .val (.int cd), .val (.int (0 : Int32)), .val (.int (1 : Int32)), .val (.int (0 : Int32))] [(.int (0 : Int32))])) _
        refine XS.iload X39.here hx rfl (hb hby d5_87) rfl ?_
        show Steps p.tables e below (T39.setTop (mkF m 89 #[.val (.ref q), .val (.ref ra), .val (.ref ib), .val (.int cd), .val (.int (0 : Int32)), .val (.int (1 : Int32)), .val (.int (0 : Int32))] [(.int (0 : Int32)), (.int (0 : Int32))])) _
        refine XS.icmpNo X39.here hx rfl (hb hby d5_89) rfl (teq rfl).2 ?_
        show Steps p.tables e below (T39.setTop (mkF m 92 #[.val (.ref q), .val (.ref ra), .val (.ref ib), .val (.int cd), .val (.int (0 : Int32)), .val (.int (1 : Int32)), .val (.int (0 : Int32))] [])) _
        refine XS.iconst X39.here hx rfl (hb hby d5_92) ?_
        show Steps p.tables e below (T39.setTop (mkF m 93 #[.val (.ref q), .val (.ref ra), .val (.ref ib), .val (.int cd), .val (.int (0 : Int32)), .val (.int (1 : Int32)), .val (.int (0 : Int32))] [(.int (1 : Int32))])) _
        refine XS.goto X39.here hx rfl (pc0 := 93) (pc' := 97) rfl (hb hby d5_93) (by decide) (by decide) ?_
        show Steps p.tables e below (T39.setTop (mkF m 97 #[.val (.ref q), .val (.ref ra), .val (.ref ib), .val (.int cd), .val (.int (0 : Int32)), .val (.int (1 : Int32)), .val (.int (0 : Int32))] [(.int (1 : Int32))])) _
        exact retN X39 hx (t := .boolean) Bd.returns (by simp) (hb hby d5_97) hr
      · show Q5_9 Z q ra ib cd ta tb ka kb h0 n0 _ T39.heap _
        rw [e39]
        exact ⟨rfl, N39, K37, F26, F27, F28, F29, F25, F30, F31, F32, F33, F34, F35⟩
theorem ef_5_10 (m : MethodId) (x0 : Addr) (x1 : Addr) (x2 : Addr) (x3 : Int32) : entryFrame m #[(.ref x0), (.ref x1), (.ref x2), (.int x3)] 7 = mkF m 0 #[.val (.ref x0), .val (.ref x1), .val (.ref x2), .val (.int x3), .unset, .unset, .unset] [] := by first | (simp [entryFrame, mkF, argsToLocals, Value.category]; done) | rfl
theorem own_split_5_10_5 (cd : Int32) (hk : (cd &&& (1 : Int32)) = (0 : Int32)) (v3 : Int32) (hv3 : v3 = (cd &&& (1 : Int32))) : v3 = (0 : Int32) := by rw [hv3]; exact hk
def Q5_10 (Z : State) (q : Addr) (ra : Addr) (ib : Addr) (cd : Int32) (ta : Addr) (tb : Addr) (ka : ClassId) (kb : ClassId) (h0 : Heap) (n0 : Nat) (v : Option Value) (h : Heap) (L : List Loc) : Prop := v = some (.int (1 : Int32)) ∧ Fr n0 L ∧ Keep h0 h [q, ta, tb, ib] ∧ Exa Z h q "com/example/evenkeel/evenkeel/TaskQueue" ∧ Exa Z h ta "com/example/evenkeel/evenkeel/QueuedTasks" ∧ Exa Z h tb "com/example/evenkeel/evenkeel/QueuedTasks" ∧ Arv Z h ra ka (.object "com/example/evenkeel/evenkeel/QueuedTasks") (2 : Int32) [(.ref ta), (.ref tb)] .null ∧ Arv Z h ib kb .boolean (2 : Int32) [(.int (0 : Int32)), (.int (1 : Int32))] (.int (0 : Int32)) ∧ Fld Z h q "com/example/evenkeel/evenkeel/TaskQueue" "first" "Lcom/example/evenkeel/evenkeel/QueuedTasks;" (.ref tb) ∧ Fld Z h q "com/example/evenkeel/evenkeel/TaskQueue" "last" "Lcom/example/evenkeel/evenkeel/QueuedTasks;" (.ref tb) ∧ Fld Z h ta "com/example/evenkeel/evenkeel/QueuedTasks" "before" "Lcom/example/evenkeel/evenkeel/QueuedTasks;" .null ∧ Fld Z h ta "com/example/evenkeel/evenkeel/QueuedTasks" "after" "Lcom/example/evenkeel/evenkeel/QueuedTasks;" .null ∧ Fld Z h tb "com/example/evenkeel/evenkeel/QueuedTasks" "before" "Lcom/example/evenkeel/evenkeel/QueuedTasks;" .null ∧ Fld Z h tb "com/example/evenkeel/evenkeel/QueuedTasks" "after" "Lcom/example/evenkeel/evenkeel/QueuedTasks;" .null
set_option maxRecDepth 65536 in
set_option maxHeartbeats 40000000 in
theorem rm5_10 (l : Launch) (Z : State) (a0 : Array Value) (hw : ∀ d ∈ tables_1, d.before a0 Z = true) (ws : List Jvm.Cond) (q : Addr) (ra : Addr) (ib : Addr) (cd : Int32) (ta : Addr) (tb : Addr) (ka : ClassId) (kb : ClassId) (h0 : Heap) (n0 : Nat) (Z0 : n0 ≤ h0.size) (I0 : Exa Z h0 q "com/example/evenkeel/evenkeel/TaskQueue") (I1 : Exa Z h0 ta "com/example/evenkeel/evenkeel/QueuedTasks") (I2 : Exa Z h0 tb "com/example/evenkeel/evenkeel/QueuedTasks") (I3 : Arv Z h0 ra ka (.object "com/example/evenkeel/evenkeel/QueuedTasks") (2 : Int32) [(.ref ta), (.ref tb)] .null) (I4 : Arv Z h0 ib kb .boolean (2 : Int32) [(.int (1 : Int32)), (.int (1 : Int32))] (.int (0 : Int32))) (I5 : Fld Z h0 q "com/example/evenkeel/evenkeel/TaskQueue" "first" "Lcom/example/evenkeel/evenkeel/QueuedTasks;" (.ref ta)) (I6 : Fld Z h0 q "com/example/evenkeel/evenkeel/TaskQueue" "last" "Lcom/example/evenkeel/evenkeel/QueuedTasks;" (.ref tb)) (I7 : Fld Z h0 ta "com/example/evenkeel/evenkeel/QueuedTasks" "before" "Lcom/example/evenkeel/evenkeel/QueuedTasks;" .null) (I8 : Fld Z h0 ta "com/example/evenkeel/evenkeel/QueuedTasks" "after" "Lcom/example/evenkeel/evenkeel/QueuedTasks;" (.ref tb)) (I9 : Fld Z h0 tb "com/example/evenkeel/evenkeel/QueuedTasks" "before" "Lcom/example/evenkeel/evenkeel/QueuedTasks;" (.ref ta)) (I10 : Fld Z h0 tb "com/example/evenkeel/evenkeel/QueuedTasks" "after" "Lcom/example/evenkeel/evenkeel/QueuedTasks;" .null) (g_q : n0 ≤ q) (g_ta : n0 ≤ ta) (g_tb : n0 ≤ tb) (g_ib : n0 ≤ ib) (ne_q_ta : q ≠ ta) (ne_q_tb : q ≠ tb) (ne_ta_tb : ta ≠ tb) (ne_ra_q : ra ≠ q) (ne_ra_ta : ra ≠ ta) (ne_ra_tb : ra ≠ tb) (ne_ib_q : ib ≠ q) (ne_ib_ta : ib ≠ ta) (ne_ib_tb : ib ≠ tb) (ne_ra_ib : ra ≠ ib) (hk : (cd &&& (1 : Int32)) = (0 : Int32)) :
    MetFree l (⟨"com/example/evenkeel/evenkeel/TaskQueueIsEmptyPinLaw", "step", "(Lcom/example/evenkeel/evenkeel/TaskQueue;[Lcom/example/evenkeel/evenkeel/QueuedTasks;[ZI)Z"⟩ : MethodName) (head1 (Jvm.Cond.code (⟨"com/example/evenkeel/evenkeel/TaskQueueIsEmptyPinLaw", "step", "(Lcom/example/evenkeel/evenkeel/TaskQueue;[Lcom/example/evenkeel/evenkeel/QueuedTasks;[ZI)Z"⟩ : MethodName) method_3_code 7 (some .boolean) :: ws) ({ frames := 1, cells := 0, slots := 0, locals := 13 } : Room)) (fun a U => a = #[(.ref q), (.ref ra), (.ref ib), (.int cd)] ∧ Z.Warmed39 U.vm ∧ U.heap = h0) (fun _ _ _ _ _ => True) (fun _ U o U' => ∃ v L, o = .returned v ∧ Q5_10 Z q ra ib cd ta tb ka kb h0 n0 v U'.heap L ∧ FrameEnd U o U' L ({ frames := 1, cells := 0, slots := 0, locals := 13 } : Room).cells ({ frames := 1, cells := 0, slots := 0, locals := 13 } : Room).slots) := by
  refine MetFree.of_bodySF (plainFor_of_name pn_5) hisR ?_
  intro p e s m args below meth c s₁ Bd hml0 hP hK
  obtain ⟨rfl, hZ, hh⟩ := hP
  have hx := Bd.exec
  have hby := Bd.bytes
  have hml : c.maxLocals = 7 := hml0
  have hown : s.vm.findClass "com/example/evenkeel/evenkeel/TaskQueueIsEmptyPinLaw" = some m.cls := findClass_of_methodNamed Bd.named
  have hnm := (name_of_methodNamed Bd.named Bd.method).1
  have X0 : Stand p l e ({ frames := 1, cells := 0, slots := 0, locals := 13 } : Room) s m #[(.ref q), (.ref ra), (.ref ib), (.int cd)] below meth c s₁ [] 0 0 := Stand.of_body Bd
  have e0 : s₁.heap = h0 := by rw [← hh, Bd.state]; rfl
  have N0 := Fr.nil n0
  have K0 : Keep h0 h0 [q, ta, tb, ib] := Keep.refl h0 _
  have pre0 : ∀ tq, Steps p.tables e below (s₁.setTop (mkF m 0 #[.val (.ref q), .val (.ref ra), .val (.ref ib), .val (.int cd), .unset, .unset, .unset] [])) tq → Steps p.tables e below (s₁.setTop (entryFrame m #[(.ref q), (.ref ra), (.ref ib), (.int cd)] 7)) tq := fun tq kq => castTop (ef_5_10 m q ra ib cd) kq
  obtain ⟨v3, hv3⟩ : ∃ z_q : Int32, z_q = (cd &&& (1 : Int32)) := ⟨_, rfl⟩
  have pre1 : ∀ tq, Steps p.tables e below (s₁.setTop (mkF m 5 #[.val (.ref q), .val (.ref ra), .val (.ref ib), .val (.int cd), .val (.int v3), .unset, .unset] [])) tq → Steps p.tables e below (s₁.setTop (entryFrame m #[(.ref q), (.ref ra), (.ref ib), (.int cd)] 7)) tq := by
    intro tq kt
    refine pre0 _ ?_
    show Steps p.tables e below (s₁.setTop (mkF m 0 #[.val (.ref q), .val (.ref ra), .val (.ref ib), .val (.int cd), .unset, .unset, .unset] [])) _
    refine XS.iloadN X0.here hx rfl (hb hby d5_0) rfl ?_
    show Steps p.tables e below (s₁.setTop (mkF m 1 #[.val (.ref q), .val (.ref ra), .val (.ref ib), .val (.int cd), .unset, .unset, .unset] [(.int cd)])) _
    refine XS.iconst X0.here hx rfl (hb hby d5_1) ?_
    show Steps p.tables e below (s₁.setTop (mkF m 2 #[.val (.ref q), .val (.ref ra), .val (.ref ib), .val (.int cd), .unset, .unset, .unset] [(.int (1 : Int32)), (.int cd)])) _
    refine XS.iand X0.here hx rfl (hb hby d5_2) rfl ?_
    show Steps p.tables e below (s₁.setTop (mkF m 3 #[.val (.ref q), .val (.ref ra), .val (.ref ib), .val (.int cd), .unset, .unset, .unset] [(.int (cd &&& (1 : Int32)))])) _
    refine XS.istore X0.here hx rfl (hb hby d5_3) rfl (l' := #[.val (.ref q), .val (.ref ra), .val (.ref ib), .val (.int cd), .val (.int v3), .unset, .unset]) (by rw [hv3]; rfl) ?_
    show Steps p.tables e below (s₁.setTop (mkF m 5 #[.val (.ref q), .val (.ref ra), .val (.ref ib), .val (.int cd), .val (.int v3), .unset, .unset] [])) _
    exact kt
  rcases (own_split_5_10_5 cd hk v3 hv3) with hs2
  · subst hs2
    obtain ⟨v10, hv10⟩ : ∃ z_q : Int32, z_q = (((cd.toUInt32 >>> ((1 : Int32) &&& 31).toUInt32).toInt32) &&& (1 : Int32)) := ⟨_, rfl⟩
    obtain ⟨cl3, Ar3, q3, S3, M3, H3, G3⟩ := id I4
    have hin3 : ¬ ((0 : Int32) < 0 ∨ cl3.slots.size ≤ ((0 : Int32)).toNatClampNeg) := inb_of S3 ⟨by decide, by decide⟩
    have hat3 : cl3.slots[((0 : Int32)).toNatClampNeg]? = some (.int (1 : Int32)) := Has.at H3 hin3 rfl
    obtain ⟨cl4, Ar4, q4, S4, M4, H4, G4⟩ := id I3
    have hin4 : ¬ ((0 : Int32) < 0 ∨ cl4.slots.size ≤ ((0 : Int32)).toNatClampNeg) := inb_of S4 ⟨by decide, by decide⟩
    have hat4 : cl4.slots[((0 : Int32)).toNatClampNeg]? = some (.ref ta) := Has.at H4 hin4 rfl
    obtain ⟨cq5, kq5, q5a, q5b, q5c⟩ := isOf hZ e0 I0
    obtain ⟨_, _, ⟨T5, L5, k5, n5⟩, -, X5, ⟨Lc5, hQ5, l5, y5, z5⟩, st5⟩ := X0.virtualBack hx (y := (⟨"com/example/evenkeel/evenkeel/TaskQueue", "remove", "(Lcom/example/evenkeel/evenkeel/QueuedTasks;)V"⟩ : MethodName)) (z := (⟨"com/example/evenkeel/evenkeel/TaskQueue", "remove", "(Lcom/example/evenkeel/evenkeel/QueuedTasks;)V"⟩ : MethodName)) hown (mvT hZ (hw _ (List.mem_of_getElem? (i := 58) rfl))) (mvT hZ (hw _ (List.mem_of_getElem? (i := 59) rfl))) (notFace_of_selects (args := #[]) (mvT hZ (hw _ (List.mem_of_getElem? (i := 61) rfl)))) (mvT hZ (hw _ (List.mem_of_getElem? (i := 61) rfl))) (mvT hZ (hw _ (List.mem_of_getElem? (i := 60) rfl))) (by decide) (backOf (W := 0) (rm8_1 l Z a0 hw [] q ta tb h0 n0 Z0 I8 I5 I6 I7 I9 I10 I2 I0 I1 g_q g_ta g_tb ne_q_ta ne_q_tb ne_ta_tb) hZ (hw _ (List.mem_of_getElem? (i := 62) rfl)) (hw _ (List.mem_of_getElem? (i := 2) rfl)) (by decide) (by decide)) q5a q5c (g := (mkF m 24 #[.val (.ref q), .val (.ref ra), .val (.ref ib), .val (.int cd), .val (.int (0 : Int32)), .val (.int v10), .unset] [(.ref ta), (.ref q)])) rfl (by rw [hml]; rfl) (Steps.refl _) (argsL := [(.ref ta)]) (rest := []) (lenOf pd_0 rfl) rfl (by show 2 * 0 + _ ≤ _; exact Nat.le_of_eq rfl) (hb hby d5_24) (fun _ _ => ⟨rfl, e0, (by decide : 0 + 0 ≤ _), (by decide : 0 + 0 ≤ _)⟩)
    dsimp only [Pt.U, Pt.locs, Pt.cells, Pt.slots] at X5 l5 y5 z5 st5 hQ5
    subst l5 y5 z5
    obtain ⟨rfl, N5q, K5q, F6, F7, F8, F9, F10, F11, F12, F13, F14⟩ := hQ5
    have N5 := Fr.app N0 N5q
    have F15 : Exa Z T5.heap q "com/example/evenkeel/evenkeel/TaskQueue" := I0.keep K5q
    have F16 : Exa Z T5.heap ta "com/example/evenkeel/evenkeel/QueuedTasks" := I1.keep K5q
    have F17 : Exa Z T5.heap tb "com/example/evenkeel/evenkeel/QueuedTasks" := I2.keep K5q
    have F18 : Arv Z T5.heap ra ka (.object "com/example/evenkeel/evenkeel/QueuedTasks") (2 : Int32) [(.ref ta), (.ref tb)] .null := I3.keep K5q (ninS ne_ra_q (ninS ne_ra_ta (ninS ne_ra_tb nin0)))
    have F19 : Arv Z T5.heap ib kb .boolean (2 : Int32) [(.int (1 : Int32)), (.int (1 : Int32))] (.int (0 : Int32)) := I4.keep K5q (ninS ne_ib_q (ninS ne_ib_ta (ninS ne_ib_tb nin0)))
    have Z20 : n0 ≤ T5.heap.size := Nat.le_trans Z0 K5q.1
    have K21 : Keep h0 T5.heap [q, ta, tb, ib] := K0.trans K5q (allS (Or.inl (List.mem_of_getElem? (i := 0) rfl)) (allS (Or.inl (List.mem_of_getElem? (i := 1) rfl)) (allS (Or.inl (List.mem_of_getElem? (i := 2) rfl)) all0)))
    obtain ⟨cl22, Ar22, q22, S22, M22, H22, G22⟩ := id F19
    have hin22 : ¬ ((0 : Int32) < 0 ∨ cl22.slots.size ≤ ((0 : Int32)).toNatClampNeg) := inb_of S22 ⟨by decide, by decide⟩
    obtain ⟨T22, hX22, X22, e22, W22, st22⟩ := stZ X5 hx hZ rfl Ar22 (j := (0 : Int32)) hin22 (g := (mkF m 31 #[.val (.ref q), .val (.ref ra), .val (.ref ib), .val (.int cd), .val (.int (0 : Int32)), .val (.int v10), .unset] [(.int (0 : Int32)), (.int (0 : Int32)), (.ref ib)])) rfl rfl (hb hby d5_31)
    have F23 : Arv Z hX22 ib kb .boolean (2 : Int32) [(.int (0 : Int32)), (.int (1 : Int32))] (.int (0 : Int32)) := Arv.set Ar22 q22 S22 M22 H22 G22 (fits_nar_bool _) W22 0 rfl (Nat.le_of_ble_eq_true rfl)
    have N22 := Fr.snoc X22 N5 g_ib
    have F24 : Exa Z hX22 q "com/example/evenkeel/evenkeel/TaskQueue" := F13.wr W22
    have F25 : Exa Z hX22 ta "com/example/evenkeel/evenkeel/QueuedTasks" := F14.wr W22
    have F26 : Exa Z hX22 tb "com/example/evenkeel/evenkeel/QueuedTasks" := F12.wr W22
    have F27 : Arv Z hX22 ra ka (.object "com/example/evenkeel/evenkeel/QueuedTasks") (2 : Int32) [(.ref ta), (.ref tb)] .null := F18.other W22 ne_ra_ib
    have F28 : Fld Z hX22 q "com/example/evenkeel/evenkeel/TaskQueue" "first" "Lcom/example/evenkeel/evenkeel/QueuedTasks;" (.ref tb) := F6.other W22 (Or.inl (Ne.symm ne_ib_q))
    have F29 : Fld Z hX22 q "com/example/evenkeel/evenkeel/TaskQueue" "last" "Lcom/example/evenkeel/evenkeel/QueuedTasks;" (.ref tb) := F7.other W22 (Or.inl (Ne.symm ne_ib_q))
    have F30 : Fld Z hX22 ta "com/example/evenkeel/evenkeel/QueuedTasks" "before" "Lcom/example/evenkeel/evenkeel/QueuedTasks;" .null := F8.other W22 (Or.inl (Ne.symm ne_ib_ta))
    have F31 : Fld Z hX22 ta "com/example/evenkeel/evenkeel/QueuedTasks" "after" "Lcom/example/evenkeel/evenkeel/QueuedTasks;" .null := F9.other W22 (Or.inl (Ne.symm ne_ib_ta))
    have F32 : Fld Z hX22 tb "com/example/evenkeel/evenkeel/QueuedTasks" "before" "Lcom/example/evenkeel/evenkeel/QueuedTasks;" .null := F10.other W22 (Or.inl (Ne.symm ne_ib_tb))
    have F33 : Fld Z hX22 tb "com/example/evenkeel/evenkeel/QueuedTasks" "after" "Lcom/example/evenkeel/evenkeel/QueuedTasks;" .null := F11.other W22 (Or.inl (Ne.symm ne_ib_tb))
    have Z34 : n0 ≤ hX22.size := Nat.le_trans Z20 (Keep.of_wr W22).1
    have K35 : Keep h0 hX22 [q, ta, tb, ib] := K21.wr W22 (Or.inl (List.mem_of_getElem? (i := 3) rfl))
    obtain ⟨cl36, Ar36, q36, S36, M36, H36, G36⟩ := id F23
    have hin36 : ¬ ((0 : Int32) < 0 ∨ cl36.slots.size ≤ ((0 : Int32)).toNatClampNeg) := inb_of S36 ⟨by decide, by decide⟩
    have hat36 : cl36.slots[((0 : Int32)).toNatClampNeg]? = some (.int (0 : Int32)) := Has.at H36 hin36 rfl
    obtain ⟨cl37, Ar37, q37, S37, M37, H37, G37⟩ := id F23
    have hin37 : ¬ ((1 : Int32) < 0 ∨ cl37.slots.size ≤ ((1 : Int32)).toNatClampNeg) := inb_of S37 ⟨by decide, by decide⟩
    have hat37 : cl37.slots[((1 : Int32)).toNatClampNeg]? = some (.int (1 : Int32)) := Has.at H37 hin37 rfl
    obtain ⟨cq38, kq38, q38a, q38b, q38c⟩ := isOf hZ e22 F24
    obtain ⟨_, _, ⟨T38, L38, k38, n38⟩, -, X38, ⟨Lc38, hQ38, l38, y38, z38⟩, st38⟩ := X22.virtualBack hx (y := (⟨"com/example/evenkeel/evenkeel/TaskQueue", "isEmpty", "()Z"⟩ : MethodName)) (z := (⟨"com/example/evenkeel/evenkeel/TaskQueue", "isEmpty", "()Z"⟩ : MethodName)) hown (mvT hZ (hw _ (List.mem_of_getElem? (i := 31) rfl))) (mvT hZ (hw _ (List.mem_of_getElem? (i := 32) rfl))) (notFace_of_selects (args := #[]) (mvT hZ (hw _ (List.mem_of_getElem? (i := 34) rfl)))) (mvT hZ (hw _ (List.mem_of_getElem? (i := 34) rfl))) (mvT hZ (hw _ (List.mem_of_getElem? (i := 33) rfl))) (by decide) (backOf (W := 0) (rm4_1 l Z a0 hw [] q tb hX22 n0 Z34 F28) hZ (hw _ (List.mem_of_getElem? (i := 35) rfl)) (hw _ (List.mem_of_getElem? (i := 2) rfl)) (by decide) (by decide)) q38a q38c (g := (mkF m 84 #[.val (.ref q), .val (.ref ra), .val (.ref ib), .val (.int cd), .val (.int (0 : Int32)), .val (.int v10), .val (.int (0 : Int32))] [(.ref q)])) rfl (by rw [hml]; rfl) (Steps.refl _) (argsL := []) (rest := []) (lenOf pd_1 rfl) rfl (by show 2 * 0 + _ ≤ _; exact Nat.le_of_eq rfl) (hb hby d5_84) (fun _ _ => ⟨rfl, e22, (by decide : 0 + 0 ≤ _), (by decide : 0 + 0 ≤ _)⟩)
    dsimp only [Pt.U, Pt.locs, Pt.cells, Pt.slots] at X38 l38 y38 z38 st38 hQ38
    subst l38 y38 z38
    obtain ⟨rfl, N38q, e38⟩ := hQ38
    have N38 := Fr.app N22 N38q
    obtain ⟨fs, hr, hrun, hended, hW, hsame⟩ := X38.leave (v := some (Value.int (1 : Int32))) (fun h => by rw [Bd.returns] at h; cases h)
    refine ⟨_, _, pre1 _ ?_, hrun, hended, _, _, rfl, ?_, ⟨_, rfl⟩, hW, hsame.mono (by decide) (by decide)⟩
    · skip
      show Steps p.tables e below (s₁.setTop (mkF m 5 #[.val (.ref q), .val (.ref ra), .val (.ref ib), .val (.int cd), .val (.int (0 : Int32)), .unset, .unset] [])) _
      refine XS.iloadN X0.here hx rfl (hb hby d5_5) rfl ?_
      show Steps p.tables e below (s₁.setTop (mkF m 6 #[.val (.ref q), .val (.ref ra), .val (.ref ib), .val (.int cd), .val (.int (0 : Int32)), .unset, .unset] [(.int cd)])) _
      refine XS.iconst X0.here hx rfl (hb hby d5_6) ?_
      show Steps p.tables e below (s₁.setTop (mkF m 7 #[.val (.ref q), .val (.ref ra), .val (.ref ib), .val (.int cd), .val (.int (0 : Int32)), .unset, .unset] [(.int (1 : Int32)), (.int cd)])) _
      refine XS.iushr X0.here hx rfl (hb hby d5_7) rfl ?_
      show Steps p.tables e below (s₁.setTop (mkF m 8 #[.val (.ref q), .val (.ref ra), .val (.ref ib), .val (.int cd), .val (.int (0 : Int32)), .unset, .unset] [(.int ((cd.toUInt32 >>> ((1 : Int32) &&& 31).toUInt32).toInt32))])) _
      refine XS.iconst X0.here hx rfl (hb hby d5_8) ?_
      show Steps p.tables e below (s₁.setTop (mkF m 9 #[.val (.ref q), .val (.ref ra), .val (.ref ib), .val (.int cd), .val (.int (0 : Int32)), .unset, .unset] [(.int (1 : Int32)), (.int ((cd.toUInt32 >>> ((1 : Int32) &&& 31).toUInt32).toInt32))])) _
      refine XS.iand X0.here hx rfl (hb hby d5_9) rfl ?_
      show Steps p.tables e below (s₁.setTop (mkF m 10 #[.val (.ref q), .val (.ref ra), .val (.ref ib), .val (.int cd), .val (.int (0 : Int32)), .unset, .unset] [(.int (((cd.toUInt32 >>> ((1 : Int32) &&& 31).toUInt32).toInt32) &&& (1 : Int32)))])) _
      refine XS.istore X0.here hx rfl (hb hby d5_10) rfl (l' := #[.val (.ref q), .val (.ref ra), .val (.ref ib), .val (.int cd), .val (.int (0 : Int32)), .val (.int v10), .unset]) (by rw [hv10]; rfl) ?_
      show Steps p.tables e below (s₁.setTop (mkF m 12 #[.val (.ref q), .val (.ref ra), .val (.ref ib), .val (.int cd), .val (.int (0 : Int32)), .val (.int v10), .unset] [])) _
      refine XS.aloadN X0.here hx rfl (hb hby d5_12) rfl rfl ?_
      show Steps p.tables e below (s₁.setTop (mkF m 13 #[.val (.ref q), .val (.ref ra), .val (.ref ib), .val (.int cd), .val (.int (0 : Int32)), .val (.int v10), .unset] [(.ref ib)])) _
      refine XS.iload X0.here hx rfl (hb hby d5_13) rfl ?_
      show Steps p.tables e below (s₁.setTop (mkF m 15 #[.val (.ref q), .val (.ref ra), .val (.ref ib), .val (.int cd), .val (.int (0 : Int32)), .val (.int v10), .unset] [(.int (0 : Int32)), (.ref ib)])) _
      refine X0.baloadBooleans hx (j := (0 : Int32)) (v := (.int (1 : Int32))) (heq_of e0 Ar3.1) (State.isArrayOf_alike hZ.alike Ar3.2.1) Ar3.2.2 hin3 hat3 (g := (mkF m 15 #[.val (.ref q), .val (.ref ra), .val (.ref ib), .val (.int cd), .val (.int (0 : Int32)), .val (.int v10), .unset] [(.int (0 : Int32)), (.ref ib)])) rfl rfl (hb hby d5_15) _ ?_
      show Steps p.tables e below (s₁.setTop (mkF m 16 #[.val (.ref q), .val (.ref ra), .val (.ref ib), .val (.int cd), .val (.int (0 : Int32)), .val (.int v10), .unset] [(.int (1 : Int32))])) _
      refine XS.ifNo X0.here hx rfl (hb hby d5_16) rfl ((if0 _ _).trans (feq (by decide)).1) ?_
      show Steps p.tables e below (s₁.setTop (mkF m 19 #[.val (.ref q), .val (.ref ra), .val (.ref ib), .val (.int cd), .val (.int (0 : Int32)), .val (.int v10), .unset] [])) _
      refine XS.aloadN X0.here hx rfl (hb hby d5_19) rfl rfl ?_
      show Steps p.tables e below (s₁.setTop (mkF m 20 #[.val (.ref q), .val (.ref ra), .val (.ref ib), .val (.int cd), .val (.int (0 : Int32)), .val (.int v10), .unset] [(.ref q)])) _
      refine XS.aloadN X0.here hx rfl (hb hby d5_20) rfl rfl ?_
      show Steps p.tables e below (s₁.setTop (mkF m 21 #[.val (.ref q), .val (.ref ra), .val (.ref ib), .val (.int cd), .val (.int (0 : Int32)), .val (.int v10), .unset] [(.ref ra), (.ref q)])) _
      refine XS.iload X0.here hx rfl (hb hby d5_21) rfl ?_
      show Steps p.tables e below (s₁.setTop (mkF m 23 #[.val (.ref q), .val (.ref ra), .val (.ref ib), .val (.int cd), .val (.int (0 : Int32)), .val (.int v10), .unset] [(.int (0 : Int32)), (.ref ra), (.ref q)])) _
      refine X0.aaload hx (j := (0 : Int32)) (v := (.ref ta)) (heq_of e0 Ar4.1) (State.isArrayOf_alike hZ.alike Ar4.2.1) rfl Ar4.2.2 hin4 hat4 (g := (mkF m 23 #[.val (.ref q), .val (.ref ra), .val (.ref ib), .val (.int cd), .val (.int (0 : Int32)), .val (.int v10), .unset] [(.int (0 : Int32)), (.ref ra), (.ref q)])) rfl rfl (hb hby d5_23) _ ?_
      show Steps p.tables e below (s₁.setTop (mkF m 24 #[.val (.ref q), .val (.ref ra), .val (.ref ib), .val (.int cd), .val (.int (0 : Int32)), .val (.int v10), .unset] [(.ref ta), (.ref q)])) _
      refine st5.trans ?_
      show Steps p.tables e below (T5.setTop (mkF m 27 #[.val (.ref q), .val (.ref ra), .val (.ref ib), .val (.int cd), .val (.int (0 : Int32)), .val (.int v10), .unset] [])) _
      refine XS.aloadN X5.here hx rfl (hb hby d5_27) rfl rfl ?_
      show Steps p.tables e below (T5.setTop (mkF m 28 #[.val (.ref q), .val (.ref ra), .val (.ref ib), .val (.int cd), .val (.int (0 : Int32)), .val (.int v10), .unset] [(.ref ib)])) _
      refine XS.iload X5.here hx rfl (hb hby d5_28) rfl ?_
      show Steps p.tables e below (T5.setTop (mkF m 30 #[.val (.ref q), .val (.ref ra), .val (.ref ib), .val (.int cd), .val (.int (0 : Int32)), .val (.int v10), .unset] [(.int (0 : Int32)), (.ref ib)])) _
      refine XS.iconst X5.here hx rfl (hb hby d5_30) ?_
      show Steps p.tables e below (T5.setTop (mkF m 31 #[.val (.ref q), .val (.ref ra), .val (.ref ib), .val (.int cd), .val (.int (0 : Int32)), .val (.int v10), .unset] [(.int (0 : Int32)), (.int (0 : Int32)), (.ref ib)])) _
      refine st22 _ ?_
      show Steps p.tables e below (T22.setTop (mkF m 32 #[.val (.ref q), .val (.ref ra), .val (.ref ib), .val (.int cd), .val (.int (0 : Int32)), .val (.int v10), .unset] [])) _
      refine XS.goto X22.here hx rfl (pc0 := 32) (pc' := 64) rfl (hb hby d5_32) (by decide) (by decide) ?_
      show Steps p.tables e below (T22.setTop (mkF m 64 #[.val (.ref q), .val (.ref ra), .val (.ref ib), .val (.int cd), .val (.int (0 : Int32)), .val (.int v10), .unset] [])) _
      refine XS.aloadN X22.here hx rfl (hb hby d5_64) rfl rfl ?_
      show Steps p.tables e below (T22.setTop (mkF m 65 #[.val (.ref q), .val (.ref ra), .val (.ref ib), .val (.int cd), .val (.int (0 : Int32)), .val (.int v10), .unset] [(.ref ib)])) _
      refine XS.iconst X22.here hx rfl (hb hby d5_65) ?_
      show Steps p.tables e below (T22.setTop (mkF m 66 #[.val (.ref q), .val (.ref ra), .val (.ref ib), .val (.int cd), .val (.int (0 : Int32)), .val (.int v10), .unset] [(.int (0 : Int32)), (.ref ib)])) _
      refine X22.baloadBooleans hx (j := (0 : Int32)) (v := (.int (0 : Int32))) (heq_of e22 Ar36.1) (State.isArrayOf_alike hZ.alike Ar36.2.1) Ar36.2.2 hin36 hat36 (g := (mkF m 66 #[.val (.ref q), .val (.ref ra), .val (.ref ib), .val (.int cd), .val (.int (0 : Int32)), .val (.int v10), .unset] [(.int (0 : Int32)), (.ref ib)])) rfl rfl (hb hby d5_66) _ ?_
      show Steps p.tables e below (T22.setTop (mkF m 67 #[.val (.ref q), .val (.ref ra), .val (.ref ib), .val (.int cd), .val (.int (0 : Int32)), .val (.int v10), .unset] [(.int (0 : Int32))])) _
      refine XS.ifNo X22.here hx rfl (hb hby d5_67) rfl ((if0 _ _).trans (teq rfl).2) ?_
      show Steps p.tables e below (T22.setTop (mkF m 70 #[.val (.ref q), .val (.ref ra), .val (.ref ib), .val (.int cd), .val (.int (0 : Int32)), .val (.int v10), .unset] [])) _
      refine XS.aloadN X22.here hx rfl (hb hby d5_70) rfl rfl ?_
      show Steps p.tables e below (T22.setTop (mkF m 71 #[.val (.ref q), .val (.ref ra), .val (.ref ib), .val (.int cd), .val (.int (0 : Int32)), .val (.int v10), .unset] [(.ref ib)])) _
      refine XS.iconst X22.here hx rfl (hb hby d5_71) ?_
      show Steps p.tables e below (T22.setTop (mkF m 72 #[.val (.ref q), .val (.ref ra), .val (.ref ib), .val (.int cd), .val (.int (0 : Int32)), .val (.int v10), .unset] [(.int (1 : Int32)), (.ref ib)])) _
      refine X22.baloadBooleans hx (j := (1 : Int32)) (v := (.int (1 : Int32))) (heq_of e22 Ar37.1) (State.isArrayOf_alike hZ.alike Ar37.2.1) Ar37.2.2 hin37 hat37 (g := (mkF m 72 #[.val (.ref q), .val (.ref ra), .val (.ref ib), .val (.int cd), .val (.int (0 : Int32)), .val (.int v10), .unset] [(.int (1 : Int32)), (.ref ib)])) rfl rfl (hb hby d5_72) _ ?_
      show Steps p.tables e below (T22.setTop (mkF m 73 #[.val (.ref q), .val (.ref ra), .val (.ref ib), .val (.int cd), .val (.int (0 : Int32)), .val (.int v10), .unset] [(.int (1 : Int32))])) _
      refine XS.ifYes X22.here hx rfl (pc0 := 73) (pc' := 80) rfl (hb hby d5_73) rfl ((if0 _ _).trans (feq (by decide)).2) (by decide) (by decide) ?_
      show Steps p.tables e below (T22.setTop (mkF m 80 #[.val (.ref q), .val (.ref ra), .val (.ref ib), .val (.int cd), .val (.int (0 : Int32)), .val (.int v10), .unset] [])) _
      refine XS.iconst X22.here hx rfl (hb hby d5_80) ?_
      show Steps p.tables e below (T22.setTop (mkF m 81 #[.val (.ref q), .val (.ref ra), .val (.ref ib), .val (.int cd), .val (.int (0 : Int32)), .val (.int v10), .unset] [(.int (0 : Int32))])) _
      refine XS.istore X22.here hx rfl (hb hby d5_81) rfl (l' := #[.val (.ref q), .val (.ref ra), .val (.ref ib), .val (.int cd), .val (.int (0 : Int32)), .val (.int v10), .val (.int (0 : Int32))]) rfl ?_
      show Steps p.tables e below (T22.setTop (mkF m 83 #[.val (.ref q), .val (.ref ra), .val (.ref ib), .val (.int cd), .val (.int (0 : Int32)), .val (.int v10), .val (.int (0 : Int32))] [])) _
      refine XS.aloadN X22.here hx rfl (hb hby d5_83) rfl rfl ?_
      show Steps p.tables e below (T22.setTop (mkF m 84 #[.val (.ref q), .val (.ref ra), .val (.ref ib), .val (.int cd), .val (.int (0 : Int32)), .val (.int v10), .val (.int (0 : Int32))] [(.ref q)])) _
      refine st38.trans ?_
      show Steps p.tables e below (T38.setTop (mkF m 87 #[.val (.ref q), .val (.ref ra), .val (.ref ib), .val (.int cd), .val (.int (0 : Int32)), .val (.int v10), .val (.int (0 : Int32))] [(.int (0 : Int32))])) _
      refine XS.iload X38.here hx rfl (hb hby d5_87) rfl ?_
      show Steps p.tables e below (T38.setTop (mkF m 89 #[.val (.ref q), .val (.ref ra), .val (.ref ib), .val (.int cd), .val (.int (0 : Int32)), .val (.int v10), .val (.int (0 : Int32))] [(.int (0 : Int32)), (.int (0 : Int32))])) _
      refine XS.icmpNo X38.here hx rfl (hb hby d5_89) rfl (teq rfl).2 ?_
      show Steps p.tables e below (T38.setTop (mkF m 92 #[.val (.ref q), .val (.ref ra), .val (.ref ib), .val (.int cd), .val (.int (0 : Int32)), .val (.int v10), .val (.int (0 : Int32))] [])) _
      refine XS.iconst X38.here hx rfl (hb hby d5_92) ?_
      show Steps p.tables e below (T38.setTop (mkF m 93 #[.val (.ref q), .val (.ref ra), .val (.ref ib), .val (.int cd), .val (.int (0 : Int32)), .val (.int v10), .val (.int (0 : Int32))] [(.int (1 : Int32))])) _
      refine XS.goto X38.here hx rfl (pc0 := 93) (pc' := 97) rfl (hb hby d5_93) (by decide) (by decide) ?_
      show Steps p.tables e below (T38.setTop (mkF m 97 #[.val (.ref q), .val (.ref ra), .val (.ref ib), .val (.int cd), .val (.int (0 : Int32)), .val (.int v10), .val (.int (0 : Int32))] [(.int (1 : Int32))])) _
      exact retN X38 hx (t := .boolean) Bd.returns (by simp) (hb hby d5_97) hr
    · show Q5_10 Z q ra ib cd ta tb ka kb h0 n0 _ T38.heap _
      rw [e38]
      exact ⟨rfl, N38, K35, F24, F25, F26, F27, F23, F28, F29, F30, F31, F32, F33⟩
theorem ef_5_11 (m : MethodId) (x0 : Addr) (x1 : Addr) (x2 : Addr) (x3 : Int32) : entryFrame m #[(.ref x0), (.ref x1), (.ref x2), (.int x3)] 7 = mkF m 0 #[.val (.ref x0), .val (.ref x1), .val (.ref x2), .val (.int x3), .unset, .unset, .unset] [] := by first | (simp [entryFrame, mkF, argsToLocals, Value.category]; done) | rfl
theorem own_split_5_11_5 (cd : Int32) (hk : (cd &&& (1 : Int32)) = (1 : Int32)) (v3 : Int32) (hv3 : v3 = (cd &&& (1 : Int32))) : v3 = (1 : Int32) := by rw [hv3]; exact hk
def Q5_11 (Z : State) (q : Addr) (ra : Addr) (ib : Addr) (cd : Int32) (ta : Addr) (tb : Addr) (ka : ClassId) (kb : ClassId) (h0 : Heap) (n0 : Nat) (v : Option Value) (h : Heap) (L : List Loc) : Prop := v = some (.int (1 : Int32)) ∧ Fr n0 L ∧ Keep h0 h [q, ta, tb, ib] ∧ Exa Z h q "com/example/evenkeel/evenkeel/TaskQueue" ∧ Exa Z h ta "com/example/evenkeel/evenkeel/QueuedTasks" ∧ Exa Z h tb "com/example/evenkeel/evenkeel/QueuedTasks" ∧ Arv Z h ra ka (.object "com/example/evenkeel/evenkeel/QueuedTasks") (2 : Int32) [(.ref ta), (.ref tb)] .null ∧ Arv Z h ib kb .boolean (2 : Int32) [(.int (1 : Int32)), (.int (0 : Int32))] (.int (0 : Int32)) ∧ Fld Z h q "com/example/evenkeel/evenkeel/TaskQueue" "first" "Lcom/example/evenkeel/evenkeel/QueuedTasks;" (.ref ta) ∧ Fld Z h q "com/example/evenkeel/evenkeel/TaskQueue" "last" "Lcom/example/evenkeel/evenkeel/QueuedTasks;" (.ref ta) ∧ Fld Z h ta "com/example/evenkeel/evenkeel/QueuedTasks" "before" "Lcom/example/evenkeel/evenkeel/QueuedTasks;" .null ∧ Fld Z h ta "com/example/evenkeel/evenkeel/QueuedTasks" "after" "Lcom/example/evenkeel/evenkeel/QueuedTasks;" .null ∧ Fld Z h tb "com/example/evenkeel/evenkeel/QueuedTasks" "before" "Lcom/example/evenkeel/evenkeel/QueuedTasks;" .null ∧ Fld Z h tb "com/example/evenkeel/evenkeel/QueuedTasks" "after" "Lcom/example/evenkeel/evenkeel/QueuedTasks;" .null
set_option maxRecDepth 65536 in
set_option maxHeartbeats 40000000 in
theorem rm5_11 (l : Launch) (Z : State) (a0 : Array Value) (hw : ∀ d ∈ tables_1, d.before a0 Z = true) (ws : List Jvm.Cond) (q : Addr) (ra : Addr) (ib : Addr) (cd : Int32) (ta : Addr) (tb : Addr) (ka : ClassId) (kb : ClassId) (h0 : Heap) (n0 : Nat) (Z0 : n0 ≤ h0.size) (I0 : Exa Z h0 q "com/example/evenkeel/evenkeel/TaskQueue") (I1 : Exa Z h0 ta "com/example/evenkeel/evenkeel/QueuedTasks") (I2 : Exa Z h0 tb "com/example/evenkeel/evenkeel/QueuedTasks") (I3 : Arv Z h0 ra ka (.object "com/example/evenkeel/evenkeel/QueuedTasks") (2 : Int32) [(.ref ta), (.ref tb)] .null) (I4 : Arv Z h0 ib kb .boolean (2 : Int32) [(.int (1 : Int32)), (.int (1 : Int32))] (.int (0 : Int32))) (I5 : Fld Z h0 q "com/example/evenkeel/evenkeel/TaskQueue" "first" "Lcom/example/evenkeel/evenkeel/QueuedTasks;" (.ref ta)) (I6 : Fld Z h0 q "com/example/evenkeel/evenkeel/TaskQueue" "last" "Lcom/example/evenkeel/evenkeel/QueuedTasks;" (.ref tb)) (I7 : Fld Z h0 ta "com/example/evenkeel/evenkeel/QueuedTasks" "before" "Lcom/example/evenkeel/evenkeel/QueuedTasks;" .null) (I8 : Fld Z h0 ta "com/example/evenkeel/evenkeel/QueuedTasks" "after" "Lcom/example/evenkeel/evenkeel/QueuedTasks;" (.ref tb)) (I9 : Fld Z h0 tb "com/example/evenkeel/evenkeel/QueuedTasks" "before" "Lcom/example/evenkeel/evenkeel/QueuedTasks;" (.ref ta)) (I10 : Fld Z h0 tb "com/example/evenkeel/evenkeel/QueuedTasks" "after" "Lcom/example/evenkeel/evenkeel/QueuedTasks;" .null) (g_q : n0 ≤ q) (g_ta : n0 ≤ ta) (g_tb : n0 ≤ tb) (g_ib : n0 ≤ ib) (ne_q_ta : q ≠ ta) (ne_q_tb : q ≠ tb) (ne_ta_tb : ta ≠ tb) (ne_ra_q : ra ≠ q) (ne_ra_ta : ra ≠ ta) (ne_ra_tb : ra ≠ tb) (ne_ib_q : ib ≠ q) (ne_ib_ta : ib ≠ ta) (ne_ib_tb : ib ≠ tb) (ne_ra_ib : ra ≠ ib) (hk : (cd &&& (1 : Int32)) = (1 : Int32)) :
    MetFree l (⟨"com/example/evenkeel/evenkeel/TaskQueueIsEmptyPinLaw", "step", "(Lcom/example/evenkeel/evenkeel/TaskQueue;[Lcom/example/evenkeel/evenkeel/QueuedTasks;[ZI)Z"⟩ : MethodName) (head1 (Jvm.Cond.code (⟨"com/example/evenkeel/evenkeel/TaskQueueIsEmptyPinLaw", "step", "(Lcom/example/evenkeel/evenkeel/TaskQueue;[Lcom/example/evenkeel/evenkeel/QueuedTasks;[ZI)Z"⟩ : MethodName) method_3_code 7 (some .boolean) :: ws) ({ frames := 1, cells := 0, slots := 0, locals := 13 } : Room)) (fun a U => a = #[(.ref q), (.ref ra), (.ref ib), (.int cd)] ∧ Z.Warmed39 U.vm ∧ U.heap = h0) (fun _ _ _ _ _ => True) (fun _ U o U' => ∃ v L, o = .returned v ∧ Q5_11 Z q ra ib cd ta tb ka kb h0 n0 v U'.heap L ∧ FrameEnd U o U' L ({ frames := 1, cells := 0, slots := 0, locals := 13 } : Room).cells ({ frames := 1, cells := 0, slots := 0, locals := 13 } : Room).slots) := by
  refine MetFree.of_bodySF (plainFor_of_name pn_5) hisR ?_
  intro p e s m args below meth c s₁ Bd hml0 hP hK
  obtain ⟨rfl, hZ, hh⟩ := hP
  have hx := Bd.exec
  have hby := Bd.bytes
  have hml : c.maxLocals = 7 := hml0
  have hown : s.vm.findClass "com/example/evenkeel/evenkeel/TaskQueueIsEmptyPinLaw" = some m.cls := findClass_of_methodNamed Bd.named
  have hnm := (name_of_methodNamed Bd.named Bd.method).1
  have X0 : Stand p l e ({ frames := 1, cells := 0, slots := 0, locals := 13 } : Room) s m #[(.ref q), (.ref ra), (.ref ib), (.int cd)] below meth c s₁ [] 0 0 := Stand.of_body Bd
  have e0 : s₁.heap = h0 := by rw [← hh, Bd.state]; rfl
  have N0 := Fr.nil n0
  have K0 : Keep h0 h0 [q, ta, tb, ib] := Keep.refl h0 _
  have pre0 : ∀ tq, Steps p.tables e below (s₁.setTop (mkF m 0 #[.val (.ref q), .val (.ref ra), .val (.ref ib), .val (.int cd), .unset, .unset, .unset] [])) tq → Steps p.tables e below (s₁.setTop (entryFrame m #[(.ref q), (.ref ra), (.ref ib), (.int cd)] 7)) tq := fun tq kq => castTop (ef_5_11 m q ra ib cd) kq
  obtain ⟨v3, hv3⟩ : ∃ z_q : Int32, z_q = (cd &&& (1 : Int32)) := ⟨_, rfl⟩
  have pre1 : ∀ tq, Steps p.tables e below (s₁.setTop (mkF m 5 #[.val (.ref q), .val (.ref ra), .val (.ref ib), .val (.int cd), .val (.int v3), .unset, .unset] [])) tq → Steps p.tables e below (s₁.setTop (entryFrame m #[(.ref q), (.ref ra), (.ref ib), (.int cd)] 7)) tq := by
    intro tq kt
    refine pre0 _ ?_
    show Steps p.tables e below (s₁.setTop (mkF m 0 #[.val (.ref q), .val (.ref ra), .val (.ref ib), .val (.int cd), .unset, .unset, .unset] [])) _
    refine XS.iloadN X0.here hx rfl (hb hby d5_0) rfl ?_
    show Steps p.tables e below (s₁.setTop (mkF m 1 #[.val (.ref q), .val (.ref ra), .val (.ref ib), .val (.int cd), .unset, .unset, .unset] [(.int cd)])) _
    refine XS.iconst X0.here hx rfl (hb hby d5_1) ?_
    show Steps p.tables e below (s₁.setTop (mkF m 2 #[.val (.ref q), .val (.ref ra), .val (.ref ib), .val (.int cd), .unset, .unset, .unset] [(.int (1 : Int32)), (.int cd)])) _
    refine XS.iand X0.here hx rfl (hb hby d5_2) rfl ?_
    show Steps p.tables e below (s₁.setTop (mkF m 3 #[.val (.ref q), .val (.ref ra), .val (.ref ib), .val (.int cd), .unset, .unset, .unset] [(.int (cd &&& (1 : Int32)))])) _
    refine XS.istore X0.here hx rfl (hb hby d5_3) rfl (l' := #[.val (.ref q), .val (.ref ra), .val (.ref ib), .val (.int cd), .val (.int v3), .unset, .unset]) (by rw [hv3]; rfl) ?_
    show Steps p.tables e below (s₁.setTop (mkF m 5 #[.val (.ref q), .val (.ref ra), .val (.ref ib), .val (.int cd), .val (.int v3), .unset, .unset] [])) _
    exact kt
  rcases (own_split_5_11_5 cd hk v3 hv3) with hs2
  · subst hs2
    obtain ⟨v10, hv10⟩ : ∃ z_q : Int32, z_q = (((cd.toUInt32 >>> ((1 : Int32) &&& 31).toUInt32).toInt32) &&& (1 : Int32)) := ⟨_, rfl⟩
    obtain ⟨cl3, Ar3, q3, S3, M3, H3, G3⟩ := id I4
    have hin3 : ¬ ((1 : Int32) < 0 ∨ cl3.slots.size ≤ ((1 : Int32)).toNatClampNeg) := inb_of S3 ⟨by decide, by decide⟩
    have hat3 : cl3.slots[((1 : Int32)).toNatClampNeg]? = some (.int (1 : Int32)) := Has.at H3 hin3 rfl
    obtain ⟨cl4, Ar4, q4, S4, M4, H4, G4⟩ := id I3
    have hin4 : ¬ ((1 : Int32) < 0 ∨ cl4.slots.size ≤ ((1 : Int32)).toNatClampNeg) := inb_of S4 ⟨by decide, by decide⟩
    have hat4 : cl4.slots[((1 : Int32)).toNatClampNeg]? = some (.ref tb) := Has.at H4 hin4 rfl
    obtain ⟨cq5, kq5, q5a, q5b, q5c⟩ := isOf hZ e0 I0
    obtain ⟨_, _, ⟨T5, L5, k5, n5⟩, -, X5, ⟨Lc5, hQ5, l5, y5, z5⟩, st5⟩ := X0.virtualBack hx (y := (⟨"com/example/evenkeel/evenkeel/TaskQueue", "remove", "(Lcom/example/evenkeel/evenkeel/QueuedTasks;)V"⟩ : MethodName)) (z := (⟨"com/example/evenkeel/evenkeel/TaskQueue", "remove", "(Lcom/example/evenkeel/evenkeel/QueuedTasks;)V"⟩ : MethodName)) hown (mvT hZ (hw _ (List.mem_of_getElem? (i := 58) rfl))) (mvT hZ (hw _ (List.mem_of_getElem? (i := 59) rfl))) (notFace_of_selects (args := #[]) (mvT hZ (hw _ (List.mem_of_getElem? (i := 61) rfl)))) (mvT hZ (hw _ (List.mem_of_getElem? (i := 61) rfl))) (mvT hZ (hw _ (List.mem_of_getElem? (i := 60) rfl))) (by decide) (backOf (W := 0) (rm8_2 l Z a0 hw [] q tb ta h0 n0 Z0 I9 I5 I6 I10 I7 I8 I1 I0 I2 g_q g_tb g_ta ne_q_tb ne_q_ta (Ne.symm ne_ta_tb)) hZ (hw _ (List.mem_of_getElem? (i := 62) rfl)) (hw _ (List.mem_of_getElem? (i := 2) rfl)) (by decide) (by decide)) q5a q5c (g := (mkF m 24 #[.val (.ref q), .val (.ref ra), .val (.ref ib), .val (.int cd), .val (.int (1 : Int32)), .val (.int v10), .unset] [(.ref tb), (.ref q)])) rfl (by rw [hml]; rfl) (Steps.refl _) (argsL := [(.ref tb)]) (rest := []) (lenOf pd_0 rfl) rfl (by show 2 * 0 + _ ≤ _; exact Nat.le_of_eq rfl) (hb hby d5_24) (fun _ _ => ⟨rfl, e0, (by decide : 0 + 0 ≤ _), (by decide : 0 + 0 ≤ _)⟩)
    dsimp only [Pt.U, Pt.locs, Pt.cells, Pt.slots] at X5 l5 y5 z5 st5 hQ5
    subst l5 y5 z5
    obtain ⟨rfl, N5q, K5q, F6, F7, F8, F9, F10, F11, F12, F13, F14⟩ := hQ5
    have N5 := Fr.app N0 N5q
    have F15 : Exa Z T5.heap q "com/example/evenkeel/evenkeel/TaskQueue" := I0.keep K5q
    have F16 : Exa Z T5.heap ta "com/example/evenkeel/evenkeel/QueuedTasks" := I1.keep K5q
    have F17 : Exa Z T5.heap tb "com/example/evenkeel/evenkeel/QueuedTasks" := I2.keep K5q
    have F18 : Arv Z T5.heap ra ka (.object "com/example/evenkeel/evenkeel/QueuedTasks") (2 : Int32) [(.ref ta), (.ref tb)] .null := I3.keep K5q (ninS ne_ra_q (ninS ne_ra_tb (ninS ne_ra_ta nin0)))
    have F19 : Arv Z T5.heap ib kb .boolean (2 : Int32) [(.int (1 : Int32)), (.int (1 : Int32))] (.int (0 : Int32)) := I4.keep K5q (ninS ne_ib_q (ninS ne_ib_tb (ninS ne_ib_ta nin0)))
    have Z20 : n0 ≤ T5.heap.size := Nat.le_trans Z0 K5q.1
    have K21 : Keep h0 T5.heap [q, ta, tb, ib] := K0.trans K5q (allS (Or.inl (List.mem_of_getElem? (i := 0) rfl)) (allS (Or.inl (List.mem_of_getElem? (i := 2) rfl)) (allS (Or.inl (List.mem_of_getElem? (i := 1) rfl)) all0)))
    obtain ⟨cl22, Ar22, q22, S22, M22, H22, G22⟩ := id F19
    have hin22 : ¬ ((1 : Int32) < 0 ∨ cl22.slots.size ≤ ((1 : Int32)).toNatClampNeg) := inb_of S22 ⟨by decide, by decide⟩
    obtain ⟨T22, hX22, X22, e22, W22, st22⟩ := stZ X5 hx hZ rfl Ar22 (j := (1 : Int32)) hin22 (g := (mkF m 31 #[.val (.ref q), .val (.ref ra), .val (.ref ib), .val (.int cd), .val (.int (1 : Int32)), .val (.int v10), .unset] [(.int (0 : Int32)), (.int (1 : Int32)), (.ref ib)])) rfl rfl (hb hby d5_31)
    have F23 : Arv Z hX22 ib kb .boolean (2 : Int32) [(.int (1 : Int32)), (.int (0 : Int32))] (.int (0 : Int32)) := Arv.set Ar22 q22 S22 M22 H22 G22 (fits_nar_bool _) W22 1 rfl (Nat.le_of_ble_eq_true rfl)
    have N22 := Fr.snoc X22 N5 g_ib
    have F24 : Exa Z hX22 q "com/example/evenkeel/evenkeel/TaskQueue" := F13.wr W22
    have F25 : Exa Z hX22 ta "com/example/evenkeel/evenkeel/QueuedTasks" := F12.wr W22
    have F26 : Exa Z hX22 tb "com/example/evenkeel/evenkeel/QueuedTasks" := F14.wr W22
    have F27 : Arv Z hX22 ra ka (.object "com/example/evenkeel/evenkeel/QueuedTasks") (2 : Int32) [(.ref ta), (.ref tb)] .null := F18.other W22 ne_ra_ib
    have F28 : Fld Z hX22 q "com/example/evenkeel/evenkeel/TaskQueue" "first" "Lcom/example/evenkeel/evenkeel/QueuedTasks;" (.ref ta) := F6.other W22 (Or.inl (Ne.symm ne_ib_q))
    have F29 : Fld Z hX22 q "com/example/evenkeel/evenkeel/TaskQueue" "last" "Lcom/example/evenkeel/evenkeel/QueuedTasks;" (.ref ta) := F7.other W22 (Or.inl (Ne.symm ne_ib_q))
    have F30 : Fld Z hX22 tb "com/example/evenkeel/evenkeel/QueuedTasks" "before" "Lcom/example/evenkeel/evenkeel/QueuedTasks;" .null := F8.other W22 (Or.inl (Ne.symm ne_ib_tb))
    have F31 : Fld Z hX22 tb "com/example/evenkeel/evenkeel/QueuedTasks" "after" "Lcom/example/evenkeel/evenkeel/QueuedTasks;" .null := F9.other W22 (Or.inl (Ne.symm ne_ib_tb))
    have F32 : Fld Z hX22 ta "com/example/evenkeel/evenkeel/QueuedTasks" "before" "Lcom/example/evenkeel/evenkeel/QueuedTasks;" .null := F10.other W22 (Or.inl (Ne.symm ne_ib_ta))
    have F33 : Fld Z hX22 ta "com/example/evenkeel/evenkeel/QueuedTasks" "after" "Lcom/example/evenkeel/evenkeel/QueuedTasks;" .null := F11.other W22 (Or.inl (Ne.symm ne_ib_ta))
    have Z34 : n0 ≤ hX22.size := Nat.le_trans Z20 (Keep.of_wr W22).1
    have K35 : Keep h0 hX22 [q, ta, tb, ib] := K21.wr W22 (Or.inl (List.mem_of_getElem? (i := 3) rfl))
    obtain ⟨cl36, Ar36, q36, S36, M36, H36, G36⟩ := id F23
    have hin36 : ¬ ((0 : Int32) < 0 ∨ cl36.slots.size ≤ ((0 : Int32)).toNatClampNeg) := inb_of S36 ⟨by decide, by decide⟩
    have hat36 : cl36.slots[((0 : Int32)).toNatClampNeg]? = some (.int (1 : Int32)) := Has.at H36 hin36 rfl
    obtain ⟨cq37, kq37, q37a, q37b, q37c⟩ := isOf hZ e22 F24
    obtain ⟨_, _, ⟨T37, L37, k37, n37⟩, -, X37, ⟨Lc37, hQ37, l37, y37, z37⟩, st37⟩ := X22.virtualBack hx (y := (⟨"com/example/evenkeel/evenkeel/TaskQueue", "isEmpty", "()Z"⟩ : MethodName)) (z := (⟨"com/example/evenkeel/evenkeel/TaskQueue", "isEmpty", "()Z"⟩ : MethodName)) hown (mvT hZ (hw _ (List.mem_of_getElem? (i := 31) rfl))) (mvT hZ (hw _ (List.mem_of_getElem? (i := 32) rfl))) (notFace_of_selects (args := #[]) (mvT hZ (hw _ (List.mem_of_getElem? (i := 34) rfl)))) (mvT hZ (hw _ (List.mem_of_getElem? (i := 34) rfl))) (mvT hZ (hw _ (List.mem_of_getElem? (i := 33) rfl))) (by decide) (backOf (W := 0) (rm4_1 l Z a0 hw [] q ta hX22 n0 Z34 F28) hZ (hw _ (List.mem_of_getElem? (i := 35) rfl)) (hw _ (List.mem_of_getElem? (i := 2) rfl)) (by decide) (by decide)) q37a q37c (g := (mkF m 84 #[.val (.ref q), .val (.ref ra), .val (.ref ib), .val (.int cd), .val (.int (1 : Int32)), .val (.int v10), .val (.int (0 : Int32))] [(.ref q)])) rfl (by rw [hml]; rfl) (Steps.refl _) (argsL := []) (rest := []) (lenOf pd_1 rfl) rfl (by show 2 * 0 + _ ≤ _; exact Nat.le_of_eq rfl) (hb hby d5_84) (fun _ _ => ⟨rfl, e22, (by decide : 0 + 0 ≤ _), (by decide : 0 + 0 ≤ _)⟩)
    dsimp only [Pt.U, Pt.locs, Pt.cells, Pt.slots] at X37 l37 y37 z37 st37 hQ37
    subst l37 y37 z37
    obtain ⟨rfl, N37q, e37⟩ := hQ37
    have N37 := Fr.app N22 N37q
    obtain ⟨fs, hr, hrun, hended, hW, hsame⟩ := X37.leave (v := some (Value.int (1 : Int32))) (fun h => by rw [Bd.returns] at h; cases h)
    refine ⟨_, _, pre1 _ ?_, hrun, hended, _, _, rfl, ?_, ⟨_, rfl⟩, hW, hsame.mono (by decide) (by decide)⟩
    · skip
      show Steps p.tables e below (s₁.setTop (mkF m 5 #[.val (.ref q), .val (.ref ra), .val (.ref ib), .val (.int cd), .val (.int (1 : Int32)), .unset, .unset] [])) _
      refine XS.iloadN X0.here hx rfl (hb hby d5_5) rfl ?_
      show Steps p.tables e below (s₁.setTop (mkF m 6 #[.val (.ref q), .val (.ref ra), .val (.ref ib), .val (.int cd), .val (.int (1 : Int32)), .unset, .unset] [(.int cd)])) _
      refine XS.iconst X0.here hx rfl (hb hby d5_6) ?_
      show Steps p.tables e below (s₁.setTop (mkF m 7 #[.val (.ref q), .val (.ref ra), .val (.ref ib), .val (.int cd), .val (.int (1 : Int32)), .unset, .unset] [(.int (1 : Int32)), (.int cd)])) _
      refine XS.iushr X0.here hx rfl (hb hby d5_7) rfl ?_
      show Steps p.tables e below (s₁.setTop (mkF m 8 #[.val (.ref q), .val (.ref ra), .val (.ref ib), .val (.int cd), .val (.int (1 : Int32)), .unset, .unset] [(.int ((cd.toUInt32 >>> ((1 : Int32) &&& 31).toUInt32).toInt32))])) _
      refine XS.iconst X0.here hx rfl (hb hby d5_8) ?_
      show Steps p.tables e below (s₁.setTop (mkF m 9 #[.val (.ref q), .val (.ref ra), .val (.ref ib), .val (.int cd), .val (.int (1 : Int32)), .unset, .unset] [(.int (1 : Int32)), (.int ((cd.toUInt32 >>> ((1 : Int32) &&& 31).toUInt32).toInt32))])) _
      refine XS.iand X0.here hx rfl (hb hby d5_9) rfl ?_
      show Steps p.tables e below (s₁.setTop (mkF m 10 #[.val (.ref q), .val (.ref ra), .val (.ref ib), .val (.int cd), .val (.int (1 : Int32)), .unset, .unset] [(.int (((cd.toUInt32 >>> ((1 : Int32) &&& 31).toUInt32).toInt32) &&& (1 : Int32)))])) _
      refine XS.istore X0.here hx rfl (hb hby d5_10) rfl (l' := #[.val (.ref q), .val (.ref ra), .val (.ref ib), .val (.int cd), .val (.int (1 : Int32)), .val (.int v10), .unset]) (by rw [hv10]; rfl) ?_
      show Steps p.tables e below (s₁.setTop (mkF m 12 #[.val (.ref q), .val (.ref ra), .val (.ref ib), .val (.int cd), .val (.int (1 : Int32)), .val (.int v10), .unset] [])) _
      refine XS.aloadN X0.here hx rfl (hb hby d5_12) rfl rfl ?_
      show Steps p.tables e below (s₁.setTop (mkF m 13 #[.val (.ref q), .val (.ref ra), .val (.ref ib), .val (.int cd), .val (.int (1 : Int32)), .val (.int v10), .unset] [(.ref ib)])) _
      refine XS.iload X0.here hx rfl (hb hby d5_13) rfl ?_
      show Steps p.tables e below (s₁.setTop (mkF m 15 #[.val (.ref q), .val (.ref ra), .val (.ref ib), .val (.int cd), .val (.int (1 : Int32)), .val (.int v10), .unset] [(.int (1 : Int32)), (.ref ib)])) _
      refine X0.baloadBooleans hx (j := (1 : Int32)) (v := (.int (1 : Int32))) (heq_of e0 Ar3.1) (State.isArrayOf_alike hZ.alike Ar3.2.1) Ar3.2.2 hin3 hat3 (g := (mkF m 15 #[.val (.ref q), .val (.ref ra), .val (.ref ib), .val (.int cd), .val (.int (1 : Int32)), .val (.int v10), .unset] [(.int (1 : Int32)), (.ref ib)])) rfl rfl (hb hby d5_15) _ ?_
      show Steps p.tables e below (s₁.setTop (mkF m 16 #[.val (.ref q), .val (.ref ra), .val (.ref ib), .val (.int cd), .val (.int (1 : Int32)), .val (.int v10), .unset] [(.int (1 : Int32))])) _
      refine XS.ifNo X0.here hx rfl (hb hby d5_16) rfl ((if0 _ _).trans (feq (by decide)).1) ?_
      show Steps p.tables e below (s₁.setTop (mkF m 19 #[.val (.ref q), .val (.ref ra), .val (.ref ib), .val (.int cd), .val (.int (1 : Int32)), .val (.int v10), .unset] [])) _
      refine XS.aloadN X0.here hx rfl (hb hby d5_19) rfl rfl ?_
      show Steps p.tables e below (s₁.setTop (mkF m 20 #[.val (.ref q), .val (.ref ra), .val (.ref ib), .val (.int cd), .val (.int (1 : Int32)), .val (.int v10), .unset] [(.ref q)])) _
      refine XS.aloadN X0.here hx rfl (hb hby d5_20) rfl rfl ?_
      show Steps p.tables e below (s₁.setTop (mkF m 21 #[.val (.ref q), .val (.ref ra), .val (.ref ib), .val (.int cd), .val (.int (1 : Int32)), .val (.int v10), .unset] [(.ref ra), (.ref q)])) _
      refine XS.iload X0.here hx rfl (hb hby d5_21) rfl ?_
      show Steps p.tables e below (s₁.setTop (mkF m 23 #[.val (.ref q), .val (.ref ra), .val (.ref ib), .val (.int cd), .val (.int (1 : Int32)), .val (.int v10), .unset] [(.int (1 : Int32)), (.ref ra), (.ref q)])) _
      refine X0.aaload hx (j := (1 : Int32)) (v := (.ref tb)) (heq_of e0 Ar4.1) (State.isArrayOf_alike hZ.alike Ar4.2.1) rfl Ar4.2.2 hin4 hat4 (g := (mkF m 23 #[.val (.ref q), .val (.ref ra), .val (.ref ib), .val (.int cd), .val (.int (1 : Int32)), .val (.int v10), .unset] [(.int (1 : Int32)), (.ref ra), (.ref q)])) rfl rfl (hb hby d5_23) _ ?_
      show Steps p.tables e below (s₁.setTop (mkF m 24 #[.val (.ref q), .val (.ref ra), .val (.ref ib), .val (.int cd), .val (.int (1 : Int32)), .val (.int v10), .unset] [(.ref tb), (.ref q)])) _
      refine st5.trans ?_
      show Steps p.tables e below (T5.setTop (mkF m 27 #[.val (.ref q), .val (.ref ra), .val (.ref ib), .val (.int cd), .val (.int (1 : Int32)), .val (.int v10), .unset] [])) _
      refine XS.aloadN X5.here hx rfl (hb hby d5_27) rfl rfl ?_
      show Steps p.tables e below (T5.setTop (mkF m 28 #[.val (.ref q), .val (.ref ra), .val (.ref ib), .val (.int cd), .val (.int (1 : Int32)), .val (.int v10), .unset] [(.ref ib)])) _
      refine XS.iload X5.here hx rfl (hb hby d5_28) rfl ?_
      show Steps p.tables e below (T5.setTop (mkF m 30 #[.val (.ref q), .val (.ref ra), .val (.ref ib), .val (.int cd), .val (.int (1 : Int32)), .val (.int v10), .unset] [(.int (1 : Int32)), (.ref ib)])) _
      refine XS.iconst X5.here hx rfl (hb hby d5_30) ?_
      show Steps p.tables e below (T5.setTop (mkF m 31 #[.val (.ref q), .val (.ref ra), .val (.ref ib), .val (.int cd), .val (.int (1 : Int32)), .val (.int v10), .unset] [(.int (0 : Int32)), (.int (1 : Int32)), (.ref ib)])) _
      refine st22 _ ?_
      show Steps p.tables e below (T22.setTop (mkF m 32 #[.val (.ref q), .val (.ref ra), .val (.ref ib), .val (.int cd), .val (.int (1 : Int32)), .val (.int v10), .unset] [])) _
      refine XS.goto X22.here hx rfl (pc0 := 32) (pc' := 64) rfl (hb hby d5_32) (by decide) (by decide) ?_
      show Steps p.tables e below (T22.setTop (mkF m 64 #[.val (.ref q), .val (.ref ra), .val (.ref ib), .val (.int cd), .val (.int (1 : Int32)), .val (.int v10), .unset] [])) _
      refine XS.aloadN X22.here hx rfl (hb hby d5_64) rfl rfl ?_
      show Steps p.tables e below (T22.setTop (mkF m 65 #[.val (.ref q), .val (.ref ra), .val (.ref ib), .val (.int cd), .val (.int (1 : Int32)), .val (.int v10), .unset] [(.ref ib)])) _
      refine XS.iconst X22.here hx rfl (hb hby d5_65) ?_
      show Steps p.tables e below (T22.setTop (mkF m 66 #[.val (.ref q), .val (.ref ra), .val (.ref ib), .val (.int cd), .val (.int (1 : Int32)), .val (.int v10), .unset] [(.int (0 : Int32)), (.ref ib)])) _
      refine X22.baloadBooleans hx (j := (0 : Int32)) (v := (.int (1 : Int32))) (heq_of e22 Ar36.1) (State.isArrayOf_alike hZ.alike Ar36.2.1) Ar36.2.2 hin36 hat36 (g := (mkF m 66 #[.val (.ref q), .val (.ref ra), .val (.ref ib), .val (.int cd), .val (.int (1 : Int32)), .val (.int v10), .unset] [(.int (0 : Int32)), (.ref ib)])) rfl rfl (hb hby d5_66) _ ?_
      show Steps p.tables e below (T22.setTop (mkF m 67 #[.val (.ref q), .val (.ref ra), .val (.ref ib), .val (.int cd), .val (.int (1 : Int32)), .val (.int v10), .unset] [(.int (1 : Int32))])) _
      refine XS.ifYes X22.here hx rfl (pc0 := 67) (pc' := 80) rfl (hb hby d5_67) rfl ((if0 _ _).trans (feq (by decide)).2) (by decide) (by decide) ?_
      show Steps p.tables e below (T22.setTop (mkF m 80 #[.val (.ref q), .val (.ref ra), .val (.ref ib), .val (.int cd), .val (.int (1 : Int32)), .val (.int v10), .unset] [])) _
      refine XS.iconst X22.here hx rfl (hb hby d5_80) ?_
      show Steps p.tables e below (T22.setTop (mkF m 81 #[.val (.ref q), .val (.ref ra), .val (.ref ib), .val (.int cd), .val (.int (1 : Int32)), .val (.int v10), .unset] [(.int (0 : Int32))])) _
      refine XS.istore X22.here hx rfl (hb hby d5_81) rfl (l' := #[.val (.ref q), .val (.ref ra), .val (.ref ib), .val (.int cd), .val (.int (1 : Int32)), .val (.int v10), .val (.int (0 : Int32))]) rfl ?_
      show Steps p.tables e below (T22.setTop (mkF m 83 #[.val (.ref q), .val (.ref ra), .val (.ref ib), .val (.int cd), .val (.int (1 : Int32)), .val (.int v10), .val (.int (0 : Int32))] [])) _
      refine XS.aloadN X22.here hx rfl (hb hby d5_83) rfl rfl ?_
      show Steps p.tables e below (T22.setTop (mkF m 84 #[.val (.ref q), .val (.ref ra), .val (.ref ib), .val (.int cd), .val (.int (1 : Int32)), .val (.int v10), .val (.int (0 : Int32))] [(.ref q)])) _
      refine st37.trans ?_
      show Steps p.tables e below (T37.setTop (mkF m 87 #[.val (.ref q), .val (.ref ra), .val (.ref ib), .val (.int cd), .val (.int (1 : Int32)), .val (.int v10), .val (.int (0 : Int32))] [(.int (0 : Int32))])) _
      refine XS.iload X37.here hx rfl (hb hby d5_87) rfl ?_
      show Steps p.tables e below (T37.setTop (mkF m 89 #[.val (.ref q), .val (.ref ra), .val (.ref ib), .val (.int cd), .val (.int (1 : Int32)), .val (.int v10), .val (.int (0 : Int32))] [(.int (0 : Int32)), (.int (0 : Int32))])) _
      refine XS.icmpNo X37.here hx rfl (hb hby d5_89) rfl (teq rfl).2 ?_
      show Steps p.tables e below (T37.setTop (mkF m 92 #[.val (.ref q), .val (.ref ra), .val (.ref ib), .val (.int cd), .val (.int (1 : Int32)), .val (.int v10), .val (.int (0 : Int32))] [])) _
      refine XS.iconst X37.here hx rfl (hb hby d5_92) ?_
      show Steps p.tables e below (T37.setTop (mkF m 93 #[.val (.ref q), .val (.ref ra), .val (.ref ib), .val (.int cd), .val (.int (1 : Int32)), .val (.int v10), .val (.int (0 : Int32))] [(.int (1 : Int32))])) _
      refine XS.goto X37.here hx rfl (pc0 := 93) (pc' := 97) rfl (hb hby d5_93) (by decide) (by decide) ?_
      show Steps p.tables e below (T37.setTop (mkF m 97 #[.val (.ref q), .val (.ref ra), .val (.ref ib), .val (.int cd), .val (.int (1 : Int32)), .val (.int v10), .val (.int (0 : Int32))] [(.int (1 : Int32))])) _
      exact retN X37 hx (t := .boolean) Bd.returns (by simp) (hb hby d5_97) hr
    · show Q5_11 Z q ra ib cd ta tb ka kb h0 n0 _ T37.heap _
      rw [e37]
      exact ⟨rfl, N37, K35, F24, F25, F26, F27, F23, F28, F29, F32, F33, F30, F31⟩
theorem ef_5_12 (m : MethodId) (x0 : Addr) (x1 : Addr) (x2 : Addr) (x3 : Int32) : entryFrame m #[(.ref x0), (.ref x1), (.ref x2), (.int x3)] 7 = mkF m 0 #[.val (.ref x0), .val (.ref x1), .val (.ref x2), .val (.int x3), .unset, .unset, .unset] [] := by first | (simp [entryFrame, mkF, argsToLocals, Value.category]; done) | rfl
theorem own_split_5_12_5 (cd : Int32) (hk : (cd &&& (1 : Int32)) = (0 : Int32)) (v3 : Int32) (hv3 : v3 = (cd &&& (1 : Int32))) : v3 = (0 : Int32) := by rw [hv3]; exact hk
def Q5_12 (Z : State) (q : Addr) (ra : Addr) (ib : Addr) (cd : Int32) (ta : Addr) (tb : Addr) (ka : ClassId) (kb : ClassId) (h0 : Heap) (n0 : Nat) (v : Option Value) (h : Heap) (L : List Loc) : Prop := v = some (.int (1 : Int32)) ∧ Fr n0 L ∧ Keep h0 h [q, ta, tb, ib] ∧ Exa Z h q "com/example/evenkeel/evenkeel/TaskQueue" ∧ Exa Z h ta "com/example/evenkeel/evenkeel/QueuedTasks" ∧ Exa Z h tb "com/example/evenkeel/evenkeel/QueuedTasks" ∧ Arv Z h ra ka (.object "com/example/evenkeel/evenkeel/QueuedTasks") (2 : Int32) [(.ref ta), (.ref tb)] .null ∧ Arv Z h ib kb .boolean (2 : Int32) [(.int (0 : Int32)), (.int (1 : Int32))] (.int (0 : Int32)) ∧ Fld Z h q "com/example/evenkeel/evenkeel/TaskQueue" "first" "Lcom/example/evenkeel/evenkeel/QueuedTasks;" (.ref tb) ∧ Fld Z h q "com/example/evenkeel/evenkeel/TaskQueue" "last" "Lcom/example/evenkeel/evenkeel/QueuedTasks;" (.ref tb) ∧ Fld Z h ta "com/example/evenkeel/evenkeel/QueuedTasks" "before" "Lcom/example/evenkeel/evenkeel/QueuedTasks;" .null ∧ Fld Z h ta "com/example/evenkeel/evenkeel/QueuedTasks" "after" "Lcom/example/evenkeel/evenkeel/QueuedTasks;" .null ∧ Fld Z h tb "com/example/evenkeel/evenkeel/QueuedTasks" "before" "Lcom/example/evenkeel/evenkeel/QueuedTasks;" .null ∧ Fld Z h tb "com/example/evenkeel/evenkeel/QueuedTasks" "after" "Lcom/example/evenkeel/evenkeel/QueuedTasks;" .null
set_option maxRecDepth 65536 in
set_option maxHeartbeats 40000000 in
theorem rm5_12 (l : Launch) (Z : State) (a0 : Array Value) (hw : ∀ d ∈ tables_1, d.before a0 Z = true) (ws : List Jvm.Cond) (q : Addr) (ra : Addr) (ib : Addr) (cd : Int32) (ta : Addr) (tb : Addr) (ka : ClassId) (kb : ClassId) (h0 : Heap) (n0 : Nat) (Z0 : n0 ≤ h0.size) (I0 : Exa Z h0 q "com/example/evenkeel/evenkeel/TaskQueue") (I1 : Exa Z h0 ta "com/example/evenkeel/evenkeel/QueuedTasks") (I2 : Exa Z h0 tb "com/example/evenkeel/evenkeel/QueuedTasks") (I3 : Arv Z h0 ra ka (.object "com/example/evenkeel/evenkeel/QueuedTasks") (2 : Int32) [(.ref ta), (.ref tb)] .null) (I4 : Arv Z h0 ib kb .boolean (2 : Int32) [(.int (1 : Int32)), (.int (1 : Int32))] (.int (0 : Int32))) (I5 : Fld Z h0 q "com/example/evenkeel/evenkeel/TaskQueue" "first" "Lcom/example/evenkeel/evenkeel/QueuedTasks;" (.ref tb)) (I6 : Fld Z h0 q "com/example/evenkeel/evenkeel/TaskQueue" "last" "Lcom/example/evenkeel/evenkeel/QueuedTasks;" (.ref ta)) (I7 : Fld Z h0 ta "com/example/evenkeel/evenkeel/QueuedTasks" "before" "Lcom/example/evenkeel/evenkeel/QueuedTasks;" (.ref tb)) (I8 : Fld Z h0 ta "com/example/evenkeel/evenkeel/QueuedTasks" "after" "Lcom/example/evenkeel/evenkeel/QueuedTasks;" .null) (I9 : Fld Z h0 tb "com/example/evenkeel/evenkeel/QueuedTasks" "before" "Lcom/example/evenkeel/evenkeel/QueuedTasks;" .null) (I10 : Fld Z h0 tb "com/example/evenkeel/evenkeel/QueuedTasks" "after" "Lcom/example/evenkeel/evenkeel/QueuedTasks;" (.ref ta)) (g_q : n0 ≤ q) (g_ta : n0 ≤ ta) (g_tb : n0 ≤ tb) (g_ib : n0 ≤ ib) (ne_q_ta : q ≠ ta) (ne_q_tb : q ≠ tb) (ne_ta_tb : ta ≠ tb) (ne_ra_q : ra ≠ q) (ne_ra_ta : ra ≠ ta) (ne_ra_tb : ra ≠ tb) (ne_ib_q : ib ≠ q) (ne_ib_ta : ib ≠ ta) (ne_ib_tb : ib ≠ tb) (ne_ra_ib : ra ≠ ib) (hk : (cd &&& (1 : Int32)) = (0 : Int32)) :
    MetFree l (⟨"com/example/evenkeel/evenkeel/TaskQueueIsEmptyPinLaw", "step", "(Lcom/example/evenkeel/evenkeel/TaskQueue;[Lcom/example/evenkeel/evenkeel/QueuedTasks;[ZI)Z"⟩ : MethodName) (head1 (Jvm.Cond.code (⟨"com/example/evenkeel/evenkeel/TaskQueueIsEmptyPinLaw", "step", "(Lcom/example/evenkeel/evenkeel/TaskQueue;[Lcom/example/evenkeel/evenkeel/QueuedTasks;[ZI)Z"⟩ : MethodName) method_3_code 7 (some .boolean) :: ws) ({ frames := 1, cells := 0, slots := 0, locals := 13 } : Room)) (fun a U => a = #[(.ref q), (.ref ra), (.ref ib), (.int cd)] ∧ Z.Warmed39 U.vm ∧ U.heap = h0) (fun _ _ _ _ _ => True) (fun _ U o U' => ∃ v L, o = .returned v ∧ Q5_12 Z q ra ib cd ta tb ka kb h0 n0 v U'.heap L ∧ FrameEnd U o U' L ({ frames := 1, cells := 0, slots := 0, locals := 13 } : Room).cells ({ frames := 1, cells := 0, slots := 0, locals := 13 } : Room).slots) := by
  refine MetFree.of_bodySF (plainFor_of_name pn_5) hisR ?_
  intro p e s m args below meth c s₁ Bd hml0 hP hK
  obtain ⟨rfl, hZ, hh⟩ := hP
  have hx := Bd.exec
  have hby := Bd.bytes
  have hml : c.maxLocals = 7 := hml0
  have hown : s.vm.findClass "com/example/evenkeel/evenkeel/TaskQueueIsEmptyPinLaw" = some m.cls := findClass_of_methodNamed Bd.named
  have hnm := (name_of_methodNamed Bd.named Bd.method).1
  have X0 : Stand p l e ({ frames := 1, cells := 0, slots := 0, locals := 13 } : Room) s m #[(.ref q), (.ref ra), (.ref ib), (.int cd)] below meth c s₁ [] 0 0 := Stand.of_body Bd
  have e0 : s₁.heap = h0 := by rw [← hh, Bd.state]; rfl
  have N0 := Fr.nil n0
  have K0 : Keep h0 h0 [q, ta, tb, ib] := Keep.refl h0 _
  have pre0 : ∀ tq, Steps p.tables e below (s₁.setTop (mkF m 0 #[.val (.ref q), .val (.ref ra), .val (.ref ib), .val (.int cd), .unset, .unset, .unset] [])) tq → Steps p.tables e below (s₁.setTop (entryFrame m #[(.ref q), (.ref ra), (.ref ib), (.int cd)] 7)) tq := fun tq kq => castTop (ef_5_12 m q ra ib cd) kq
  obtain ⟨v3, hv3⟩ : ∃ z_q : Int32, z_q = (cd &&& (1 : Int32)) := ⟨_, rfl⟩
  have pre1 : ∀ tq, Steps p.tables e below (s₁.setTop (mkF m 5 #[.val (.ref q), .val (.ref ra), .val (.ref ib), .val (.int cd), .val (.int v3), .unset, .unset] [])) tq → Steps p.tables e below (s₁.setTop (entryFrame m #[(.ref q), (.ref ra), (.ref ib), (.int cd)] 7)) tq := by
    intro tq kt
    refine pre0 _ ?_
    show Steps p.tables e below (s₁.setTop (mkF m 0 #[.val (.ref q), .val (.ref ra), .val (.ref ib), .val (.int cd), .unset, .unset, .unset] [])) _
    refine XS.iloadN X0.here hx rfl (hb hby d5_0) rfl ?_
    show Steps p.tables e below (s₁.setTop (mkF m 1 #[.val (.ref q), .val (.ref ra), .val (.ref ib), .val (.int cd), .unset, .unset, .unset] [(.int cd)])) _
    refine XS.iconst X0.here hx rfl (hb hby d5_1) ?_
    show Steps p.tables e below (s₁.setTop (mkF m 2 #[.val (.ref q), .val (.ref ra), .val (.ref ib), .val (.int cd), .unset, .unset, .unset] [(.int (1 : Int32)), (.int cd)])) _
    refine XS.iand X0.here hx rfl (hb hby d5_2) rfl ?_
    show Steps p.tables e below (s₁.setTop (mkF m 3 #[.val (.ref q), .val (.ref ra), .val (.ref ib), .val (.int cd), .unset, .unset, .unset] [(.int (cd &&& (1 : Int32)))])) _
    refine XS.istore X0.here hx rfl (hb hby d5_3) rfl (l' := #[.val (.ref q), .val (.ref ra), .val (.ref ib), .val (.int cd), .val (.int v3), .unset, .unset]) (by rw [hv3]; rfl) ?_
    show Steps p.tables e below (s₁.setTop (mkF m 5 #[.val (.ref q), .val (.ref ra), .val (.ref ib), .val (.int cd), .val (.int v3), .unset, .unset] [])) _
    exact kt
  rcases (own_split_5_12_5 cd hk v3 hv3) with hs2
  · subst hs2
    obtain ⟨v10, hv10⟩ : ∃ z_q : Int32, z_q = (((cd.toUInt32 >>> ((1 : Int32) &&& 31).toUInt32).toInt32) &&& (1 : Int32)) := ⟨_, rfl⟩
    obtain ⟨cl3, Ar3, q3, S3, M3, H3, G3⟩ := id I4
    have hin3 : ¬ ((0 : Int32) < 0 ∨ cl3.slots.size ≤ ((0 : Int32)).toNatClampNeg) := inb_of S3 ⟨by decide, by decide⟩
    have hat3 : cl3.slots[((0 : Int32)).toNatClampNeg]? = some (.int (1 : Int32)) := Has.at H3 hin3 rfl
    obtain ⟨cl4, Ar4, q4, S4, M4, H4, G4⟩ := id I3
    have hin4 : ¬ ((0 : Int32) < 0 ∨ cl4.slots.size ≤ ((0 : Int32)).toNatClampNeg) := inb_of S4 ⟨by decide, by decide⟩
    have hat4 : cl4.slots[((0 : Int32)).toNatClampNeg]? = some (.ref ta) := Has.at H4 hin4 rfl
    obtain ⟨cq5, kq5, q5a, q5b, q5c⟩ := isOf hZ e0 I0
    obtain ⟨_, _, ⟨T5, L5, k5, n5⟩, -, X5, ⟨Lc5, hQ5, l5, y5, z5⟩, st5⟩ := X0.virtualBack hx (y := (⟨"com/example/evenkeel/evenkeel/TaskQueue", "remove", "(Lcom/example/evenkeel/evenkeel/QueuedTasks;)V"⟩ : MethodName)) (z := (⟨"com/example/evenkeel/evenkeel/TaskQueue", "remove", "(Lcom/example/evenkeel/evenkeel/QueuedTasks;)V"⟩ : MethodName)) hown (mvT hZ (hw _ (List.mem_of_getElem? (i := 58) rfl))) (mvT hZ (hw _ (List.mem_of_getElem? (i := 59) rfl))) (notFace_of_selects (args := #[]) (mvT hZ (hw _ (List.mem_of_getElem? (i := 61) rfl)))) (mvT hZ (hw _ (List.mem_of_getElem? (i := 61) rfl))) (mvT hZ (hw _ (List.mem_of_getElem? (i := 60) rfl))) (by decide) (backOf (W := 0) (rm8_2 l Z a0 hw [] q ta tb h0 n0 Z0 I7 I5 I6 I8 I9 I10 I2 I0 I1 g_q g_ta g_tb ne_q_ta ne_q_tb ne_ta_tb) hZ (hw _ (List.mem_of_getElem? (i := 62) rfl)) (hw _ (List.mem_of_getElem? (i := 2) rfl)) (by decide) (by decide)) q5a q5c (g := (mkF m 24 #[.val (.ref q), .val (.ref ra), .val (.ref ib), .val (.int cd), .val (.int (0 : Int32)), .val (.int v10), .unset] [(.ref ta), (.ref q)])) rfl (by rw [hml]; rfl) (Steps.refl _) (argsL := [(.ref ta)]) (rest := []) (lenOf pd_0 rfl) rfl (by show 2 * 0 + _ ≤ _; exact Nat.le_of_eq rfl) (hb hby d5_24) (fun _ _ => ⟨rfl, e0, (by decide : 0 + 0 ≤ _), (by decide : 0 + 0 ≤ _)⟩)
    dsimp only [Pt.U, Pt.locs, Pt.cells, Pt.slots] at X5 l5 y5 z5 st5 hQ5
    subst l5 y5 z5
    obtain ⟨rfl, N5q, K5q, F6, F7, F8, F9, F10, F11, F12, F13, F14⟩ := hQ5
    have N5 := Fr.app N0 N5q
    have F15 : Exa Z T5.heap q "com/example/evenkeel/evenkeel/TaskQueue" := I0.keep K5q
    have F16 : Exa Z T5.heap ta "com/example/evenkeel/evenkeel/QueuedTasks" := I1.keep K5q
    have F17 : Exa Z T5.heap tb "com/example/evenkeel/evenkeel/QueuedTasks" := I2.keep K5q
    have F18 : Arv Z T5.heap ra ka (.object "com/example/evenkeel/evenkeel/QueuedTasks") (2 : Int32) [(.ref ta), (.ref tb)] .null := I3.keep K5q (ninS ne_ra_q (ninS ne_ra_ta (ninS ne_ra_tb nin0)))
    have F19 : Arv Z T5.heap ib kb .boolean (2 : Int32) [(.int (1 : Int32)), (.int (1 : Int32))] (.int (0 : Int32)) := I4.keep K5q (ninS ne_ib_q (ninS ne_ib_ta (ninS ne_ib_tb nin0)))
    have Z20 : n0 ≤ T5.heap.size := Nat.le_trans Z0 K5q.1
    have K21 : Keep h0 T5.heap [q, ta, tb, ib] := K0.trans K5q (allS (Or.inl (List.mem_of_getElem? (i := 0) rfl)) (allS (Or.inl (List.mem_of_getElem? (i := 1) rfl)) (allS (Or.inl (List.mem_of_getElem? (i := 2) rfl)) all0)))
    obtain ⟨cl22, Ar22, q22, S22, M22, H22, G22⟩ := id F19
    have hin22 : ¬ ((0 : Int32) < 0 ∨ cl22.slots.size ≤ ((0 : Int32)).toNatClampNeg) := inb_of S22 ⟨by decide, by decide⟩
    obtain ⟨T22, hX22, X22, e22, W22, st22⟩ := stZ X5 hx hZ rfl Ar22 (j := (0 : Int32)) hin22 (g := (mkF m 31 #[.val (.ref q), .val (.ref ra), .val (.ref ib), .val (.int cd), .val (.int (0 : Int32)), .val (.int v10), .unset] [(.int (0 : Int32)), (.int (0 : Int32)), (.ref ib)])) rfl rfl (hb hby d5_31)
    have F23 : Arv Z hX22 ib kb .boolean (2 : Int32) [(.int (0 : Int32)), (.int (1 : Int32))] (.int (0 : Int32)) := Arv.set Ar22 q22 S22 M22 H22 G22 (fits_nar_bool _) W22 0 rfl (Nat.le_of_ble_eq_true rfl)
    have N22 := Fr.snoc X22 N5 g_ib
    have F24 : Exa Z hX22 q "com/example/evenkeel/evenkeel/TaskQueue" := F13.wr W22
    have F25 : Exa Z hX22 ta "com/example/evenkeel/evenkeel/QueuedTasks" := F14.wr W22
    have F26 : Exa Z hX22 tb "com/example/evenkeel/evenkeel/QueuedTasks" := F12.wr W22
    have F27 : Arv Z hX22 ra ka (.object "com/example/evenkeel/evenkeel/QueuedTasks") (2 : Int32) [(.ref ta), (.ref tb)] .null := F18.other W22 ne_ra_ib
    have F28 : Fld Z hX22 q "com/example/evenkeel/evenkeel/TaskQueue" "first" "Lcom/example/evenkeel/evenkeel/QueuedTasks;" (.ref tb) := F6.other W22 (Or.inl (Ne.symm ne_ib_q))
    have F29 : Fld Z hX22 q "com/example/evenkeel/evenkeel/TaskQueue" "last" "Lcom/example/evenkeel/evenkeel/QueuedTasks;" (.ref tb) := F7.other W22 (Or.inl (Ne.symm ne_ib_q))
    have F30 : Fld Z hX22 ta "com/example/evenkeel/evenkeel/QueuedTasks" "before" "Lcom/example/evenkeel/evenkeel/QueuedTasks;" .null := F8.other W22 (Or.inl (Ne.symm ne_ib_ta))
    have F31 : Fld Z hX22 ta "com/example/evenkeel/evenkeel/QueuedTasks" "after" "Lcom/example/evenkeel/evenkeel/QueuedTasks;" .null := F9.other W22 (Or.inl (Ne.symm ne_ib_ta))
    have F32 : Fld Z hX22 tb "com/example/evenkeel/evenkeel/QueuedTasks" "before" "Lcom/example/evenkeel/evenkeel/QueuedTasks;" .null := F10.other W22 (Or.inl (Ne.symm ne_ib_tb))
    have F33 : Fld Z hX22 tb "com/example/evenkeel/evenkeel/QueuedTasks" "after" "Lcom/example/evenkeel/evenkeel/QueuedTasks;" .null := F11.other W22 (Or.inl (Ne.symm ne_ib_tb))
    have Z34 : n0 ≤ hX22.size := Nat.le_trans Z20 (Keep.of_wr W22).1
    have K35 : Keep h0 hX22 [q, ta, tb, ib] := K21.wr W22 (Or.inl (List.mem_of_getElem? (i := 3) rfl))
    obtain ⟨cl36, Ar36, q36, S36, M36, H36, G36⟩ := id F23
    have hin36 : ¬ ((0 : Int32) < 0 ∨ cl36.slots.size ≤ ((0 : Int32)).toNatClampNeg) := inb_of S36 ⟨by decide, by decide⟩
    have hat36 : cl36.slots[((0 : Int32)).toNatClampNeg]? = some (.int (0 : Int32)) := Has.at H36 hin36 rfl
    obtain ⟨cl37, Ar37, q37, S37, M37, H37, G37⟩ := id F23
    have hin37 : ¬ ((1 : Int32) < 0 ∨ cl37.slots.size ≤ ((1 : Int32)).toNatClampNeg) := inb_of S37 ⟨by decide, by decide⟩
    have hat37 : cl37.slots[((1 : Int32)).toNatClampNeg]? = some (.int (1 : Int32)) := Has.at H37 hin37 rfl
    obtain ⟨cq38, kq38, q38a, q38b, q38c⟩ := isOf hZ e22 F24
    obtain ⟨_, _, ⟨T38, L38, k38, n38⟩, -, X38, ⟨Lc38, hQ38, l38, y38, z38⟩, st38⟩ := X22.virtualBack hx (y := (⟨"com/example/evenkeel/evenkeel/TaskQueue", "isEmpty", "()Z"⟩ : MethodName)) (z := (⟨"com/example/evenkeel/evenkeel/TaskQueue", "isEmpty", "()Z"⟩ : MethodName)) hown (mvT hZ (hw _ (List.mem_of_getElem? (i := 31) rfl))) (mvT hZ (hw _ (List.mem_of_getElem? (i := 32) rfl))) (notFace_of_selects (args := #[]) (mvT hZ (hw _ (List.mem_of_getElem? (i := 34) rfl)))) (mvT hZ (hw _ (List.mem_of_getElem? (i := 34) rfl))) (mvT hZ (hw _ (List.mem_of_getElem? (i := 33) rfl))) (by decide) (backOf (W := 0) (rm4_1 l Z a0 hw [] q tb hX22 n0 Z34 F28) hZ (hw _ (List.mem_of_getElem? (i := 35) rfl)) (hw _ (List.mem_of_getElem? (i := 2) rfl)) (by decide) (by decide)) q38a q38c (g := (mkF m 84 #[.val (.ref q), .val (.ref ra), .val (.ref ib), .val (.int cd), .val (.int (0 : Int32)), .val (.int v10), .val (.int (0 : Int32))] [(.ref q)])) rfl (by rw [hml]; rfl) (Steps.refl _) (argsL := []) (rest := []) (lenOf pd_1 rfl) rfl (by show 2 * 0 + _ ≤ _; exact Nat.le_of_eq rfl) (hb hby d5_84) (fun _ _ => ⟨rfl, e22, (by decide : 0 + 0 ≤ _), (by decide : 0 + 0 ≤ _)⟩)
    dsimp only [Pt.U, Pt.locs, Pt.cells, Pt.slots] at X38 l38 y38 z38 st38 hQ38
    subst l38 y38 z38
    obtain ⟨rfl, N38q, e38⟩ := hQ38
    have N38 := Fr.app N22 N38q
    obtain ⟨fs, hr, hrun, hended, hW, hsame⟩ := X38.leave (v := some (Value.int (1 : Int32))) (fun h => by rw [Bd.returns] at h; cases h)
    refine ⟨_, _, pre1 _ ?_, hrun, hended, _, _, rfl, ?_, ⟨_, rfl⟩, hW, hsame.mono (by decide) (by decide)⟩
    · skip
      show Steps p.tables e below (s₁.setTop (mkF m 5 #[.val (.ref q), .val (.ref ra), .val (.ref ib), .val (.int cd), .val (.int (0 : Int32)), .unset, .unset] [])) _
      refine XS.iloadN X0.here hx rfl (hb hby d5_5) rfl ?_
      show Steps p.tables e below (s₁.setTop (mkF m 6 #[.val (.ref q), .val (.ref ra), .val (.ref ib), .val (.int cd), .val (.int (0 : Int32)), .unset, .unset] [(.int cd)])) _
      refine XS.iconst X0.here hx rfl (hb hby d5_6) ?_
      show Steps p.tables e below (s₁.setTop (mkF m 7 #[.val (.ref q), .val (.ref ra), .val (.ref ib), .val (.int cd), .val (.int (0 : Int32)), .unset, .unset] [(.int (1 : Int32)), (.int cd)])) _
      refine XS.iushr X0.here hx rfl (hb hby d5_7) rfl ?_
      show Steps p.tables e below (s₁.setTop (mkF m 8 #[.val (.ref q), .val (.ref ra), .val (.ref ib), .val (.int cd), .val (.int (0 : Int32)), .unset, .unset] [(.int ((cd.toUInt32 >>> ((1 : Int32) &&& 31).toUInt32).toInt32))])) _
      refine XS.iconst X0.here hx rfl (hb hby d5_8) ?_
      show Steps p.tables e below (s₁.setTop (mkF m 9 #[.val (.ref q), .val (.ref ra), .val (.ref ib), .val (.int cd), .val (.int (0 : Int32)), .unset, .unset] [(.int (1 : Int32)), (.int ((cd.toUInt32 >>> ((1 : Int32) &&& 31).toUInt32).toInt32))])) _
      refine XS.iand X0.here hx rfl (hb hby d5_9) rfl ?_
      show Steps p.tables e below (s₁.setTop (mkF m 10 #[.val (.ref q), .val (.ref ra), .val (.ref ib), .val (.int cd), .val (.int (0 : Int32)), .unset, .unset] [(.int (((cd.toUInt32 >>> ((1 : Int32) &&& 31).toUInt32).toInt32) &&& (1 : Int32)))])) _
      refine XS.istore X0.here hx rfl (hb hby d5_10) rfl (l' := #[.val (.ref q), .val (.ref ra), .val (.ref ib), .val (.int cd), .val (.int (0 : Int32)), .val (.int v10), .unset]) (by rw [hv10]; rfl) ?_
      show Steps p.tables e below (s₁.setTop (mkF m 12 #[.val (.ref q), .val (.ref ra), .val (.ref ib), .val (.int cd), .val (.int (0 : Int32)), .val (.int v10), .unset] [])) _
      refine XS.aloadN X0.here hx rfl (hb hby d5_12) rfl rfl ?_
      show Steps p.tables e below (s₁.setTop (mkF m 13 #[.val (.ref q), .val (.ref ra), .val (.ref ib), .val (.int cd), .val (.int (0 : Int32)), .val (.int v10), .unset] [(.ref ib)])) _
      refine XS.iload X0.here hx rfl (hb hby d5_13) rfl ?_
      show Steps p.tables e below (s₁.setTop (mkF m 15 #[.val (.ref q), .val (.ref ra), .val (.ref ib), .val (.int cd), .val (.int (0 : Int32)), .val (.int v10), .unset] [(.int (0 : Int32)), (.ref ib)])) _
      refine X0.baloadBooleans hx (j := (0 : Int32)) (v := (.int (1 : Int32))) (heq_of e0 Ar3.1) (State.isArrayOf_alike hZ.alike Ar3.2.1) Ar3.2.2 hin3 hat3 (g := (mkF m 15 #[.val (.ref q), .val (.ref ra), .val (.ref ib), .val (.int cd), .val (.int (0 : Int32)), .val (.int v10), .unset] [(.int (0 : Int32)), (.ref ib)])) rfl rfl (hb hby d5_15) _ ?_
      show Steps p.tables e below (s₁.setTop (mkF m 16 #[.val (.ref q), .val (.ref ra), .val (.ref ib), .val (.int cd), .val (.int (0 : Int32)), .val (.int v10), .unset] [(.int (1 : Int32))])) _
      refine XS.ifNo X0.here hx rfl (hb hby d5_16) rfl ((if0 _ _).trans (feq (by decide)).1) ?_
      show Steps p.tables e below (s₁.setTop (mkF m 19 #[.val (.ref q), .val (.ref ra), .val (.ref ib), .val (.int cd), .val (.int (0 : Int32)), .val (.int v10), .unset] [])) _
      refine XS.aloadN X0.here hx rfl (hb hby d5_19) rfl rfl ?_
      show Steps p.tables e below (s₁.setTop (mkF m 20 #[.val (.ref q), .val (.ref ra), .val (.ref ib), .val (.int cd), .val (.int (0 : Int32)), .val (.int v10), .unset] [(.ref q)])) _
      refine XS.aloadN X0.here hx rfl (hb hby d5_20) rfl rfl ?_
      show Steps p.tables e below (s₁.setTop (mkF m 21 #[.val (.ref q), .val (.ref ra), .val (.ref ib), .val (.int cd), .val (.int (0 : Int32)), .val (.int v10), .unset] [(.ref ra), (.ref q)])) _
      refine XS.iload X0.here hx rfl (hb hby d5_21) rfl ?_
      show Steps p.tables e below (s₁.setTop (mkF m 23 #[.val (.ref q), .val (.ref ra), .val (.ref ib), .val (.int cd), .val (.int (0 : Int32)), .val (.int v10), .unset] [(.int (0 : Int32)), (.ref ra), (.ref q)])) _
      refine X0.aaload hx (j := (0 : Int32)) (v := (.ref ta)) (heq_of e0 Ar4.1) (State.isArrayOf_alike hZ.alike Ar4.2.1) rfl Ar4.2.2 hin4 hat4 (g := (mkF m 23 #[.val (.ref q), .val (.ref ra), .val (.ref ib), .val (.int cd), .val (.int (0 : Int32)), .val (.int v10), .unset] [(.int (0 : Int32)), (.ref ra), (.ref q)])) rfl rfl (hb hby d5_23) _ ?_
      show Steps p.tables e below (s₁.setTop (mkF m 24 #[.val (.ref q), .val (.ref ra), .val (.ref ib), .val (.int cd), .val (.int (0 : Int32)), .val (.int v10), .unset] [(.ref ta), (.ref q)])) _
      refine st5.trans ?_
      show Steps p.tables e below (T5.setTop (mkF m 27 #[.val (.ref q), .val (.ref ra), .val (.ref ib), .val (.int cd), .val (.int (0 : Int32)), .val (.int v10), .unset] [])) _
      refine XS.aloadN X5.here hx rfl (hb hby d5_27) rfl rfl ?_
      show Steps p.tables e below (T5.setTop (mkF m 28 #[.val (.ref q), .val (.ref ra), .val (.ref ib), .val (.int cd), .val (.int (0 : Int32)), .val (.int v10), .unset] [(.ref ib)])) _
      refine XS.iload X5.here hx rfl (hb hby d5_28) rfl ?_
      show Steps p.tables e below (T5.setTop (mkF m 30 #[.val (.ref q), .val (.ref ra), .val (.ref ib), .val (.int cd), .val (.int (0 : Int32)), .val (.int v10), .unset] [(.int (0 : Int32)), (.ref ib)])) _
      refine XS.iconst X5.here hx rfl (hb hby d5_30) ?_
      show Steps p.tables e below (T5.setTop (mkF m 31 #[.val (.ref q), .val (.ref ra), .val (.ref ib), .val (.int cd), .val (.int (0 : Int32)), .val (.int v10), .unset] [(.int (0 : Int32)), (.int (0 : Int32)), (.ref ib)])) _
      refine st22 _ ?_
      show Steps p.tables e below (T22.setTop (mkF m 32 #[.val (.ref q), .val (.ref ra), .val (.ref ib), .val (.int cd), .val (.int (0 : Int32)), .val (.int v10), .unset] [])) _
      refine XS.goto X22.here hx rfl (pc0 := 32) (pc' := 64) rfl (hb hby d5_32) (by decide) (by decide) ?_
      show Steps p.tables e below (T22.setTop (mkF m 64 #[.val (.ref q), .val (.ref ra), .val (.ref ib), .val (.int cd), .val (.int (0 : Int32)), .val (.int v10), .unset] [])) _
      refine XS.aloadN X22.here hx rfl (hb hby d5_64) rfl rfl ?_
      show Steps p.tables e below (T22.setTop (mkF m 65 #[.val (.ref q), .val (.ref ra), .val (.ref ib), .val (.int cd), .val (.int (0 : Int32)), .val (.int v10), .unset] [(.ref ib)])) _
      refine XS.iconst X22.here hx rfl (hb hby d5_65) ?_
      show Steps p.tables e below (T22.setTop (mkF m 66 #[.val (.ref q), .val (.ref ra), .val (.ref ib), .val (.int cd), .val (.int (0 : Int32)), .val (.int v10), .unset] [(.int (0 : Int32)), (.ref ib)])) _
      refine X22.baloadBooleans hx (j := (0 : Int32)) (v := (.int (0 : Int32))) (heq_of e22 Ar36.1) (State.isArrayOf_alike hZ.alike Ar36.2.1) Ar36.2.2 hin36 hat36 (g := (mkF m 66 #[.val (.ref q), .val (.ref ra), .val (.ref ib), .val (.int cd), .val (.int (0 : Int32)), .val (.int v10), .unset] [(.int (0 : Int32)), (.ref ib)])) rfl rfl (hb hby d5_66) _ ?_
      show Steps p.tables e below (T22.setTop (mkF m 67 #[.val (.ref q), .val (.ref ra), .val (.ref ib), .val (.int cd), .val (.int (0 : Int32)), .val (.int v10), .unset] [(.int (0 : Int32))])) _
      refine XS.ifNo X22.here hx rfl (hb hby d5_67) rfl ((if0 _ _).trans (teq rfl).2) ?_
      show Steps p.tables e below (T22.setTop (mkF m 70 #[.val (.ref q), .val (.ref ra), .val (.ref ib), .val (.int cd), .val (.int (0 : Int32)), .val (.int v10), .unset] [])) _
      refine XS.aloadN X22.here hx rfl (hb hby d5_70) rfl rfl ?_
      show Steps p.tables e below (T22.setTop (mkF m 71 #[.val (.ref q), .val (.ref ra), .val (.ref ib), .val (.int cd), .val (.int (0 : Int32)), .val (.int v10), .unset] [(.ref ib)])) _
      refine XS.iconst X22.here hx rfl (hb hby d5_71) ?_
      show Steps p.tables e below (T22.setTop (mkF m 72 #[.val (.ref q), .val (.ref ra), .val (.ref ib), .val (.int cd), .val (.int (0 : Int32)), .val (.int v10), .unset] [(.int (1 : Int32)), (.ref ib)])) _
      refine X22.baloadBooleans hx (j := (1 : Int32)) (v := (.int (1 : Int32))) (heq_of e22 Ar37.1) (State.isArrayOf_alike hZ.alike Ar37.2.1) Ar37.2.2 hin37 hat37 (g := (mkF m 72 #[.val (.ref q), .val (.ref ra), .val (.ref ib), .val (.int cd), .val (.int (0 : Int32)), .val (.int v10), .unset] [(.int (1 : Int32)), (.ref ib)])) rfl rfl (hb hby d5_72) _ ?_
      show Steps p.tables e below (T22.setTop (mkF m 73 #[.val (.ref q), .val (.ref ra), .val (.ref ib), .val (.int cd), .val (.int (0 : Int32)), .val (.int v10), .unset] [(.int (1 : Int32))])) _
      refine XS.ifYes X22.here hx rfl (pc0 := 73) (pc' := 80) rfl (hb hby d5_73) rfl ((if0 _ _).trans (feq (by decide)).2) (by decide) (by decide) ?_
      show Steps p.tables e below (T22.setTop (mkF m 80 #[.val (.ref q), .val (.ref ra), .val (.ref ib), .val (.int cd), .val (.int (0 : Int32)), .val (.int v10), .unset] [])) _
      refine XS.iconst X22.here hx rfl (hb hby d5_80) ?_
      show Steps p.tables e below (T22.setTop (mkF m 81 #[.val (.ref q), .val (.ref ra), .val (.ref ib), .val (.int cd), .val (.int (0 : Int32)), .val (.int v10), .unset] [(.int (0 : Int32))])) _
      refine XS.istore X22.here hx rfl (hb hby d5_81) rfl (l' := #[.val (.ref q), .val (.ref ra), .val (.ref ib), .val (.int cd), .val (.int (0 : Int32)), .val (.int v10), .val (.int (0 : Int32))]) rfl ?_
      show Steps p.tables e below (T22.setTop (mkF m 83 #[.val (.ref q), .val (.ref ra), .val (.ref ib), .val (.int cd), .val (.int (0 : Int32)), .val (.int v10), .val (.int (0 : Int32))] [])) _
      refine XS.aloadN X22.here hx rfl (hb hby d5_83) rfl rfl ?_
      show Steps p.tables e below (T22.setTop (mkF m 84 #[.val (.ref q), .val (.ref ra), .val (.ref ib), .val (.int cd), .val (.int (0 : Int32)), .val (.int v10), .val (.int (0 : Int32))] [(.ref q)])) _
      refine st38.trans ?_
      show Steps p.tables e below (T38.setTop (mkF m 87 #[.val (.ref q), .val (.ref ra), .val (.ref ib), .val (.int cd), .val (.int (0 : Int32)), .val (.int v10), .val (.int (0 : Int32))] [(.int (0 : Int32))])) _
      refine XS.iload X38.here hx rfl (hb hby d5_87) rfl ?_
      show Steps p.tables e below (T38.setTop (mkF m 89 #[.val (.ref q), .val (.ref ra), .val (.ref ib), .val (.int cd), .val (.int (0 : Int32)), .val (.int v10), .val (.int (0 : Int32))] [(.int (0 : Int32)), (.int (0 : Int32))])) _
      refine XS.icmpNo X38.here hx rfl (hb hby d5_89) rfl (teq rfl).2 ?_
      show Steps p.tables e below (T38.setTop (mkF m 92 #[.val (.ref q), .val (.ref ra), .val (.ref ib), .val (.int cd), .val (.int (0 : Int32)), .val (.int v10), .val (.int (0 : Int32))] [])) _
      refine XS.iconst X38.here hx rfl (hb hby d5_92) ?_
      show Steps p.tables e below (T38.setTop (mkF m 93 #[.val (.ref q), .val (.ref ra), .val (.ref ib), .val (.int cd), .val (.int (0 : Int32)), .val (.int v10), .val (.int (0 : Int32))] [(.int (1 : Int32))])) _
      refine XS.goto X38.here hx rfl (pc0 := 93) (pc' := 97) rfl (hb hby d5_93) (by decide) (by decide) ?_
      show Steps p.tables e below (T38.setTop (mkF m 97 #[.val (.ref q), .val (.ref ra), .val (.ref ib), .val (.int cd), .val (.int (0 : Int32)), .val (.int v10), .val (.int (0 : Int32))] [(.int (1 : Int32))])) _
      exact retN X38 hx (t := .boolean) Bd.returns (by simp) (hb hby d5_97) hr
    · show Q5_12 Z q ra ib cd ta tb ka kb h0 n0 _ T38.heap _
      rw [e38]
      exact ⟨rfl, N38, K35, F24, F25, F26, F27, F23, F28, F29, F30, F31, F32, F33⟩
theorem ef_5_13 (m : MethodId) (x0 : Addr) (x1 : Addr) (x2 : Addr) (x3 : Int32) : entryFrame m #[(.ref x0), (.ref x1), (.ref x2), (.int x3)] 7 = mkF m 0 #[.val (.ref x0), .val (.ref x1), .val (.ref x2), .val (.int x3), .unset, .unset, .unset] [] := by first | (simp [entryFrame, mkF, argsToLocals, Value.category]; done) | rfl
theorem own_split_5_13_5 (cd : Int32) (hk : (cd &&& (1 : Int32)) = (1 : Int32)) (v3 : Int32) (hv3 : v3 = (cd &&& (1 : Int32))) : v3 = (1 : Int32) := by rw [hv3]; exact hk
def Q5_13 (Z : State) (q : Addr) (ra : Addr) (ib : Addr) (cd : Int32) (ta : Addr) (tb : Addr) (ka : ClassId) (kb : ClassId) (h0 : Heap) (n0 : Nat) (v : Option Value) (h : Heap) (L : List Loc) : Prop := v = some (.int (1 : Int32)) ∧ Fr n0 L ∧ Keep h0 h [q, ta, tb, ib] ∧ Exa Z h q "com/example/evenkeel/evenkeel/TaskQueue" ∧ Exa Z h ta "com/example/evenkeel/evenkeel/QueuedTasks" ∧ Exa Z h tb "com/example/evenkeel/evenkeel/QueuedTasks" ∧ Arv Z h ra ka (.object "com/example/evenkeel/evenkeel/QueuedTasks") (2 : Int32) [(.ref ta), (.ref tb)] .null ∧ Arv Z h ib kb .boolean (2 : Int32) [(.int (1 : Int32)), (.int (0 : Int32))] (.int (0 : Int32)) ∧ Fld Z h q "com/example/evenkeel/evenkeel/TaskQueue" "first" "Lcom/example/evenkeel/evenkeel/QueuedTasks;" (.ref ta) ∧ Fld Z h q "com/example/evenkeel/evenkeel/TaskQueue" "last" "Lcom/example/evenkeel/evenkeel/QueuedTasks;" (.ref ta) ∧ Fld Z h ta "com/example/evenkeel/evenkeel/QueuedTasks" "before" "Lcom/example/evenkeel/evenkeel/QueuedTasks;" .null ∧ Fld Z h ta "com/example/evenkeel/evenkeel/QueuedTasks" "after" "Lcom/example/evenkeel/evenkeel/QueuedTasks;" .null ∧ Fld Z h tb "com/example/evenkeel/evenkeel/QueuedTasks" "before" "Lcom/example/evenkeel/evenkeel/QueuedTasks;" .null ∧ Fld Z h tb "com/example/evenkeel/evenkeel/QueuedTasks" "after" "Lcom/example/evenkeel/evenkeel/QueuedTasks;" .null
set_option maxRecDepth 65536 in
set_option maxHeartbeats 40000000 in
theorem rm5_13 (l : Launch) (Z : State) (a0 : Array Value) (hw : ∀ d ∈ tables_1, d.before a0 Z = true) (ws : List Jvm.Cond) (q : Addr) (ra : Addr) (ib : Addr) (cd : Int32) (ta : Addr) (tb : Addr) (ka : ClassId) (kb : ClassId) (h0 : Heap) (n0 : Nat) (Z0 : n0 ≤ h0.size) (I0 : Exa Z h0 q "com/example/evenkeel/evenkeel/TaskQueue") (I1 : Exa Z h0 ta "com/example/evenkeel/evenkeel/QueuedTasks") (I2 : Exa Z h0 tb "com/example/evenkeel/evenkeel/QueuedTasks") (I3 : Arv Z h0 ra ka (.object "com/example/evenkeel/evenkeel/QueuedTasks") (2 : Int32) [(.ref ta), (.ref tb)] .null) (I4 : Arv Z h0 ib kb .boolean (2 : Int32) [(.int (1 : Int32)), (.int (1 : Int32))] (.int (0 : Int32))) (I5 : Fld Z h0 q "com/example/evenkeel/evenkeel/TaskQueue" "first" "Lcom/example/evenkeel/evenkeel/QueuedTasks;" (.ref tb)) (I6 : Fld Z h0 q "com/example/evenkeel/evenkeel/TaskQueue" "last" "Lcom/example/evenkeel/evenkeel/QueuedTasks;" (.ref ta)) (I7 : Fld Z h0 ta "com/example/evenkeel/evenkeel/QueuedTasks" "before" "Lcom/example/evenkeel/evenkeel/QueuedTasks;" (.ref tb)) (I8 : Fld Z h0 ta "com/example/evenkeel/evenkeel/QueuedTasks" "after" "Lcom/example/evenkeel/evenkeel/QueuedTasks;" .null) (I9 : Fld Z h0 tb "com/example/evenkeel/evenkeel/QueuedTasks" "before" "Lcom/example/evenkeel/evenkeel/QueuedTasks;" .null) (I10 : Fld Z h0 tb "com/example/evenkeel/evenkeel/QueuedTasks" "after" "Lcom/example/evenkeel/evenkeel/QueuedTasks;" (.ref ta)) (g_q : n0 ≤ q) (g_ta : n0 ≤ ta) (g_tb : n0 ≤ tb) (g_ib : n0 ≤ ib) (ne_q_ta : q ≠ ta) (ne_q_tb : q ≠ tb) (ne_ta_tb : ta ≠ tb) (ne_ra_q : ra ≠ q) (ne_ra_ta : ra ≠ ta) (ne_ra_tb : ra ≠ tb) (ne_ib_q : ib ≠ q) (ne_ib_ta : ib ≠ ta) (ne_ib_tb : ib ≠ tb) (ne_ra_ib : ra ≠ ib) (hk : (cd &&& (1 : Int32)) = (1 : Int32)) :
    MetFree l (⟨"com/example/evenkeel/evenkeel/TaskQueueIsEmptyPinLaw", "step", "(Lcom/example/evenkeel/evenkeel/TaskQueue;[Lcom/example/evenkeel/evenkeel/QueuedTasks;[ZI)Z"⟩ : MethodName) (head1 (Jvm.Cond.code (⟨"com/example/evenkeel/evenkeel/TaskQueueIsEmptyPinLaw", "step", "(Lcom/example/evenkeel/evenkeel/TaskQueue;[Lcom/example/evenkeel/evenkeel/QueuedTasks;[ZI)Z"⟩ : MethodName) method_3_code 7 (some .boolean) :: ws) ({ frames := 1, cells := 0, slots := 0, locals := 13 } : Room)) (fun a U => a = #[(.ref q), (.ref ra), (.ref ib), (.int cd)] ∧ Z.Warmed39 U.vm ∧ U.heap = h0) (fun _ _ _ _ _ => True) (fun _ U o U' => ∃ v L, o = .returned v ∧ Q5_13 Z q ra ib cd ta tb ka kb h0 n0 v U'.heap L ∧ FrameEnd U o U' L ({ frames := 1, cells := 0, slots := 0, locals := 13 } : Room).cells ({ frames := 1, cells := 0, slots := 0, locals := 13 } : Room).slots) := by
  refine MetFree.of_bodySF (plainFor_of_name pn_5) hisR ?_
  intro p e s m args below meth c s₁ Bd hml0 hP hK
  obtain ⟨rfl, hZ, hh⟩ := hP
  have hx := Bd.exec
  have hby := Bd.bytes
  have hml : c.maxLocals = 7 := hml0
  have hown : s.vm.findClass "com/example/evenkeel/evenkeel/TaskQueueIsEmptyPinLaw" = some m.cls := findClass_of_methodNamed Bd.named
  have hnm := (name_of_methodNamed Bd.named Bd.method).1
  have X0 : Stand p l e ({ frames := 1, cells := 0, slots := 0, locals := 13 } : Room) s m #[(.ref q), (.ref ra), (.ref ib), (.int cd)] below meth c s₁ [] 0 0 := Stand.of_body Bd
  have e0 : s₁.heap = h0 := by rw [← hh, Bd.state]; rfl
  have N0 := Fr.nil n0
  have K0 : Keep h0 h0 [q, ta, tb, ib] := Keep.refl h0 _
  have pre0 : ∀ tq, Steps p.tables e below (s₁.setTop (mkF m 0 #[.val (.ref q), .val (.ref ra), .val (.ref ib), .val (.int cd), .unset, .unset, .unset] [])) tq → Steps p.tables e below (s₁.setTop (entryFrame m #[(.ref q), (.ref ra), (.ref ib), (.int cd)] 7)) tq := fun tq kq => castTop (ef_5_13 m q ra ib cd) kq
  obtain ⟨v3, hv3⟩ : ∃ z_q : Int32, z_q = (cd &&& (1 : Int32)) := ⟨_, rfl⟩
  have pre1 : ∀ tq, Steps p.tables e below (s₁.setTop (mkF m 5 #[.val (.ref q), .val (.ref ra), .val (.ref ib), .val (.int cd), .val (.int v3), .unset, .unset] [])) tq → Steps p.tables e below (s₁.setTop (entryFrame m #[(.ref q), (.ref ra), (.ref ib), (.int cd)] 7)) tq := by
    intro tq kt
    refine pre0 _ ?_
    show Steps p.tables e below (s₁.setTop (mkF m 0 #[.val (.ref q), .val (.ref ra), .val (.ref ib), .val (.int cd), .unset, .unset, .unset] [])) _
    refine XS.iloadN X0.here hx rfl (hb hby d5_0) rfl ?_
    show Steps p.tables e below (s₁.setTop (mkF m 1 #[.val (.ref q), .val (.ref ra), .val (.ref ib), .val (.int cd), .unset, .unset, .unset] [(.int cd)])) _
    refine XS.iconst X0.here hx rfl (hb hby d5_1) ?_
    show Steps p.tables e below (s₁.setTop (mkF m 2 #[.val (.ref q), .val (.ref ra), .val (.ref ib), .val (.int cd), .unset, .unset, .unset] [(.int (1 : Int32)), (.int cd)])) _
    refine XS.iand X0.here hx rfl (hb hby d5_2) rfl ?_
    show Steps p.tables e below (s₁.setTop (mkF m 3 #[.val (.ref q), .val (.ref ra), .val (.ref ib), .val (.int cd), .unset, .unset, .unset] [(.int (cd &&& (1 : Int32)))])) _
    refine XS.istore X0.here hx rfl (hb hby d5_3) rfl (l' := #[.val (.ref q), .val (.ref ra), .val (.ref ib), .val (.int cd), .val (.int v3), .unset, .unset]) (by rw [hv3]; rfl) ?_
    show Steps p.tables e below (s₁.setTop (mkF m 5 #[.val (.ref q), .val (.ref ra), .val (.ref ib), .val (.int cd), .val (.int v3), .unset, .unset] [])) _
    exact kt
  rcases (own_split_5_13_5 cd hk v3 hv3) with hs2
  · subst hs2
    obtain ⟨v10, hv10⟩ : ∃ z_q : Int32, z_q = (((cd.toUInt32 >>> ((1 : Int32) &&& 31).toUInt32).toInt32) &&& (1 : Int32)) := ⟨_, rfl⟩
    obtain ⟨cl3, Ar3, q3, S3, M3, H3, G3⟩ := id I4
    have hin3 : ¬ ((1 : Int32) < 0 ∨ cl3.slots.size ≤ ((1 : Int32)).toNatClampNeg) := inb_of S3 ⟨by decide, by decide⟩
    have hat3 : cl3.slots[((1 : Int32)).toNatClampNeg]? = some (.int (1 : Int32)) := Has.at H3 hin3 rfl
    obtain ⟨cl4, Ar4, q4, S4, M4, H4, G4⟩ := id I3
    have hin4 : ¬ ((1 : Int32) < 0 ∨ cl4.slots.size ≤ ((1 : Int32)).toNatClampNeg) := inb_of S4 ⟨by decide, by decide⟩
    have hat4 : cl4.slots[((1 : Int32)).toNatClampNeg]? = some (.ref tb) := Has.at H4 hin4 rfl
    obtain ⟨cq5, kq5, q5a, q5b, q5c⟩ := isOf hZ e0 I0
    obtain ⟨_, _, ⟨T5, L5, k5, n5⟩, -, X5, ⟨Lc5, hQ5, l5, y5, z5⟩, st5⟩ := X0.virtualBack hx (y := (⟨"com/example/evenkeel/evenkeel/TaskQueue", "remove", "(Lcom/example/evenkeel/evenkeel/QueuedTasks;)V"⟩ : MethodName)) (z := (⟨"com/example/evenkeel/evenkeel/TaskQueue", "remove", "(Lcom/example/evenkeel/evenkeel/QueuedTasks;)V"⟩ : MethodName)) hown (mvT hZ (hw _ (List.mem_of_getElem? (i := 58) rfl))) (mvT hZ (hw _ (List.mem_of_getElem? (i := 59) rfl))) (notFace_of_selects (args := #[]) (mvT hZ (hw _ (List.mem_of_getElem? (i := 61) rfl)))) (mvT hZ (hw _ (List.mem_of_getElem? (i := 61) rfl))) (mvT hZ (hw _ (List.mem_of_getElem? (i := 60) rfl))) (by decide) (backOf (W := 0) (rm8_1 l Z a0 hw [] q tb ta h0 n0 Z0 I10 I5 I6 I9 I7 I8 I1 I0 I2 g_q g_tb g_ta ne_q_tb ne_q_ta (Ne.symm ne_ta_tb)) hZ (hw _ (List.mem_of_getElem? (i := 62) rfl)) (hw _ (List.mem_of_getElem? (i := 2) rfl)) (by decide) (by decide)) q5a q5c (g := (mkF m 24 #[.val (.ref q), .val (.ref ra), .val (.ref ib), .val (.int cd), .val (.int (1 : Int32)), .val (.int v10), .unset] [(.ref tb), (.ref q)])) rfl (by rw [hml]; rfl) (Steps.refl _) (argsL := [(.ref tb)]) (rest := []) (lenOf pd_0 rfl) rfl (by show 2 * 0 + _ ≤ _; exact Nat.le_of_eq rfl) (hb hby d5_24) (fun _ _ => ⟨rfl, e0, (by decide : 0 + 0 ≤ _), (by decide : 0 + 0 ≤ _)⟩)
    dsimp only [Pt.U, Pt.locs, Pt.cells, Pt.slots] at X5 l5 y5 z5 st5 hQ5
    subst l5 y5 z5
    obtain ⟨rfl, N5q, K5q, F6, F7, F8, F9, F10, F11, F12, F13, F14⟩ := hQ5
    have N5 := Fr.app N0 N5q
    have F15 : Exa Z T5.heap q "com/example/evenkeel/evenkeel/TaskQueue" := I0.keep K5q
    have F16 : Exa Z T5.heap ta "com/example/evenkeel/evenkeel/QueuedTasks" := I1.keep K5q
    have F17 : Exa Z T5.heap tb "com/example/evenkeel/evenkeel/QueuedTasks" := I2.keep K5q
    have F18 : Arv Z T5.heap ra ka (.object "com/example/evenkeel/evenkeel/QueuedTasks") (2 : Int32) [(.ref ta), (.ref tb)] .null := I3.keep K5q (ninS ne_ra_q (ninS ne_ra_tb (ninS ne_ra_ta nin0)))
    have F19 : Arv Z T5.heap ib kb .boolean (2 : Int32) [(.int (1 : Int32)), (.int (1 : Int32))] (.int (0 : Int32)) := I4.keep K5q (ninS ne_ib_q (ninS ne_ib_tb (ninS ne_ib_ta nin0)))
    have Z20 : n0 ≤ T5.heap.size := Nat.le_trans Z0 K5q.1
    have K21 : Keep h0 T5.heap [q, ta, tb, ib] := K0.trans K5q (allS (Or.inl (List.mem_of_getElem? (i := 0) rfl)) (allS (Or.inl (List.mem_of_getElem? (i := 2) rfl)) (allS (Or.inl (List.mem_of_getElem? (i := 1) rfl)) all0)))
    obtain ⟨cl22, Ar22, q22, S22, M22, H22, G22⟩ := id F19
    have hin22 : ¬ ((1 : Int32) < 0 ∨ cl22.slots.size ≤ ((1 : Int32)).toNatClampNeg) := inb_of S22 ⟨by decide, by decide⟩
    obtain ⟨T22, hX22, X22, e22, W22, st22⟩ := stZ X5 hx hZ rfl Ar22 (j := (1 : Int32)) hin22 (g := (mkF m 31 #[.val (.ref q), .val (.ref ra), .val (.ref ib), .val (.int cd), .val (.int (1 : Int32)), .val (.int v10), .unset] [(.int (0 : Int32)), (.int (1 : Int32)), (.ref ib)])) rfl rfl (hb hby d5_31)
    have F23 : Arv Z hX22 ib kb .boolean (2 : Int32) [(.int (1 : Int32)), (.int (0 : Int32))] (.int (0 : Int32)) := Arv.set Ar22 q22 S22 M22 H22 G22 (fits_nar_bool _) W22 1 rfl (Nat.le_of_ble_eq_true rfl)
    have N22 := Fr.snoc X22 N5 g_ib
    have F24 : Exa Z hX22 q "com/example/evenkeel/evenkeel/TaskQueue" := F13.wr W22
    have F25 : Exa Z hX22 ta "com/example/evenkeel/evenkeel/QueuedTasks" := F12.wr W22
    have F26 : Exa Z hX22 tb "com/example/evenkeel/evenkeel/QueuedTasks" := F14.wr W22
    have F27 : Arv Z hX22 ra ka (.object "com/example/evenkeel/evenkeel/QueuedTasks") (2 : Int32) [(.ref ta), (.ref tb)] .null := F18.other W22 ne_ra_ib
    have F28 : Fld Z hX22 q "com/example/evenkeel/evenkeel/TaskQueue" "first" "Lcom/example/evenkeel/evenkeel/QueuedTasks;" (.ref ta) := F6.other W22 (Or.inl (Ne.symm ne_ib_q))
    have F29 : Fld Z hX22 q "com/example/evenkeel/evenkeel/TaskQueue" "last" "Lcom/example/evenkeel/evenkeel/QueuedTasks;" (.ref ta) := F7.other W22 (Or.inl (Ne.symm ne_ib_q))
    have F30 : Fld Z hX22 tb "com/example/evenkeel/evenkeel/QueuedTasks" "before" "Lcom/example/evenkeel/evenkeel/QueuedTasks;" .null := F8.other W22 (Or.inl (Ne.symm ne_ib_tb))
    have F31 : Fld Z hX22 tb "com/example/evenkeel/evenkeel/QueuedTasks" "after" "Lcom/example/evenkeel/evenkeel/QueuedTasks;" .null := F9.other W22 (Or.inl (Ne.symm ne_ib_tb))
    have F32 : Fld Z hX22 ta "com/example/evenkeel/evenkeel/QueuedTasks" "before" "Lcom/example/evenkeel/evenkeel/QueuedTasks;" .null := F10.other W22 (Or.inl (Ne.symm ne_ib_ta))
    have F33 : Fld Z hX22 ta "com/example/evenkeel/evenkeel/QueuedTasks" "after" "Lcom/example/evenkeel/evenkeel/QueuedTasks;" .null := F11.other W22 (Or.inl (Ne.symm ne_ib_ta))
    have Z34 : n0 ≤ hX22.size := Nat.le_trans Z20 (Keep.of_wr W22).1
    have K35 : Keep h0 hX22 [q, ta, tb, ib] := K21.wr W22 (Or.inl (List.mem_of_getElem? (i := 3) rfl))
    obtain ⟨cl36, Ar36, q36, S36, M36, H36, G36⟩ := id F23
    have hin36 : ¬ ((0 : Int32) < 0 ∨ cl36.slots.size ≤ ((0 : Int32)).toNatClampNeg) := inb_of S36 ⟨by decide, by decide⟩
    have hat36 : cl36.slots[((0 : Int32)).toNatClampNeg]? = some (.int (1 : Int32)) := Has.at H36 hin36 rfl
    obtain ⟨cq37, kq37, q37a, q37b, q37c⟩ := isOf hZ e22 F24
    obtain ⟨_, _, ⟨T37, L37, k37, n37⟩, -, X37, ⟨Lc37, hQ37, l37, y37, z37⟩, st37⟩ := X22.virtualBack hx (y := (⟨"com/example/evenkeel/evenkeel/TaskQueue", "isEmpty", "()Z"⟩ : MethodName)) (z := (⟨"com/example/evenkeel/evenkeel/TaskQueue", "isEmpty", "()Z"⟩ : MethodName)) hown (mvT hZ (hw _ (List.mem_of_getElem? (i := 31) rfl))) (mvT hZ (hw _ (List.mem_of_getElem? (i := 32) rfl))) (notFace_of_selects (args := #[]) (mvT hZ (hw _ (List.mem_of_getElem? (i := 34) rfl)))) (mvT hZ (hw _ (List.mem_of_getElem? (i := 34) rfl))) (mvT hZ (hw _ (List.mem_of_getElem? (i := 33) rfl))) (by decide) (backOf (W := 0) (rm4_1 l Z a0 hw [] q ta hX22 n0 Z34 F28) hZ (hw _ (List.mem_of_getElem? (i := 35) rfl)) (hw _ (List.mem_of_getElem? (i := 2) rfl)) (by decide) (by decide)) q37a q37c (g := (mkF m 84 #[.val (.ref q), .val (.ref ra), .val (.ref ib), .val (.int cd), .val (.int (1 : Int32)), .val (.int v10), .val (.int (0 : Int32))] [(.ref q)])) rfl (by rw [hml]; rfl) (Steps.refl _) (argsL := []) (rest := []) (lenOf pd_1 rfl) rfl (by show 2 * 0 + _ ≤ _; exact Nat.le_of_eq rfl) (hb hby d5_84) (fun _ _ => ⟨rfl, e22, (by decide : 0 + 0 ≤ _), (by decide : 0 + 0 ≤ _)⟩)
    dsimp only [Pt.U, Pt.locs, Pt.cells, Pt.slots] at X37 l37 y37 z37 st37 hQ37
    subst l37 y37 z37
    obtain ⟨rfl, N37q, e37⟩ := hQ37
    have N37 := Fr.app N22 N37q
    obtain ⟨fs, hr, hrun, hended, hW, hsame⟩ := X37.leave (v := some (Value.int (1 : Int32))) (fun h => by rw [Bd.returns] at h; cases h)
    refine ⟨_, _, pre1 _ ?_, hrun, hended, _, _, rfl, ?_, ⟨_, rfl⟩, hW, hsame.mono (by decide) (by decide)⟩
    · skip
      show Steps p.tables e below (s₁.setTop (mkF m 5 #[.val (.ref q), .val (.ref ra), .val (.ref ib), .val (.int cd), .val (.int (1 : Int32)), .unset, .unset] [])) _
      refine XS.iloadN X0.here hx rfl (hb hby d5_5) rfl ?_
      show Steps p.tables e below (s₁.setTop (mkF m 6 #[.val (.ref q), .val (.ref ra), .val (.ref ib), .val (.int cd), .val (.int (1 : Int32)), .unset, .unset] [(.int cd)])) _
      refine XS.iconst X0.here hx rfl (hb hby d5_6) ?_
      show Steps p.tables e below (s₁.setTop (mkF m 7 #[.val (.ref q), .val (.ref ra), .val (.ref ib), .val (.int cd), .val (.int (1 : Int32)), .unset, .unset] [(.int (1 : Int32)), (.int cd)])) _
      refine XS.iushr X0.here hx rfl (hb hby d5_7) rfl ?_
      show Steps p.tables e below (s₁.setTop (mkF m 8 #[.val (.ref q), .val (.ref ra), .val (.ref ib), .val (.int cd), .val (.int (1 : Int32)), .unset, .unset] [(.int ((cd.toUInt32 >>> ((1 : Int32) &&& 31).toUInt32).toInt32))])) _
      refine XS.iconst X0.here hx rfl (hb hby d5_8) ?_
      show Steps p.tables e below (s₁.setTop (mkF m 9 #[.val (.ref q), .val (.ref ra), .val (.ref ib), .val (.int cd), .val (.int (1 : Int32)), .unset, .unset] [(.int (1 : Int32)), (.int ((cd.toUInt32 >>> ((1 : Int32) &&& 31).toUInt32).toInt32))])) _
      refine XS.iand X0.here hx rfl (hb hby d5_9) rfl ?_
      show Steps p.tables e below (s₁.setTop (mkF m 10 #[.val (.ref q), .val (.ref ra), .val (.ref ib), .val (.int cd), .val (.int (1 : Int32)), .unset, .unset] [(.int (((cd.toUInt32 >>> ((1 : Int32) &&& 31).toUInt32).toInt32) &&& (1 : Int32)))])) _
      refine XS.istore X0.here hx rfl (hb hby d5_10) rfl (l' := #[.val (.ref q), .val (.ref ra), .val (.ref ib), .val (.int cd), .val (.int (1 : Int32)), .val (.int v10), .unset]) (by rw [hv10]; rfl) ?_
      show Steps p.tables e below (s₁.setTop (mkF m 12 #[.val (.ref q), .val (.ref ra), .val (.ref ib), .val (.int cd), .val (.int (1 : Int32)), .val (.int v10), .unset] [])) _
      refine XS.aloadN X0.here hx rfl (hb hby d5_12) rfl rfl ?_
      show Steps p.tables e below (s₁.setTop (mkF m 13 #[.val (.ref q), .val (.ref ra), .val (.ref ib), .val (.int cd), .val (.int (1 : Int32)), .val (.int v10), .unset] [(.ref ib)])) _
      refine XS.iload X0.here hx rfl (hb hby d5_13) rfl ?_
      show Steps p.tables e below (s₁.setTop (mkF m 15 #[.val (.ref q), .val (.ref ra), .val (.ref ib), .val (.int cd), .val (.int (1 : Int32)), .val (.int v10), .unset] [(.int (1 : Int32)), (.ref ib)])) _
      refine X0.baloadBooleans hx (j := (1 : Int32)) (v := (.int (1 : Int32))) (heq_of e0 Ar3.1) (State.isArrayOf_alike hZ.alike Ar3.2.1) Ar3.2.2 hin3 hat3 (g := (mkF m 15 #[.val (.ref q), .val (.ref ra), .val (.ref ib), .val (.int cd), .val (.int (1 : Int32)), .val (.int v10), .unset] [(.int (1 : Int32)), (.ref ib)])) rfl rfl (hb hby d5_15) _ ?_
      show Steps p.tables e below (s₁.setTop (mkF m 16 #[.val (.ref q), .val (.ref ra), .val (.ref ib), .val (.int cd), .val (.int (1 : Int32)), .val (.int v10), .unset] [(.int (1 : Int32))])) _
      refine XS.ifNo X0.here hx rfl (hb hby d5_16) rfl ((if0 _ _).trans (feq (by decide)).1) ?_
      show Steps p.tables e below (s₁.setTop (mkF m 19 #[.val (.ref q), .val (.ref ra), .val (.ref ib), .val (.int cd), .val (.int (1 : Int32)), .val (.int v10), .unset] [])) _
      refine XS.aloadN X0.here hx rfl (hb hby d5_19) rfl rfl ?_
      show Steps p.tables e below (s₁.setTop (mkF m 20 #[.val (.ref q), .val (.ref ra), .val (.ref ib), .val (.int cd), .val (.int (1 : Int32)), .val (.int v10), .unset] [(.ref q)])) _
      refine XS.aloadN X0.here hx rfl (hb hby d5_20) rfl rfl ?_
      show Steps p.tables e below (s₁.setTop (mkF m 21 #[.val (.ref q), .val (.ref ra), .val (.ref ib), .val (.int cd), .val (.int (1 : Int32)), .val (.int v10), .unset] [(.ref ra), (.ref q)])) _
      refine XS.iload X0.here hx rfl (hb hby d5_21) rfl ?_
      show Steps p.tables e below (s₁.setTop (mkF m 23 #[.val (.ref q), .val (.ref ra), .val (.ref ib), .val (.int cd), .val (.int (1 : Int32)), .val (.int v10), .unset] [(.int (1 : Int32)), (.ref ra), (.ref q)])) _
      refine X0.aaload hx (j := (1 : Int32)) (v := (.ref tb)) (heq_of e0 Ar4.1) (State.isArrayOf_alike hZ.alike Ar4.2.1) rfl Ar4.2.2 hin4 hat4 (g := (mkF m 23 #[.val (.ref q), .val (.ref ra), .val (.ref ib), .val (.int cd), .val (.int (1 : Int32)), .val (.int v10), .unset] [(.int (1 : Int32)), (.ref ra), (.ref q)])) rfl rfl (hb hby d5_23) _ ?_
      show Steps p.tables e below (s₁.setTop (mkF m 24 #[.val (.ref q), .val (.ref ra), .val (.ref ib), .val (.int cd), .val (.int (1 : Int32)), .val (.int v10), .unset] [(.ref tb), (.ref q)])) _
      refine st5.trans ?_
      show Steps p.tables e below (T5.setTop (mkF m 27 #[.val (.ref q), .val (.ref ra), .val (.ref ib), .val (.int cd), .val (.int (1 : Int32)), .val (.int v10), .unset] [])) _
      refine XS.aloadN X5.here hx rfl (hb hby d5_27) rfl rfl ?_
      show Steps p.tables e below (T5.setTop (mkF m 28 #[.val (.ref q), .val (.ref ra), .val (.ref ib), .val (.int cd), .val (.int (1 : Int32)), .val (.int v10), .unset] [(.ref ib)])) _
      refine XS.iload X5.here hx rfl (hb hby d5_28) rfl ?_
      show Steps p.tables e below (T5.setTop (mkF m 30 #[.val (.ref q), .val (.ref ra), .val (.ref ib), .val (.int cd), .val (.int (1 : Int32)), .val (.int v10), .unset] [(.int (1 : Int32)), (.ref ib)])) _
      refine XS.iconst X5.here hx rfl (hb hby d5_30) ?_
      show Steps p.tables e below (T5.setTop (mkF m 31 #[.val (.ref q), .val (.ref ra), .val (.ref ib), .val (.int cd), .val (.int (1 : Int32)), .val (.int v10), .unset] [(.int (0 : Int32)), (.int (1 : Int32)), (.ref ib)])) _
      refine st22 _ ?_
      show Steps p.tables e below (T22.setTop (mkF m 32 #[.val (.ref q), .val (.ref ra), .val (.ref ib), .val (.int cd), .val (.int (1 : Int32)), .val (.int v10), .unset] [])) _
      refine XS.goto X22.here hx rfl (pc0 := 32) (pc' := 64) rfl (hb hby d5_32) (by decide) (by decide) ?_
      show Steps p.tables e below (T22.setTop (mkF m 64 #[.val (.ref q), .val (.ref ra), .val (.ref ib), .val (.int cd), .val (.int (1 : Int32)), .val (.int v10), .unset] [])) _
      refine XS.aloadN X22.here hx rfl (hb hby d5_64) rfl rfl ?_
      show Steps p.tables e below (T22.setTop (mkF m 65 #[.val (.ref q), .val (.ref ra), .val (.ref ib), .val (.int cd), .val (.int (1 : Int32)), .val (.int v10), .unset] [(.ref ib)])) _
      refine XS.iconst X22.here hx rfl (hb hby d5_65) ?_
      show Steps p.tables e below (T22.setTop (mkF m 66 #[.val (.ref q), .val (.ref ra), .val (.ref ib), .val (.int cd), .val (.int (1 : Int32)), .val (.int v10), .unset] [(.int (0 : Int32)), (.ref ib)])) _
      refine X22.baloadBooleans hx (j := (0 : Int32)) (v := (.int (1 : Int32))) (heq_of e22 Ar36.1) (State.isArrayOf_alike hZ.alike Ar36.2.1) Ar36.2.2 hin36 hat36 (g := (mkF m 66 #[.val (.ref q), .val (.ref ra), .val (.ref ib), .val (.int cd), .val (.int (1 : Int32)), .val (.int v10), .unset] [(.int (0 : Int32)), (.ref ib)])) rfl rfl (hb hby d5_66) _ ?_
      show Steps p.tables e below (T22.setTop (mkF m 67 #[.val (.ref q), .val (.ref ra), .val (.ref ib), .val (.int cd), .val (.int (1 : Int32)), .val (.int v10), .unset] [(.int (1 : Int32))])) _
      refine XS.ifYes X22.here hx rfl (pc0 := 67) (pc' := 80) rfl (hb hby d5_67) rfl ((if0 _ _).trans (feq (by decide)).2) (by decide) (by decide) ?_
      show Steps p.tables e below (T22.setTop (mkF m 80 #[.val (.ref q), .val (.ref ra), .val (.ref ib), .val (.int cd), .val (.int (1 : Int32)), .val (.int v10), .unset] [])) _
      refine XS.iconst X22.here hx rfl (hb hby d5_80) ?_
      show Steps p.tables e below (T22.setTop (mkF m 81 #[.val (.ref q), .val (.ref ra), .val (.ref ib), .val (.int cd), .val (.int (1 : Int32)), .val (.int v10), .unset] [(.int (0 : Int32))])) _
      refine XS.istore X22.here hx rfl (hb hby d5_81) rfl (l' := #[.val (.ref q), .val (.ref ra), .val (.ref ib), .val (.int cd), .val (.int (1 : Int32)), .val (.int v10), .val (.int (0 : Int32))]) rfl ?_
      show Steps p.tables e below (T22.setTop (mkF m 83 #[.val (.ref q), .val (.ref ra), .val (.ref ib), .val (.int cd), .val (.int (1 : Int32)), .val (.int v10), .val (.int (0 : Int32))] [])) _
      refine XS.aloadN X22.here hx rfl (hb hby d5_83) rfl rfl ?_
      show Steps p.tables e below (T22.setTop (mkF m 84 #[.val (.ref q), .val (.ref ra), .val (.ref ib), .val (.int cd), .val (.int (1 : Int32)), .val (.int v10), .val (.int (0 : Int32))] [(.ref q)])) _
      refine st37.trans ?_
      show Steps p.tables e below (T37.setTop (mkF m 87 #[.val (.ref q), .val (.ref ra), .val (.ref ib), .val (.int cd), .val (.int (1 : Int32)), .val (.int v10), .val (.int (0 : Int32))] [(.int (0 : Int32))])) _
      refine XS.iload X37.here hx rfl (hb hby d5_87) rfl ?_
      show Steps p.tables e below (T37.setTop (mkF m 89 #[.val (.ref q), .val (.ref ra), .val (.ref ib), .val (.int cd), .val (.int (1 : Int32)), .val (.int v10), .val (.int (0 : Int32))] [(.int (0 : Int32)), (.int (0 : Int32))])) _
      refine XS.icmpNo X37.here hx rfl (hb hby d5_89) rfl (teq rfl).2 ?_
      show Steps p.tables e below (T37.setTop (mkF m 92 #[.val (.ref q), .val (.ref ra), .val (.ref ib), .val (.int cd), .val (.int (1 : Int32)), .val (.int v10), .val (.int (0 : Int32))] [])) _
      refine XS.iconst X37.here hx rfl (hb hby d5_92) ?_
      show Steps p.tables e below (T37.setTop (mkF m 93 #[.val (.ref q), .val (.ref ra), .val (.ref ib), .val (.int cd), .val (.int (1 : Int32)), .val (.int v10), .val (.int (0 : Int32))] [(.int (1 : Int32))])) _
      refine XS.goto X37.here hx rfl (pc0 := 93) (pc' := 97) rfl (hb hby d5_93) (by decide) (by decide) ?_
      show Steps p.tables e below (T37.setTop (mkF m 97 #[.val (.ref q), .val (.ref ra), .val (.ref ib), .val (.int cd), .val (.int (1 : Int32)), .val (.int v10), .val (.int (0 : Int32))] [(.int (1 : Int32))])) _
      exact retN X37 hx (t := .boolean) Bd.returns (by simp) (hb hby d5_97) hr
    · show Q5_13 Z q ra ib cd ta tb ka kb h0 n0 _ T37.heap _
      rw [e37]
      exact ⟨rfl, N37, K35, F24, F25, F26, F27, F23, F28, F29, F32, F33, F30, F31⟩
def Q5_14 (Z : State) (q ra ib : Addr) (cd : Int32) (ta tb : Addr) (ka kb : ClassId) (stn : Nat) (h0 : Heap) (n0 : Nat) (v : Option Value) (h : Heap) (L : List Loc) : Prop := ∃ so : Nat, v = some (.int (1 : Int32)) ∧ Fr n0 L ∧ Keep h0 h [q, ta, tb, ib] ∧ own_qs Z h q ta tb ra ib ka kb so
theorem rm5_14 (l : Launch) (Z : State) (a0 : Array Value) (hw : ∀ d ∈ tables_1, d.before a0 Z = true) (ws : List Jvm.Cond) (q ra ib : Addr) (cd : Int32) (ta tb : Addr) (ka kb : ClassId) (stn : Nat) (h0 : Heap) (n0 : Nat) (Z0 : n0 ≤ h0.size) (I0 : own_qs Z h0 q ta tb ra ib ka kb stn) (g_q : n0 ≤ q) (g_ta : n0 ≤ ta) (g_tb : n0 ≤ tb) (g_ib : n0 ≤ ib) (hns : own_ns q ta tb ra ib) :
    MetFree l (⟨"com/example/evenkeel/evenkeel/TaskQueueIsEmptyPinLaw", "step", "(Lcom/example/evenkeel/evenkeel/TaskQueue;[Lcom/example/evenkeel/evenkeel/QueuedTasks;[ZI)Z"⟩ : MethodName) (head1 (Jvm.Cond.code (⟨"com/example/evenkeel/evenkeel/TaskQueueIsEmptyPinLaw", "step", "(Lcom/example/evenkeel/evenkeel/TaskQueue;[Lcom/example/evenkeel/evenkeel/QueuedTasks;[ZI)Z"⟩ : MethodName) method_3_code 7 (some .boolean) :: ws) ({ frames := 1, cells := 0, slots := 0, locals := 13 } : Room)) (fun a U => a = #[(.ref q), (.ref ra), (.ref ib), (.int cd)] ∧ Z.Warmed39 U.vm ∧ U.heap = h0) (fun _ _ _ _ _ => True) (fun _ U o U' => ∃ v L, o = .returned v ∧ Q5_14 Z q ra ib cd ta tb ka kb stn h0 n0 v U'.heap L ∧ FrameEnd U o U' L ({ frames := 1, cells := 0, slots := 0, locals := 13 } : Room).cells ({ frames := 1, cells := 0, slots := 0, locals := 13 } : Room).slots) := by
  obtain ⟨hlt, f0, f1, f2, f3, f4, f5, f6, f7, f8, f9, f10⟩ := I0
  obtain ⟨e0, e1, e2, e3, e4, e5, e6, e7, e8, e9⟩ := hns
  have hc : stn = 0 ∨ stn = 1 ∨ stn = 2 ∨ stn = 3 ∨ stn = 4 := by omega
  rcases hc with rfl | rfl | rfl | rfl | rfl
  · rcases own_bit cd with hk | hk
    · rcases own_bit (cd.toUInt32 >>> ((1 : Int32) &&& 31).toUInt32).toInt32 with hd | hd
      · skip
        exact MetFree.mono (rm5 l Z a0 hw ws q ra ib cd ta tb ka kb h0 n0 Z0 f0 f1 f2 f3 f4 f5 f6 f7 f8 f9 f10 g_q g_ta g_tb g_ib e0 e1 e2 e3 e4 e5 e6 e7 e8 e9 hk hd) (fun _ _ h => h) (fun _ _ _ _ _ h => h) (fun _ _ _ _ _ ⟨v, L, ho, ⟨hv, hF, hK, r0, r1, r2, r3, r4, r5, r6, r7, r8, r9, r10⟩, hE⟩ => ⟨v, L, ho, ⟨1, hv, hF, hK, by decide, r0, r1, r2, r3, r4, r5, r6, r7, r8, r9, r10⟩, hE⟩)
      · skip
        exact MetFree.mono (rm5_1 l Z a0 hw ws q ra ib cd ta tb ka kb h0 n0 Z0 f0 f1 f2 f3 f4 f5 f6 f7 f8 f9 f10 g_q g_ta g_tb g_ib e0 e1 e2 e3 e4 e5 e6 e7 e8 e9 hk hd) (fun _ _ h => h) (fun _ _ _ _ _ h => h) (fun _ _ _ _ _ ⟨v, L, ho, ⟨hv, hF, hK, r0, r1, r2, r3, r4, r5, r6, r7, r8, r9, r10⟩, hE⟩ => ⟨v, L, ho, ⟨1, hv, hF, hK, by decide, r0, r1, r2, r3, r4, r5, r6, r7, r8, r9, r10⟩, hE⟩)
    · rcases own_bit (cd.toUInt32 >>> ((1 : Int32) &&& 31).toUInt32).toInt32 with hd | hd
      · skip
        exact MetFree.mono (rm5_2 l Z a0 hw ws q ra ib cd ta tb ka kb h0 n0 Z0 f0 f1 f2 f3 f4 f5 f6 f7 f8 f9 f10 g_q g_ta g_tb g_ib e0 e1 e2 e3 e4 e5 e6 e7 e8 e9 hk hd) (fun _ _ h => h) (fun _ _ _ _ _ h => h) (fun _ _ _ _ _ ⟨v, L, ho, ⟨hv, hF, hK, r0, r1, r2, r3, r4, r5, r6, r7, r8, r9, r10⟩, hE⟩ => ⟨v, L, ho, ⟨2, hv, hF, hK, by decide, r0, r1, r2, r3, r4, r5, r6, r7, r8, r9, r10⟩, hE⟩)
      · skip
        exact MetFree.mono (rm5_3 l Z a0 hw ws q ra ib cd ta tb ka kb h0 n0 Z0 f0 f1 f2 f3 f4 f5 f6 f7 f8 f9 f10 g_q g_ta g_tb g_ib e0 e1 e2 e3 e4 e5 e6 e7 e8 e9 hk hd) (fun _ _ h => h) (fun _ _ _ _ _ h => h) (fun _ _ _ _ _ ⟨v, L, ho, ⟨hv, hF, hK, r0, r1, r2, r3, r4, r5, r6, r7, r8, r9, r10⟩, hE⟩ => ⟨v, L, ho, ⟨2, hv, hF, hK, by decide, r0, r1, r2, r3, r4, r5, r6, r7, r8, r9, r10⟩, hE⟩)
  · rcases own_bit cd with hk | hk
    · skip
      exact MetFree.mono (rm5_4 l Z a0 hw ws q ra ib cd ta tb ka kb h0 n0 Z0 f0 f1 f2 f3 f4 f5 f6 f7 f8 f9 f10 g_q g_ta g_tb g_ib e0 e1 e2 e3 e4 e5 e6 e7 e8 e9 hk) (fun _ _ h => h) (fun _ _ _ _ _ h => h) (fun _ _ _ _ _ ⟨v, L, ho, ⟨hv, hF, hK, r0, r1, r2, r3, r4, r5, r6, r7, r8, r9, r10⟩, hE⟩ => ⟨v, L, ho, ⟨0, hv, hF, hK, by decide, r0, r1, r2, r3, r4, r5, r6, r7, r8, r9, r10⟩, hE⟩)
    · rcases own_bit (cd.toUInt32 >>> ((1 : Int32) &&& 31).toUInt32).toInt32 with hd | hd
      · skip
        exact MetFree.mono (rm5_5 l Z a0 hw ws q ra ib cd ta tb ka kb h0 n0 Z0 f0 f1 f2 f3 f4 f5 f6 f7 f8 f9 f10 g_q g_ta g_tb g_ib e0 e1 e2 e3 e4 e5 e6 e7 e8 e9 hk hd) (fun _ _ h => h) (fun _ _ _ _ _ h => h) (fun _ _ _ _ _ ⟨v, L, ho, ⟨hv, hF, hK, r0, r1, r2, r3, r4, r5, r6, r7, r8, r9, r10⟩, hE⟩ => ⟨v, L, ho, ⟨4, hv, hF, hK, by decide, r0, r1, r2, r3, r4, r5, r6, r7, r8, r9, r10⟩, hE⟩)
      · skip
        exact MetFree.mono (rm5_6 l Z a0 hw ws q ra ib cd ta tb ka kb h0 n0 Z0 f0 f1 f2 f3 f4 f5 f6 f7 f8 f9 f10 g_q g_ta g_tb g_ib e0 e1 e2 e3 e4 e5 e6 e7 e8 e9 hk hd) (fun _ _ h => h) (fun _ _ _ _ _ h => h) (fun _ _ _ _ _ ⟨v, L, ho, ⟨hv, hF, hK, r0, r1, r2, r3, r4, r5, r6, r7, r8, r9, r10⟩, hE⟩ => ⟨v, L, ho, ⟨3, hv, hF, hK, by decide, r0, r1, r2, r3, r4, r5, r6, r7, r8, r9, r10⟩, hE⟩)
  · rcases own_bit cd with hk | hk
    · rcases own_bit (cd.toUInt32 >>> ((1 : Int32) &&& 31).toUInt32).toInt32 with hd | hd
      · skip
        exact MetFree.mono (rm5_8 l Z a0 hw ws q ra ib cd ta tb ka kb h0 n0 Z0 f0 f1 f2 f3 f4 f5 f6 f7 f8 f9 f10 g_q g_ta g_tb g_ib e0 e1 e2 e3 e4 e5 e6 e7 e8 e9 hk hd) (fun _ _ h => h) (fun _ _ _ _ _ h => h) (fun _ _ _ _ _ ⟨v, L, ho, ⟨hv, hF, hK, r0, r1, r2, r3, r4, r5, r6, r7, r8, r9, r10⟩, hE⟩ => ⟨v, L, ho, ⟨3, hv, hF, hK, by decide, r0, r1, r2, r3, r4, r5, r6, r7, r8, r9, r10⟩, hE⟩)
      · skip
        exact MetFree.mono (rm5_9 l Z a0 hw ws q ra ib cd ta tb ka kb h0 n0 Z0 f0 f1 f2 f3 f4 f5 f6 f7 f8 f9 f10 g_q g_ta g_tb g_ib e0 e1 e2 e3 e4 e5 e6 e7 e8 e9 hk hd) (fun _ _ h => h) (fun _ _ _ _ _ h => h) (fun _ _ _ _ _ ⟨v, L, ho, ⟨hv, hF, hK, r0, r1, r2, r3, r4, r5, r6, r7, r8, r9, r10⟩, hE⟩ => ⟨v, L, ho, ⟨4, hv, hF, hK, by decide, r0, r1, r2, r3, r4, r5, r6, r7, r8, r9, r10⟩, hE⟩)
    · skip
      exact MetFree.mono (rm5_7 l Z a0 hw ws q ra ib cd ta tb ka kb h0 n0 Z0 f0 f1 f2 f3 f4 f5 f6 f7 f8 f9 f10 g_q g_ta g_tb g_ib e0 e1 e2 e3 e4 e5 e6 e7 e8 e9 hk) (fun _ _ h => h) (fun _ _ _ _ _ h => h) (fun _ _ _ _ _ ⟨v, L, ho, ⟨hv, hF, hK, r0, r1, r2, r3, r4, r5, r6, r7, r8, r9, r10⟩, hE⟩ => ⟨v, L, ho, ⟨0, hv, hF, hK, by decide, r0, r1, r2, r3, r4, r5, r6, r7, r8, r9, r10⟩, hE⟩)
  · rcases own_bit cd with hk | hk
    · skip
      exact MetFree.mono (rm5_10 l Z a0 hw ws q ra ib cd ta tb ka kb h0 n0 Z0 f0 f1 f2 f3 f4 f5 f6 f7 f8 f9 f10 g_q g_ta g_tb g_ib e0 e1 e2 e3 e4 e5 e6 e7 e8 e9 hk) (fun _ _ h => h) (fun _ _ _ _ _ h => h) (fun _ _ _ _ _ ⟨v, L, ho, ⟨hv, hF, hK, r0, r1, r2, r3, r4, r5, r6, r7, r8, r9, r10⟩, hE⟩ => ⟨v, L, ho, ⟨2, hv, hF, hK, by decide, r0, r1, r2, r3, r4, r5, r6, r7, r8, r9, r10⟩, hE⟩)
    · skip
      exact MetFree.mono (rm5_11 l Z a0 hw ws q ra ib cd ta tb ka kb h0 n0 Z0 f0 f1 f2 f3 f4 f5 f6 f7 f8 f9 f10 g_q g_ta g_tb g_ib e0 e1 e2 e3 e4 e5 e6 e7 e8 e9 hk) (fun _ _ h => h) (fun _ _ _ _ _ h => h) (fun _ _ _ _ _ ⟨v, L, ho, ⟨hv, hF, hK, r0, r1, r2, r3, r4, r5, r6, r7, r8, r9, r10⟩, hE⟩ => ⟨v, L, ho, ⟨1, hv, hF, hK, by decide, r0, r1, r2, r3, r4, r5, r6, r7, r8, r9, r10⟩, hE⟩)
  · rcases own_bit cd with hk | hk
    · skip
      exact MetFree.mono (rm5_12 l Z a0 hw ws q ra ib cd ta tb ka kb h0 n0 Z0 f0 f1 f2 f3 f4 f5 f6 f7 f8 f9 f10 g_q g_ta g_tb g_ib e0 e1 e2 e3 e4 e5 e6 e7 e8 e9 hk) (fun _ _ h => h) (fun _ _ _ _ _ h => h) (fun _ _ _ _ _ ⟨v, L, ho, ⟨hv, hF, hK, r0, r1, r2, r3, r4, r5, r6, r7, r8, r9, r10⟩, hE⟩ => ⟨v, L, ho, ⟨2, hv, hF, hK, by decide, r0, r1, r2, r3, r4, r5, r6, r7, r8, r9, r10⟩, hE⟩)
    · skip
      exact MetFree.mono (rm5_13 l Z a0 hw ws q ra ib cd ta tb ka kb h0 n0 Z0 f0 f1 f2 f3 f4 f5 f6 f7 f8 f9 f10 g_q g_ta g_tb g_ib e0 e1 e2 e3 e4 e5 e6 e7 e8 e9 hk) (fun _ _ h => h) (fun _ _ _ _ _ h => h) (fun _ _ _ _ _ ⟨v, L, ho, ⟨hv, hF, hK, r0, r1, r2, r3, r4, r5, r6, r7, r8, r9, r10⟩, hE⟩ => ⟨v, L, ho, ⟨1, hv, hF, hK, by decide, r0, r1, r2, r3, r4, r5, r6, r7, r8, r9, r10⟩, hE⟩)
theorem pn_0 : plainName "com/example/evenkeel/evenkeel/TaskQueueIsEmptyPinLaw" = true := by first | (simp [plainName, overriddenIn]; done) | decide +kernel
theorem pd_2 : parseMethodDescriptor "()V" = some ⟨[], none⟩ := by decide +kernel
theorem pd_3 : parseMethodDescriptor "(Lcom/example/evenkeel/evenkeel/TenantAllocation;[JJJLcom/example/evenkeel/evenkeel/Decision;)V" = some ⟨[(.object "com/example/evenkeel/evenkeel/TenantAllocation"), (.array .long), .long, .long, (.object "com/example/evenkeel/evenkeel/Decision")], none⟩ := by decide +kernel
theorem pd_4 : parseMethodDescriptor "(Lcom/example/evenkeel/evenkeel/TaskQueue;[Lcom/example/evenkeel/evenkeel/QueuedTasks;[ZI)Z" = some ⟨[(.object "com/example/evenkeel/evenkeel/TaskQueue"), (.array (.object "com/example/evenkeel/evenkeel/QueuedTasks")), (.array .boolean), .int], some .boolean⟩ := by decide +kernel
theorem ef_0 (m : MethodId) (x0 : Int32) (x1 : Int32) (x2 : Int32) (x3 : Int32) : entryFrame m #[(.int x0), (.int x1), (.int x2), (.int x3)] maxLocals = mkF m 0 #[.val (.int x0), .val (.int x1), .val (.int x2), .val (.int x3), .unset, .unset, .unset, .unset] [] := by first | (simp [entryFrame, mkF, argsToLocals, Value.category, maxLocals]; done) | rfl
def Q0 (Z : State) (k1 : Int32) (k2 : Int32) (k3 : Int32) (k4 : Int32) (h0 : Heap) (n0 : Nat) (v : Option Value) (h : Heap) (L : List Loc) : Prop := v = some (.int (1 : Int32)) ∧ Fr n0 L
set_option maxRecDepth 65536 in
set_option maxHeartbeats 40000000 in
theorem rm0 (l : Launch) (Z : State) (a0 : Array Value) (hw : ∀ d ∈ tables_1, d.before a0 Z = true) (ws : List Jvm.Cond) (k1 : Int32) (k2 : Int32) (k3 : Int32) (k4 : Int32) (h0 : Heap) (n0 : Nat) (Z0 : n0 ≤ h0.size)  :
    MetFree l x (head1 (Jvm.Cond.code x code maxLocals ret :: ws) room_1) (fun a U => a = #[(.int k1), (.int k2), (.int k3), (.int k4)] ∧ Z.Warmed39 U.vm ∧ U.heap = h0) (fun _ _ _ _ _ => True) (fun _ U o U' => ∃ v L, o = .returned v ∧ Q0 Z k1 k2 k3 k4 h0 n0 v U'.heap L ∧ FrameEnd U o U' L room_1.cells room_1.slots) := by
  refine MetFree.of_bodySF (plainFor_of_name pn_0) hisR ?_
  intro p e s m args below meth c s₁ Bd hml0 hP hK
  obtain ⟨rfl, hZ, hh⟩ := hP
  have hx := Bd.exec
  have hby := Bd.bytes
  have hml : c.maxLocals = 8 := hml0
  have hown : s.vm.findClass "com/example/evenkeel/evenkeel/TaskQueueIsEmptyPinLaw" = some m.cls := findClass_of_methodNamed Bd.named
  have hnm := (name_of_methodNamed Bd.named Bd.method).1
  have X0 : Stand p l e room_1 s m #[(.int k1), (.int k2), (.int k3), (.int k4)] below meth c s₁ [] 0 0 := Stand.of_body Bd
  have e0 : s₁.heap = h0 := by rw [← hh, Bd.state]; rfl
  have N0 := Fr.nil n0
  have K0 : Keep h0 h0 [] := Keep.refl h0 _
  have pre0 : ∀ tq, Steps p.tables e below (s₁.setTop (mkF m 0 #[.val (.int k1), .val (.int k2), .val (.int k3), .val (.int k4), .unset, .unset, .unset, .unset] [])) tq → Steps p.tables e below (s₁.setTop (entryFrame m #[(.int k1), (.int k2), (.int k3), (.int k4)] maxLocals)) tq := fun tq kq => castTop (ef_0 m k1 k2 k3 k4) kq
  obtain ⟨T1, hX1, X1, e1, E1, A1, D1, -, st1⟩ := newO X0 hx hZ hown (hw _ (List.mem_of_getElem? (i := 0) rfl)) (hw _ (List.mem_of_getElem? (i := 1) rfl)) (hw _ (List.mem_of_getElem? (i := 2) rfl)) e0 (g := (mkF m 0 #[.val (.int k1), .val (.int k2), .val (.int k3), .val (.int k4), .unset, .unset, .unset, .unset] [])) rfl (hb hby at_0) (by decide) (by decide)
  obtain ⟨b1, g1⟩ : ∃ z_q, z_q = h0.size := ⟨_, rfl⟩
  rw [← g1] at A1 D1 st1
  have g_b1 : n0 ≤ b1 := Nat.le_trans Z0 (Nat.le_of_eq g1.symm)
  have sz_b1 : h0.size ≤ b1 := Nat.le_trans K0.1 (Nat.le_of_eq g1.symm)
  have Z2 : n0 ≤ hX1.size := Nat.le_trans Z0 E1.1
  have K3 : Keep h0 hX1 [] := K0.ext E1
  have F4 : Fld Z hX1 b1 "com/example/evenkeel/evenkeel/TaskQueue" "first" "Lcom/example/evenkeel/evenkeel/QueuedTasks;" .null := D1 (Or.inl (hw _ (List.mem_of_getElem? (i := 37) rfl))) (ty := (.object "com/example/evenkeel/evenkeel/QueuedTasks")) (by decide)
  have F5 : Fld Z hX1 b1 "com/example/evenkeel/evenkeel/TaskQueue" "last" "Lcom/example/evenkeel/evenkeel/QueuedTasks;" .null := D1 (Or.inl (hw _ (List.mem_of_getElem? (i := 50) rfl))) (ty := (.object "com/example/evenkeel/evenkeel/QueuedTasks")) (by decide)
  obtain ⟨_, _, ⟨T6, L6, k6, n6⟩, -, X6, ⟨Lc6, hQ6, l6, y6, z6⟩, st6⟩ := X1.specialBack hx (y := (⟨"com/example/evenkeel/evenkeel/TaskQueue", "<init>", "()V"⟩ : MethodName)) rfl hown (mvT hZ (hw _ (List.mem_of_getElem? (i := 3) rfl))) (mvT hZ (hw _ (List.mem_of_getElem? (i := 4) rfl))) (mvT hZ (hw _ (List.mem_of_getElem? (i := 5) rfl))) (by decide) (backOf (W := 1) (rm1 l Z a0 hw [] b1 hX1 n0 Z2 ) hZ (hw _ (List.mem_of_getElem? (i := 5) rfl)) (hw _ (List.mem_of_getElem? (i := 2) rfl)) (by decide) (by decide)) (g := (mkF m 4 #[.val (.int k1), .val (.int k2), .val (.int k3), .val (.int k4), .unset, .unset, .unset, .unset] [(.ref b1), (.ref b1)])) rfl (by rw [hml]; rfl) (Steps.refl _) (a := b1) (argsL := []) (rest := [(.ref b1)]) (lenOf pd_2 rfl) rfl (by show 2 * 0 + _ ≤ _; exact Nat.le_of_eq rfl) (hb hby at_4) (fun _ _ => ⟨rfl, e1, (by decide : 1 + 0 ≤ _), (by decide : 2 + 0 ≤ _)⟩)
  dsimp only [Pt.U, Pt.locs, Pt.cells, Pt.slots] at X6 l6 y6 z6 st6 hQ6
  subst l6 y6 z6
  obtain ⟨rfl, N6q, e6⟩ := hQ6
  have N6 := Fr.app N0 N6q
  obtain ⟨T7, hX7, kx7, X7, e7, E7, A7, O7, st7⟩ := newR X6 hx hZ hown (hw _ (List.mem_of_getElem? (i := 9) rfl)) (hw _ (List.mem_of_getElem? (i := 10) rfl)) e6 (g := (mkF m 10 #[.val (.int k1), .val (.int k2), .val (.int k3), .val (.int k4), .val (.ref b1), .unset, .unset, .unset] [(.int (2 : Int32))])) rfl (hb hby at_10) rfl (by decide) (cap := 2) (by decide) (by decide) (by decide) (by decide)
  obtain ⟨b7, g7⟩ : ∃ z_q, z_q = hX1.size := ⟨_, rfl⟩
  rw [← g7] at A7 st7
  have g_b7 : n0 ≤ b7 := Nat.le_trans Z2 (Nat.le_of_eq g7.symm)
  have sz_b7 : h0.size ≤ b7 := Nat.le_trans K3.1 (Nat.le_of_eq g7.symm)
  have ne_b1_b7 : b1 ≠ b7 := Nat.ne_of_lt (Nat.lt_of_lt_of_le A1.lt (Nat.le_of_eq g7.symm))
  have F8 : Exa Z hX7 b1 "com/example/evenkeel/evenkeel/TaskQueue" := A1.ext E7
  have F9 : Fld Z hX7 b1 "com/example/evenkeel/evenkeel/TaskQueue" "first" "Lcom/example/evenkeel/evenkeel/QueuedTasks;" .null := F4.ext E7
  have F10 : Fld Z hX7 b1 "com/example/evenkeel/evenkeel/TaskQueue" "last" "Lcom/example/evenkeel/evenkeel/QueuedTasks;" .null := F5.ext E7
  have Z11 : n0 ≤ hX7.size := Nat.le_trans Z2 E7.1
  have K12 : Keep h0 hX7 [] := K3.ext E7
  have F13 : Arv Z hX7 b7 kx7 (.object "com/example/evenkeel/evenkeel/QueuedTasks") (2 : Int32) [.null, .null] .null := (Arv.new A7 (by decide)).pad (pad_rep [] .null 2)
  obtain ⟨T14, hX14, X14, e14, E14, A14, D14, -, st14⟩ := newO X7 hx hZ hown (hw _ (List.mem_of_getElem? (i := 9) rfl)) (hw _ (List.mem_of_getElem? (i := 11) rfl)) (hw _ (List.mem_of_getElem? (i := 12) rfl)) e7 (g := (mkF m 18 #[.val (.int k1), .val (.int k2), .val (.int k3), .val (.int k4), .val (.ref b1), .val (.ref b7), .unset, .unset] [(.int (0 : Int32)), (.ref b7)])) rfl (hb hby at_18) (by decide) (by decide)
  obtain ⟨b14, g14⟩ : ∃ z_q, z_q = hX7.size := ⟨_, rfl⟩
  rw [← g14] at A14 D14 st14
  have g_b14 : n0 ≤ b14 := Nat.le_trans Z11 (Nat.le_of_eq g14.symm)
  have sz_b14 : h0.size ≤ b14 := Nat.le_trans K12.1 (Nat.le_of_eq g14.symm)
  have ne_b1_b14 : b1 ≠ b14 := Nat.ne_of_lt (Nat.lt_of_lt_of_le F8.lt (Nat.le_of_eq g14.symm))
  have ne_b7_b14 : b7 ≠ b14 := Nat.ne_of_lt (Nat.lt_of_lt_of_le F13.lt (Nat.le_of_eq g14.symm))
  have F15 : Exa Z hX14 b1 "com/example/evenkeel/evenkeel/TaskQueue" := F8.ext E14
  have F16 : Fld Z hX14 b1 "com/example/evenkeel/evenkeel/TaskQueue" "first" "Lcom/example/evenkeel/evenkeel/QueuedTasks;" .null := F9.ext E14
  have F17 : Fld Z hX14 b1 "com/example/evenkeel/evenkeel/TaskQueue" "last" "Lcom/example/evenkeel/evenkeel/QueuedTasks;" .null := F10.ext E14
  have F18 : Arv Z hX14 b7 kx7 (.object "com/example/evenkeel/evenkeel/QueuedTasks") (2 : Int32) [.null, .null] .null := F13.ext E14
  have Z19 : n0 ≤ hX14.size := Nat.le_trans Z11 E14.1
  have K20 : Keep h0 hX14 [] := K12.ext E14
  have F21 : Fld Z hX14 b14 "com/example/evenkeel/evenkeel/QueuedTasks" "tenant" "Lcom/example/evenkeel/evenkeel/TenantAllocation;" .null := D14 (Or.inr (hw _ (List.mem_of_getElem? (i := 18) rfl))) (ty := (.object "com/example/evenkeel/evenkeel/TenantAllocation")) (by decide)
  have F22 : Fld Z hX14 b14 "com/example/evenkeel/evenkeel/QueuedTasks" "demand" "[J" .null := D14 (Or.inr (hw _ (List.mem_of_getElem? (i := 20) rfl))) (ty := (.array .long)) (by decide)
  have F23 : Fld Z hX14 b14 "com/example/evenkeel/evenkeel/QueuedTasks" "count" "J" (.long (0 : Int64)) := D14 (Or.inr (hw _ (List.mem_of_getElem? (i := 22) rfl))) (ty := .long) (by decide)
  have F24 : Fld Z hX14 b14 "com/example/evenkeel/evenkeel/QueuedTasks" "left" "J" (.long (0 : Int64)) := D14 (Or.inl (hw _ (List.mem_of_getElem? (i := 24) rfl))) (ty := .long) (by decide)
  have F25 : Fld Z hX14 b14 "com/example/evenkeel/evenkeel/QueuedTasks" "submission" "J" (.long (0 : Int64)) := D14 (Or.inr (hw _ (List.mem_of_getElem? (i := 26) rfl))) (ty := .long) (by decide)
  have F26 : Fld Z hX14 b14 "com/example/evenkeel/evenkeel/QueuedTasks" "stopped" "Lcom/example/evenkeel/evenkeel/Decision;" .null := D14 (Or.inr (hw _ (List.mem_of_getElem? (i := 28) rfl))) (ty := (.object "com/example/evenkeel/evenkeel/Decision")) (by decide)
  have F27 : Fld Z hX14 b14 "com/example/evenkeel/evenkeel/QueuedTasks" "after" "Lcom/example/evenkeel/evenkeel/QueuedTasks;" .null := D14 (Or.inl (hw _ (List.mem_of_getElem? (i := 48) rfl))) (ty := (.object "com/example/evenkeel/evenkeel/QueuedTasks")) (by decide)
  have F28 : Fld Z hX14 b14 "com/example/evenkeel/evenkeel/QueuedTasks" "before" "Lcom/example/evenkeel/evenkeel/QueuedTasks;" .null := D14 (Or.inl (hw _ (List.mem_of_getElem? (i := 57) rfl))) (ty := (.object "com/example/evenkeel/evenkeel/QueuedTasks")) (by decide)
  obtain ⟨_, _, ⟨T29, L29, k29, n29⟩, -, X29, ⟨Lc29, hQ29, l29, y29, z29⟩, st29⟩ := X14.specialBack hx (y := (⟨"com/example/evenkeel/evenkeel/QueuedTasks", "<init>", "(Lcom/example/evenkeel/evenkeel/TenantAllocation;[JJJLcom/example/evenkeel/evenkeel/Decision;)V"⟩ : MethodName)) rfl hown (mvT hZ (hw _ (List.mem_of_getElem? (i := 13) rfl))) (mvT hZ (hw _ (List.mem_of_getElem? (i := 14) rfl))) (mvT hZ (hw _ (List.mem_of_getElem? (i := 15) rfl))) (by decide) (backOf (W := 3) (rm3 l Z a0 hw [] b14 (1 : Int64) (0 : Int64) hX14 n0 Z19 F21 F22 F23 F24 F25 F26 F28 F27 A14 g_b14) hZ (hw _ (List.mem_of_getElem? (i := 15) rfl)) (hw _ (List.mem_of_getElem? (i := 12) rfl)) (by decide) (by decide)) (g := (mkF m 27 #[.val (.int k1), .val (.int k2), .val (.int k3), .val (.int k4), .val (.ref b1), .val (.ref b7), .unset, .unset] [.null, (.long (0 : Int64)), (.long (1 : Int64)), .null, .null, (.ref b14), (.ref b14), (.int (0 : Int32)), (.ref b7)])) rfl (by rw [hml]; rfl) (Steps.refl _) (a := b14) (argsL := [.null, .null, (.long (1 : Int64)), (.long (0 : Int64)), .null]) (rest := [(.ref b14), (.int (0 : Int32)), (.ref b7)]) (lenOf pd_3 rfl) rfl (by show 2 * 0 + _ ≤ _; exact Nat.le_of_eq rfl) (hb hby at_27) (fun _ _ => ⟨rfl, e14, (by decide : 3 + 0 ≤ _), (by decide : 12 + 0 ≤ _)⟩)
  dsimp only [Pt.U, Pt.locs, Pt.cells, Pt.slots] at X29 l29 y29 z29 st29 hQ29
  subst l29 y29 z29
  obtain ⟨rfl, N29q, K29q, F30, F31, F32⟩ := hQ29
  have N29 := Fr.app N6 N29q
  have F33 : Exa Z T29.heap b1 "com/example/evenkeel/evenkeel/TaskQueue" := F15.keep K29q
  have F34 : Fld Z T29.heap b1 "com/example/evenkeel/evenkeel/TaskQueue" "first" "Lcom/example/evenkeel/evenkeel/QueuedTasks;" .null := F16.keep K29q (ninS ne_b1_b14 nin0)
  have F35 : Fld Z T29.heap b1 "com/example/evenkeel/evenkeel/TaskQueue" "last" "Lcom/example/evenkeel/evenkeel/QueuedTasks;" .null := F17.keep K29q (ninS ne_b1_b14 nin0)
  have F36 : Arv Z T29.heap b7 kx7 (.object "com/example/evenkeel/evenkeel/QueuedTasks") (2 : Int32) [.null, .null] .null := F18.keep K29q (ninS ne_b7_b14 nin0)
  have F37 : Exa Z T29.heap b14 "com/example/evenkeel/evenkeel/QueuedTasks" := A14.keep K29q
  have Z38 : n0 ≤ T29.heap.size := Nat.le_trans Z19 K29q.1
  have K39 : Keep h0 T29.heap [] := K20.trans K29q (allS (Or.inr sz_b14) all0)
  obtain ⟨cl40, Ar40, q40, S40, M40, H40, G40⟩ := id F36
  have hin40 : ¬ ((0 : Int32) < 0 ∨ cl40.slots.size ≤ ((0 : Int32)).toNatClampNeg) := inb_of S40 ⟨by decide, by decide⟩
  obtain ⟨T40, hX40, X40, e40, W40, st40⟩ := stR X29 hx hZ rfl Ar40 (j := (0 : Int32)) hin40 rfl (Sto.ofV Ar40 q40 O7 (Ins.self F30)) (g := (mkF m 30 #[.val (.int k1), .val (.int k2), .val (.int k3), .val (.int k4), .val (.ref b1), .val (.ref b7), .unset, .unset] [(.ref b14), (.int (0 : Int32)), (.ref b7)])) rfl rfl (hb hby at_30)
  have F41 : Arv Z hX40 b7 kx7 (.object "com/example/evenkeel/evenkeel/QueuedTasks") (2 : Int32) [(.ref b14), .null] .null := Arv.set Ar40 q40 S40 M40 H40 G40 rfl W40 0 rfl (Nat.le_of_ble_eq_true rfl)
  have N40 := Fr.snoc X40 N29 g_b7
  have F42 : Exa Z hX40 b1 "com/example/evenkeel/evenkeel/TaskQueue" := F33.wr W40
  have F43 : Fld Z hX40 b1 "com/example/evenkeel/evenkeel/TaskQueue" "first" "Lcom/example/evenkeel/evenkeel/QueuedTasks;" .null := F34.other W40 (Or.inl ne_b1_b7)
  have F44 : Fld Z hX40 b1 "com/example/evenkeel/evenkeel/TaskQueue" "last" "Lcom/example/evenkeel/evenkeel/QueuedTasks;" .null := F35.other W40 (Or.inl ne_b1_b7)
  have F45 : Exa Z hX40 b14 "com/example/evenkeel/evenkeel/QueuedTasks" := F30.wr W40
  have F46 : Fld Z hX40 b14 "com/example/evenkeel/evenkeel/QueuedTasks" "before" "Lcom/example/evenkeel/evenkeel/QueuedTasks;" .null := F31.other W40 (Or.inl (Ne.symm ne_b7_b14))
  have F47 : Fld Z hX40 b14 "com/example/evenkeel/evenkeel/QueuedTasks" "after" "Lcom/example/evenkeel/evenkeel/QueuedTasks;" .null := F32.other W40 (Or.inl (Ne.symm ne_b7_b14))
  have Z48 : n0 ≤ hX40.size := Nat.le_trans Z38 (Keep.of_wr W40).1
  have K49 : Keep h0 hX40 [] := K39.wr W40 (Or.inr sz_b7)
  obtain ⟨T50, hX50, X50, e50, E50, A50, D50, -, st50⟩ := newO X40 hx hZ hown (hw _ (List.mem_of_getElem? (i := 9) rfl)) (hw _ (List.mem_of_getElem? (i := 11) rfl)) (hw _ (List.mem_of_getElem? (i := 12) rfl)) e40 (g := (mkF m 34 #[.val (.int k1), .val (.int k2), .val (.int k3), .val (.int k4), .val (.ref b1), .val (.ref b7), .unset, .unset] [(.int (1 : Int32)), (.ref b7)])) rfl (hb hby at_34) (by decide) (by decide)
  obtain ⟨b50, g50⟩ : ∃ z_q, z_q = hX40.size := ⟨_, rfl⟩
  rw [← g50] at A50 D50 st50
  have g_b50 : n0 ≤ b50 := Nat.le_trans Z48 (Nat.le_of_eq g50.symm)
  have sz_b50 : h0.size ≤ b50 := Nat.le_trans K49.1 (Nat.le_of_eq g50.symm)
  have ne_b1_b50 : b1 ≠ b50 := Nat.ne_of_lt (Nat.lt_of_lt_of_le F42.lt (Nat.le_of_eq g50.symm))
  have ne_b14_b50 : b14 ≠ b50 := Nat.ne_of_lt (Nat.lt_of_lt_of_le F45.lt (Nat.le_of_eq g50.symm))
  have ne_b7_b50 : b7 ≠ b50 := Nat.ne_of_lt (Nat.lt_of_lt_of_le F41.lt (Nat.le_of_eq g50.symm))
  have F51 : Exa Z hX50 b1 "com/example/evenkeel/evenkeel/TaskQueue" := F42.ext E50
  have F52 : Fld Z hX50 b1 "com/example/evenkeel/evenkeel/TaskQueue" "first" "Lcom/example/evenkeel/evenkeel/QueuedTasks;" .null := F43.ext E50
  have F53 : Fld Z hX50 b1 "com/example/evenkeel/evenkeel/TaskQueue" "last" "Lcom/example/evenkeel/evenkeel/QueuedTasks;" .null := F44.ext E50
  have F54 : Exa Z hX50 b14 "com/example/evenkeel/evenkeel/QueuedTasks" := F45.ext E50
  have F55 : Fld Z hX50 b14 "com/example/evenkeel/evenkeel/QueuedTasks" "before" "Lcom/example/evenkeel/evenkeel/QueuedTasks;" .null := F46.ext E50
  have F56 : Fld Z hX50 b14 "com/example/evenkeel/evenkeel/QueuedTasks" "after" "Lcom/example/evenkeel/evenkeel/QueuedTasks;" .null := F47.ext E50
  have F57 : Arv Z hX50 b7 kx7 (.object "com/example/evenkeel/evenkeel/QueuedTasks") (2 : Int32) [(.ref b14), .null] .null := F41.ext E50
  have Z58 : n0 ≤ hX50.size := Nat.le_trans Z48 E50.1
  have K59 : Keep h0 hX50 [] := K49.ext E50
  have F60 : Fld Z hX50 b50 "com/example/evenkeel/evenkeel/QueuedTasks" "tenant" "Lcom/example/evenkeel/evenkeel/TenantAllocation;" .null := D50 (Or.inr (hw _ (List.mem_of_getElem? (i := 18) rfl))) (ty := (.object "com/example/evenkeel/evenkeel/TenantAllocation")) (by decide)
  have F61 : Fld Z hX50 b50 "com/example/evenkeel/evenkeel/QueuedTasks" "demand" "[J" .null := D50 (Or.inr (hw _ (List.mem_of_getElem? (i := 20) rfl))) (ty := (.array .long)) (by decide)
  have F62 : Fld Z hX50 b50 "com/example/evenkeel/evenkeel/QueuedTasks" "count" "J" (.long (0 : Int64)) := D50 (Or.inr (hw _ (List.mem_of_getElem? (i := 22) rfl))) (ty := .long) (by decide)
  have F63 : Fld Z hX50 b50 "com/example/evenkeel/evenkeel/QueuedTasks" "left" "J" (.long (0 : Int64)) := D50 (Or.inl (hw _ (List.mem_of_getElem? (i := 24) rfl))) (ty := .long) (by decide)
  have F64 : Fld Z hX50 b50 "com/example/evenkeel/evenkeel/QueuedTasks" "submission" "J" (.long (0 : Int64)) := D50 (Or.inr (hw _ (List.mem_of_getElem? (i := 26) rfl))) (ty := .long) (by decide)
  have F65 : Fld Z hX50 b50 "com/example/evenkeel/evenkeel/QueuedTasks" "stopped" "Lcom/example/evenkeel/evenkeel/Decision;" .null := D50 (Or.inr (hw _ (List.mem_of_getElem? (i := 28) rfl))) (ty := (.object "com/example/evenkeel/evenkeel/Decision")) (by decide)
  have F66 : Fld Z hX50 b50 "com/example/evenkeel/evenkeel/QueuedTasks" "after" "Lcom/example/evenkeel/evenkeel/QueuedTasks;" .null := D50 (Or.inl (hw _ (List.mem_of_getElem? (i := 48) rfl))) (ty := (.object "com/example/evenkeel/evenkeel/QueuedTasks")) (by decide)
  have F67 : Fld Z hX50 b50 "com/example/evenkeel/evenkeel/QueuedTasks" "before" "Lcom/example/evenkeel/evenkeel/QueuedTasks;" .null := D50 (Or.inl (hw _ (List.mem_of_getElem? (i := 57) rfl))) (ty := (.object "com/example/evenkeel/evenkeel/QueuedTasks")) (by decide)
  obtain ⟨_, _, ⟨T68, L68, k68, n68⟩, -, X68, ⟨Lc68, hQ68, l68, y68, z68⟩, st68⟩ := X50.specialBack hx (y := (⟨"com/example/evenkeel/evenkeel/QueuedTasks", "<init>", "(Lcom/example/evenkeel/evenkeel/TenantAllocation;[JJJLcom/example/evenkeel/evenkeel/Decision;)V"⟩ : MethodName)) rfl hown (mvT hZ (hw _ (List.mem_of_getElem? (i := 13) rfl))) (mvT hZ (hw _ (List.mem_of_getElem? (i := 14) rfl))) (mvT hZ (hw _ (List.mem_of_getElem? (i := 15) rfl))) (by decide) (backOf (W := 3) (rm3 l Z a0 hw [] b50 (1 : Int64) (1 : Int64) hX50 n0 Z58 F60 F61 F62 F63 F64 F65 F67 F66 A50 g_b50) hZ (hw _ (List.mem_of_getElem? (i := 15) rfl)) (hw _ (List.mem_of_getElem? (i := 12) rfl)) (by decide) (by decide)) (g := (mkF m 43 #[.val (.int k1), .val (.int k2), .val (.int k3), .val (.int k4), .val (.ref b1), .val (.ref b7), .unset, .unset] [.null, (.long (1 : Int64)), (.long (1 : Int64)), .null, .null, (.ref b50), (.ref b50), (.int (1 : Int32)), (.ref b7)])) rfl (by rw [hml]; rfl) (Steps.refl _) (a := b50) (argsL := [.null, .null, (.long (1 : Int64)), (.long (1 : Int64)), .null]) (rest := [(.ref b50), (.int (1 : Int32)), (.ref b7)]) (lenOf pd_3 rfl) rfl (by show 2 * 0 + _ ≤ _; exact Nat.le_of_eq rfl) (hb hby at_43) (fun _ _ => ⟨rfl, e50, (by decide : 4 + 0 ≤ _), (by decide : 20 + 0 ≤ _)⟩)
  dsimp only [Pt.U, Pt.locs, Pt.cells, Pt.slots] at X68 l68 y68 z68 st68 hQ68
  subst l68 y68 z68
  obtain ⟨rfl, N68q, K68q, F69, F70, F71⟩ := hQ68
  have N68 := Fr.app N40 N68q
  have F72 : Exa Z T68.heap b1 "com/example/evenkeel/evenkeel/TaskQueue" := F51.keep K68q
  have F73 : Fld Z T68.heap b1 "com/example/evenkeel/evenkeel/TaskQueue" "first" "Lcom/example/evenkeel/evenkeel/QueuedTasks;" .null := F52.keep K68q (ninS ne_b1_b50 nin0)
  have F74 : Fld Z T68.heap b1 "com/example/evenkeel/evenkeel/TaskQueue" "last" "Lcom/example/evenkeel/evenkeel/QueuedTasks;" .null := F53.keep K68q (ninS ne_b1_b50 nin0)
  have F75 : Exa Z T68.heap b14 "com/example/evenkeel/evenkeel/QueuedTasks" := F54.keep K68q
  have F76 : Fld Z T68.heap b14 "com/example/evenkeel/evenkeel/QueuedTasks" "before" "Lcom/example/evenkeel/evenkeel/QueuedTasks;" .null := F55.keep K68q (ninS ne_b14_b50 nin0)
  have F77 : Fld Z T68.heap b14 "com/example/evenkeel/evenkeel/QueuedTasks" "after" "Lcom/example/evenkeel/evenkeel/QueuedTasks;" .null := F56.keep K68q (ninS ne_b14_b50 nin0)
  have F78 : Arv Z T68.heap b7 kx7 (.object "com/example/evenkeel/evenkeel/QueuedTasks") (2 : Int32) [(.ref b14), .null] .null := F57.keep K68q (ninS ne_b7_b50 nin0)
  have F79 : Exa Z T68.heap b50 "com/example/evenkeel/evenkeel/QueuedTasks" := A50.keep K68q
  have Z80 : n0 ≤ T68.heap.size := Nat.le_trans Z58 K68q.1
  have K81 : Keep h0 T68.heap [] := K59.trans K68q (allS (Or.inr sz_b50) all0)
  obtain ⟨cl82, Ar82, q82, S82, M82, H82, G82⟩ := id F78
  have hin82 : ¬ ((1 : Int32) < 0 ∨ cl82.slots.size ≤ ((1 : Int32)).toNatClampNeg) := inb_of S82 ⟨by decide, by decide⟩
  obtain ⟨T82, hX82, X82, e82, W82, st82⟩ := stR X68 hx hZ rfl Ar82 (j := (1 : Int32)) hin82 rfl (Sto.ofV Ar82 q82 O7 (Ins.self F69)) (g := (mkF m 46 #[.val (.int k1), .val (.int k2), .val (.int k3), .val (.int k4), .val (.ref b1), .val (.ref b7), .unset, .unset] [(.ref b50), (.int (1 : Int32)), (.ref b7)])) rfl rfl (hb hby at_46)
  have F83 : Arv Z hX82 b7 kx7 (.object "com/example/evenkeel/evenkeel/QueuedTasks") (2 : Int32) [(.ref b14), (.ref b50)] .null := Arv.set Ar82 q82 S82 M82 H82 G82 rfl W82 1 rfl (Nat.le_of_ble_eq_true rfl)
  have N82 := Fr.snoc X82 N68 g_b7
  have F84 : Exa Z hX82 b1 "com/example/evenkeel/evenkeel/TaskQueue" := F72.wr W82
  have F85 : Fld Z hX82 b1 "com/example/evenkeel/evenkeel/TaskQueue" "first" "Lcom/example/evenkeel/evenkeel/QueuedTasks;" .null := F73.other W82 (Or.inl ne_b1_b7)
  have F86 : Fld Z hX82 b1 "com/example/evenkeel/evenkeel/TaskQueue" "last" "Lcom/example/evenkeel/evenkeel/QueuedTasks;" .null := F74.other W82 (Or.inl ne_b1_b7)
  have F87 : Exa Z hX82 b14 "com/example/evenkeel/evenkeel/QueuedTasks" := F75.wr W82
  have F88 : Fld Z hX82 b14 "com/example/evenkeel/evenkeel/QueuedTasks" "before" "Lcom/example/evenkeel/evenkeel/QueuedTasks;" .null := F76.other W82 (Or.inl (Ne.symm ne_b7_b14))
  have F89 : Fld Z hX82 b14 "com/example/evenkeel/evenkeel/QueuedTasks" "after" "Lcom/example/evenkeel/evenkeel/QueuedTasks;" .null := F77.other W82 (Or.inl (Ne.symm ne_b7_b14))
  have F90 : Exa Z hX82 b50 "com/example/evenkeel/evenkeel/QueuedTasks" := F69.wr W82
  have F91 : Fld Z hX82 b50 "com/example/evenkeel/evenkeel/QueuedTasks" "before" "Lcom/example/evenkeel/evenkeel/QueuedTasks;" .null := F70.other W82 (Or.inl (Ne.symm ne_b7_b50))
  have F92 : Fld Z hX82 b50 "com/example/evenkeel/evenkeel/QueuedTasks" "after" "Lcom/example/evenkeel/evenkeel/QueuedTasks;" .null := F71.other W82 (Or.inl (Ne.symm ne_b7_b50))
  have Z93 : n0 ≤ hX82.size := Nat.le_trans Z80 (Keep.of_wr W82).1
  have K94 : Keep h0 hX82 [] := K81.wr W82 (Or.inr sz_b7)
  obtain ⟨T95, hX95, kx95, X95, e95, E95, A95, st95⟩ := newP X82 hx hZ (hw _ (List.mem_of_getElem? (i := 30) rfl)) e82 (g := (mkF m 48 #[.val (.int k1), .val (.int k2), .val (.int k3), .val (.int k4), .val (.ref b1), .val (.ref b7), .unset, .unset] [(.int (2 : Int32))])) rfl (hb hby at_48) rfl (by decide) (cap := 2) (by decide) (by decide) (by decide) (by decide)
  obtain ⟨b95, g95⟩ : ∃ z_q, z_q = hX82.size := ⟨_, rfl⟩
  rw [← g95] at A95 st95
  have g_b95 : n0 ≤ b95 := Nat.le_trans Z93 (Nat.le_of_eq g95.symm)
  have sz_b95 : h0.size ≤ b95 := Nat.le_trans K94.1 (Nat.le_of_eq g95.symm)
  have ne_b1_b95 : b1 ≠ b95 := Nat.ne_of_lt (Nat.lt_of_lt_of_le F84.lt (Nat.le_of_eq g95.symm))
  have ne_b14_b95 : b14 ≠ b95 := Nat.ne_of_lt (Nat.lt_of_lt_of_le F87.lt (Nat.le_of_eq g95.symm))
  have ne_b50_b95 : b50 ≠ b95 := Nat.ne_of_lt (Nat.lt_of_lt_of_le F90.lt (Nat.le_of_eq g95.symm))
  have ne_b7_b95 : b7 ≠ b95 := Nat.ne_of_lt (Nat.lt_of_lt_of_le F83.lt (Nat.le_of_eq g95.symm))
  have F96 : Exa Z hX95 b1 "com/example/evenkeel/evenkeel/TaskQueue" := F84.ext E95
  have F97 : Fld Z hX95 b1 "com/example/evenkeel/evenkeel/TaskQueue" "first" "Lcom/example/evenkeel/evenkeel/QueuedTasks;" .null := F85.ext E95
  have F98 : Fld Z hX95 b1 "com/example/evenkeel/evenkeel/TaskQueue" "last" "Lcom/example/evenkeel/evenkeel/QueuedTasks;" .null := F86.ext E95
  have F99 : Exa Z hX95 b14 "com/example/evenkeel/evenkeel/QueuedTasks" := F87.ext E95
  have F100 : Fld Z hX95 b14 "com/example/evenkeel/evenkeel/QueuedTasks" "before" "Lcom/example/evenkeel/evenkeel/QueuedTasks;" .null := F88.ext E95
  have F101 : Fld Z hX95 b14 "com/example/evenkeel/evenkeel/QueuedTasks" "after" "Lcom/example/evenkeel/evenkeel/QueuedTasks;" .null := F89.ext E95
  have F102 : Exa Z hX95 b50 "com/example/evenkeel/evenkeel/QueuedTasks" := F90.ext E95
  have F103 : Fld Z hX95 b50 "com/example/evenkeel/evenkeel/QueuedTasks" "before" "Lcom/example/evenkeel/evenkeel/QueuedTasks;" .null := F91.ext E95
  have F104 : Fld Z hX95 b50 "com/example/evenkeel/evenkeel/QueuedTasks" "after" "Lcom/example/evenkeel/evenkeel/QueuedTasks;" .null := F92.ext E95
  have F105 : Arv Z hX95 b7 kx7 (.object "com/example/evenkeel/evenkeel/QueuedTasks") (2 : Int32) [(.ref b14), (.ref b50)] .null := F83.ext E95
  have Z106 : n0 ≤ hX95.size := Nat.le_trans Z93 E95.1
  have K107 : Keep h0 hX95 [] := K94.ext E95
  have F108 : Arv Z hX95 b95 kx95 .boolean (2 : Int32) [(.int (0 : Int32)), (.int (0 : Int32))] (.int (0 : Int32)) := (Arv.new A95 (by decide)).pad (pad_rep [] (.int (0 : Int32)) 2)
  obtain ⟨cq109, kq109, q109a, q109b, q109c⟩ := isOf hZ e95 F96
  obtain ⟨_, _, ⟨T109, L109, k109, n109⟩, -, X109, ⟨Lc109, hQ109, l109, y109, z109⟩, st109⟩ := X95.virtualBack hx (y := (⟨"com/example/evenkeel/evenkeel/TaskQueue", "isEmpty", "()Z"⟩ : MethodName)) (z := (⟨"com/example/evenkeel/evenkeel/TaskQueue", "isEmpty", "()Z"⟩ : MethodName)) hown (mvT hZ (hw _ (List.mem_of_getElem? (i := 31) rfl))) (mvT hZ (hw _ (List.mem_of_getElem? (i := 32) rfl))) (notFace_of_selects (args := #[]) (mvT hZ (hw _ (List.mem_of_getElem? (i := 34) rfl)))) (mvT hZ (hw _ (List.mem_of_getElem? (i := 34) rfl))) (mvT hZ (hw _ (List.mem_of_getElem? (i := 33) rfl))) (by decide) (backOf (W := 0) (rm4 l Z a0 hw [] b1 hX95 n0 Z106 F97) hZ (hw _ (List.mem_of_getElem? (i := 35) rfl)) (hw _ (List.mem_of_getElem? (i := 2) rfl)) (by decide) (by decide)) q109a q109c (g := (mkF m 54 #[.val (.int k1), .val (.int k2), .val (.int k3), .val (.int k4), .val (.ref b1), .val (.ref b7), .val (.ref b95), .unset] [(.ref b1)])) rfl (by rw [hml]; rfl) (Steps.refl _) (argsL := []) (rest := []) (lenOf pd_1 rfl) rfl (by show 2 * 0 + _ ≤ _; exact Nat.le_of_eq rfl) (hb hby at_54) (fun _ _ => ⟨rfl, e95, (by decide : 5 + 0 ≤ _), (by decide : 22 + 0 ≤ _)⟩)
  dsimp only [Pt.U, Pt.locs, Pt.cells, Pt.slots] at X109 l109 y109 z109 st109 hQ109
  subst l109 y109 z109
  obtain ⟨rfl, N109q, e109⟩ := hQ109
  have N109 := Fr.app N82 N109q
  have pre110 : ∀ tq, Steps p.tables e below (T109.setTop (mkF m 64 #[.val (.int k1), .val (.int k2), .val (.int k3), .val (.int k4), .val (.ref b1), .val (.ref b7), .val (.ref b95), .val (.int (1 : Int32))] [])) tq → Steps p.tables e below (s₁.setTop (entryFrame m #[(.int k1), (.int k2), (.int k3), (.int k4)] maxLocals)) tq := by
    intro tq kt
    refine pre0 _ ?_
    show Steps p.tables e below (s₁.setTop (mkF m 0 #[.val (.int k1), .val (.int k2), .val (.int k3), .val (.int k4), .unset, .unset, .unset, .unset] [])) _
    refine st1 _ ?_
    show Steps p.tables e below (T1.setTop (mkF m 3 #[.val (.int k1), .val (.int k2), .val (.int k3), .val (.int k4), .unset, .unset, .unset, .unset] [(.ref b1)])) _
    refine XS.dup X1.here hx rfl (hb hby at_3) rfl rfl ?_
    show Steps p.tables e below (T1.setTop (mkF m 4 #[.val (.int k1), .val (.int k2), .val (.int k3), .val (.int k4), .unset, .unset, .unset, .unset] [(.ref b1), (.ref b1)])) _
    refine st6.trans ?_
    show Steps p.tables e below (T6.setTop (mkF m 7 #[.val (.int k1), .val (.int k2), .val (.int k3), .val (.int k4), .unset, .unset, .unset, .unset] [(.ref b1)])) _
    refine XS.astore X6.here hx rfl (hb hby at_7) rfl rfl (l' := #[.val (.int k1), .val (.int k2), .val (.int k3), .val (.int k4), .val (.ref b1), .unset, .unset, .unset]) rfl ?_
    show Steps p.tables e below (T6.setTop (mkF m 9 #[.val (.int k1), .val (.int k2), .val (.int k3), .val (.int k4), .val (.ref b1), .unset, .unset, .unset] [])) _
    refine XS.iconst X6.here hx rfl (hb hby at_9) ?_
    show Steps p.tables e below (T6.setTop (mkF m 10 #[.val (.int k1), .val (.int k2), .val (.int k3), .val (.int k4), .val (.ref b1), .unset, .unset, .unset] [(.int (2 : Int32))])) _
    refine st7 _ ?_
    show Steps p.tables e below (T7.setTop (mkF m 13 #[.val (.int k1), .val (.int k2), .val (.int k3), .val (.int k4), .val (.ref b1), .unset, .unset, .unset] [(.ref b7)])) _
    refine XS.astore X7.here hx rfl (hb hby at_13) rfl rfl (l' := #[.val (.int k1), .val (.int k2), .val (.int k3), .val (.int k4), .val (.ref b1), .val (.ref b7), .unset, .unset]) rfl ?_
    show Steps p.tables e below (T7.setTop (mkF m 15 #[.val (.int k1), .val (.int k2), .val (.int k3), .val (.int k4), .val (.ref b1), .val (.ref b7), .unset, .unset] [])) _
    refine XS.aload X7.here hx rfl (hb hby at_15) rfl rfl ?_
    show Steps p.tables e below (T7.setTop (mkF m 17 #[.val (.int k1), .val (.int k2), .val (.int k3), .val (.int k4), .val (.ref b1), .val (.ref b7), .unset, .unset] [(.ref b7)])) _
    refine XS.iconst X7.here hx rfl (hb hby at_17) ?_
    show Steps p.tables e below (T7.setTop (mkF m 18 #[.val (.int k1), .val (.int k2), .val (.int k3), .val (.int k4), .val (.ref b1), .val (.ref b7), .unset, .unset] [(.int (0 : Int32)), (.ref b7)])) _
    refine st14 _ ?_
    show Steps p.tables e below (T14.setTop (mkF m 21 #[.val (.int k1), .val (.int k2), .val (.int k3), .val (.int k4), .val (.ref b1), .val (.ref b7), .unset, .unset] [(.ref b14), (.int (0 : Int32)), (.ref b7)])) _
    refine XS.dup X14.here hx rfl (hb hby at_21) rfl rfl ?_
    show Steps p.tables e below (T14.setTop (mkF m 22 #[.val (.int k1), .val (.int k2), .val (.int k3), .val (.int k4), .val (.ref b1), .val (.ref b7), .unset, .unset] [(.ref b14), (.ref b14), (.int (0 : Int32)), (.ref b7)])) _
    refine XS.aconstNull X14.here hx rfl (hb hby at_22) ?_
    show Steps p.tables e below (T14.setTop (mkF m 23 #[.val (.int k1), .val (.int k2), .val (.int k3), .val (.int k4), .val (.ref b1), .val (.ref b7), .unset, .unset] [.null, (.ref b14), (.ref b14), (.int (0 : Int32)), (.ref b7)])) _
    refine XS.aconstNull X14.here hx rfl (hb hby at_23) ?_
    show Steps p.tables e below (T14.setTop (mkF m 24 #[.val (.int k1), .val (.int k2), .val (.int k3), .val (.int k4), .val (.ref b1), .val (.ref b7), .unset, .unset] [.null, .null, (.ref b14), (.ref b14), (.int (0 : Int32)), (.ref b7)])) _
    refine XS.lconst X14.here hx rfl (hb hby at_24) ?_
    show Steps p.tables e below (T14.setTop (mkF m 25 #[.val (.int k1), .val (.int k2), .val (.int k3), .val (.int k4), .val (.ref b1), .val (.ref b7), .unset, .unset] [(.long (1 : Int64)), .null, .null, (.ref b14), (.ref b14), (.int (0 : Int32)), (.ref b7)])) _
    refine XS.lconst X14.here hx rfl (hb hby at_25) ?_
    show Steps p.tables e below (T14.setTop (mkF m 26 #[.val (.int k1), .val (.int k2), .val (.int k3), .val (.int k4), .val (.ref b1), .val (.ref b7), .unset, .unset] [(.long (0 : Int64)), (.long (1 : Int64)), .null, .null, (.ref b14), (.ref b14), (.int (0 : Int32)), (.ref b7)])) _
    refine XS.aconstNull X14.here hx rfl (hb hby at_26) ?_
    show Steps p.tables e below (T14.setTop (mkF m 27 #[.val (.int k1), .val (.int k2), .val (.int k3), .val (.int k4), .val (.ref b1), .val (.ref b7), .unset, .unset] [.null, (.long (0 : Int64)), (.long (1 : Int64)), .null, .null, (.ref b14), (.ref b14), (.int (0 : Int32)), (.ref b7)])) _
    refine st29.trans ?_
    show Steps p.tables e below (T29.setTop (mkF m 30 #[.val (.int k1), .val (.int k2), .val (.int k3), .val (.int k4), .val (.ref b1), .val (.ref b7), .unset, .unset] [(.ref b14), (.int (0 : Int32)), (.ref b7)])) _
    refine st40 _ ?_
    show Steps p.tables e below (T40.setTop (mkF m 31 #[.val (.int k1), .val (.int k2), .val (.int k3), .val (.int k4), .val (.ref b1), .val (.ref b7), .unset, .unset] [])) _
    refine XS.aload X40.here hx rfl (hb hby at_31) rfl rfl ?_
    show Steps p.tables e below (T40.setTop (mkF m 33 #[.val (.int k1), .val (.int k2), .val (.int k3), .val (.int k4), .val (.ref b1), .val (.ref b7), .unset, .unset] [(.ref b7)])) _
    refine XS.iconst X40.here hx rfl (hb hby at_33) ?_
    show Steps p.tables e below (T40.setTop (mkF m 34 #[.val (.int k1), .val (.int k2), .val (.int k3), .val (.int k4), .val (.ref b1), .val (.ref b7), .unset, .unset] [(.int (1 : Int32)), (.ref b7)])) _
    refine st50 _ ?_
    show Steps p.tables e below (T50.setTop (mkF m 37 #[.val (.int k1), .val (.int k2), .val (.int k3), .val (.int k4), .val (.ref b1), .val (.ref b7), .unset, .unset] [(.ref b50), (.int (1 : Int32)), (.ref b7)])) _
    refine XS.dup X50.here hx rfl (hb hby at_37) rfl rfl ?_
    show Steps p.tables e below (T50.setTop (mkF m 38 #[.val (.int k1), .val (.int k2), .val (.int k3), .val (.int k4), .val (.ref b1), .val (.ref b7), .unset, .unset] [(.ref b50), (.ref b50), (.int (1 : Int32)), (.ref b7)])) _
    refine XS.aconstNull X50.here hx rfl (hb hby at_38) ?_
    show Steps p.tables e below (T50.setTop (mkF m 39 #[.val (.int k1), .val (.int k2), .val (.int k3), .val (.int k4), .val (.ref b1), .val (.ref b7), .unset, .unset] [.null, (.ref b50), (.ref b50), (.int (1 : Int32)), (.ref b7)])) _
    refine XS.aconstNull X50.here hx rfl (hb hby at_39) ?_
    show Steps p.tables e below (T50.setTop (mkF m 40 #[.val (.int k1), .val (.int k2), .val (.int k3), .val (.int k4), .val (.ref b1), .val (.ref b7), .unset, .unset] [.null, .null, (.ref b50), (.ref b50), (.int (1 : Int32)), (.ref b7)])) _
    refine XS.lconst X50.here hx rfl (hb hby at_40) ?_
    show Steps p.tables e below (T50.setTop (mkF m 41 #[.val (.int k1), .val (.int k2), .val (.int k3), .val (.int k4), .val (.ref b1), .val (.ref b7), .unset, .unset] [(.long (1 : Int64)), .null, .null, (.ref b50), (.ref b50), (.int (1 : Int32)), (.ref b7)])) _
    refine XS.lconst X50.here hx rfl (hb hby at_41) ?_
    show Steps p.tables e below (T50.setTop (mkF m 42 #[.val (.int k1), .val (.int k2), .val (.int k3), .val (.int k4), .val (.ref b1), .val (.ref b7), .unset, .unset] [(.long (1 : Int64)), (.long (1 : Int64)), .null, .null, (.ref b50), (.ref b50), (.int (1 : Int32)), (.ref b7)])) _
    refine XS.aconstNull X50.here hx rfl (hb hby at_42) ?_
    show Steps p.tables e below (T50.setTop (mkF m 43 #[.val (.int k1), .val (.int k2), .val (.int k3), .val (.int k4), .val (.ref b1), .val (.ref b7), .unset, .unset] [.null, (.long (1 : Int64)), (.long (1 : Int64)), .null, .null, (.ref b50), (.ref b50), (.int (1 : Int32)), (.ref b7)])) _
    refine st68.trans ?_
    show Steps p.tables e below (T68.setTop (mkF m 46 #[.val (.int k1), .val (.int k2), .val (.int k3), .val (.int k4), .val (.ref b1), .val (.ref b7), .unset, .unset] [(.ref b50), (.int (1 : Int32)), (.ref b7)])) _
    refine st82 _ ?_
    show Steps p.tables e below (T82.setTop (mkF m 47 #[.val (.int k1), .val (.int k2), .val (.int k3), .val (.int k4), .val (.ref b1), .val (.ref b7), .unset, .unset] [])) _
    refine XS.iconst X82.here hx rfl (hb hby at_47) ?_
    show Steps p.tables e below (T82.setTop (mkF m 48 #[.val (.int k1), .val (.int k2), .val (.int k3), .val (.int k4), .val (.ref b1), .val (.ref b7), .unset, .unset] [(.int (2 : Int32))])) _
    refine st95 _ ?_
    show Steps p.tables e below (T95.setTop (mkF m 50 #[.val (.int k1), .val (.int k2), .val (.int k3), .val (.int k4), .val (.ref b1), .val (.ref b7), .unset, .unset] [(.ref b95)])) _
    refine XS.astore X95.here hx rfl (hb hby at_50) rfl rfl (l' := #[.val (.int k1), .val (.int k2), .val (.int k3), .val (.int k4), .val (.ref b1), .val (.ref b7), .val (.ref b95), .unset]) rfl ?_
    show Steps p.tables e below (T95.setTop (mkF m 52 #[.val (.int k1), .val (.int k2), .val (.int k3), .val (.int k4), .val (.ref b1), .val (.ref b7), .val (.ref b95), .unset] [])) _
    refine XS.aload X95.here hx rfl (hb hby at_52) rfl rfl ?_
    show Steps p.tables e below (T95.setTop (mkF m 54 #[.val (.int k1), .val (.int k2), .val (.int k3), .val (.int k4), .val (.ref b1), .val (.ref b7), .val (.ref b95), .unset] [(.ref b1)])) _
    refine st109.trans ?_
    show Steps p.tables e below (T109.setTop (mkF m 57 #[.val (.int k1), .val (.int k2), .val (.int k3), .val (.int k4), .val (.ref b1), .val (.ref b7), .val (.ref b95), .unset] [(.int (1 : Int32))])) _
    refine XS.istore X109.here hx rfl (hb hby at_57) rfl (l' := #[.val (.int k1), .val (.int k2), .val (.int k3), .val (.int k4), .val (.ref b1), .val (.ref b7), .val (.ref b95), .val (.int (1 : Int32))]) rfl ?_
    show Steps p.tables e below (T109.setTop (mkF m 59 #[.val (.int k1), .val (.int k2), .val (.int k3), .val (.int k4), .val (.ref b1), .val (.ref b7), .val (.ref b95), .val (.int (1 : Int32))] [])) _
    refine XS.iload X109.here hx rfl (hb hby at_59) rfl ?_
    show Steps p.tables e below (T109.setTop (mkF m 61 #[.val (.int k1), .val (.int k2), .val (.int k3), .val (.int k4), .val (.ref b1), .val (.ref b7), .val (.ref b95), .val (.int (1 : Int32))] [(.int (1 : Int32))])) _
    refine XS.ifNo X109.here hx rfl (hb hby at_61) rfl ((if0 _ _).trans (feq (by decide)).1) ?_
    show Steps p.tables e below (T109.setTop (mkF m 64 #[.val (.int k1), .val (.int k2), .val (.int k3), .val (.int k4), .val (.ref b1), .val (.ref b7), .val (.ref b95), .val (.int (1 : Int32))] [])) _
    exact kt
  have Fq111 : own_qs Z hX95 b1 b14 b50 b7 b95 kx7 kx95 0 := ⟨by decide, F96, F99, F102, F105, F108, F97, F98, F100, F101, F103, F104⟩
  have hns : own_ns b1 b14 b50 b7 b95 := ⟨ne_b1_b14, ne_b1_b50, ne_b14_b50, (Ne.symm ne_b1_b7), ne_b7_b14, ne_b7_b50, (Ne.symm ne_b1_b95), (Ne.symm ne_b14_b95), (Ne.symm ne_b50_b95), ne_b7_b95⟩
  obtain ⟨_, _, ⟨T112, L112, k112, n112⟩, -, X112, ⟨Lc112, hQ112, l112, y112, z112⟩, st112⟩ := Jvm.LawKit.callS X109 hx (y := (⟨"com/example/evenkeel/evenkeel/TaskQueueIsEmptyPinLaw", "step", "(Lcom/example/evenkeel/evenkeel/TaskQueue;[Lcom/example/evenkeel/evenkeel/QueuedTasks;[ZI)Z"⟩ : MethodName)) hown (mvT hZ (hw _ (List.mem_of_getElem? (i := 38) rfl))) (mvT hZ (hw _ (List.mem_of_getElem? (i := 39) rfl))) (mvT hZ (hw _ (List.mem_of_getElem? (i := 40) rfl))) (mvT hZ (hw _ (List.mem_of_getElem? (i := 41) rfl))) (by decide) (backOf (W := 0) (rm5_14 l Z a0 hw [] b1 b7 b95 k1 b14 b50 kx7 kx95 0 hX95 n0 Z106 Fq111 g_b1 g_b14 g_b50 g_b95 hns) hZ (hw _ (List.mem_of_getElem? (i := 41) rfl)) (hw _ (List.mem_of_getElem? (i := 40) rfl)) (by decide) (by decide)) (g := (mkF m 71 #[.val (.int k1), .val (.int k2), .val (.int k3), .val (.int k4), .val (.ref b1), .val (.ref b7), .val (.ref b95), .val (.int (1 : Int32))] [(.int k1), (.ref b95), (.ref b7), (.ref b1)])) rfl (by rw [hml]; rfl) (argsL := [(.ref b1), (.ref b7), (.ref b95), (.int k1)]) (rest := []) (lenOf pd_4 rfl) rfl (by show 2 * 0 + _ ≤ _; exact Nat.le_of_eq rfl) (hb hby at_71) (fun _ _ => ⟨rfl, e109, (by decide : 5 + 0 ≤ _), (by decide : 22 + 0 ≤ _)⟩)
  dsimp only [Pt.U, Pt.locs, Pt.cells, Pt.slots] at X112 l112 y112 z112 st112 hQ112
  subst l112 y112 z112
  obtain ⟨so_113, rfl, N112q, K112q, F114⟩ := hQ112
  have N112 := Fr.app N109 N112q
  have Z115 : n0 ≤ T112.heap.size := Nat.le_trans Z106 K112q.1
  have K116 : Keep h0 T112.heap [] := K107.trans K112q (allS (Or.inr sz_b1) (allS (Or.inr sz_b14) (allS (Or.inr sz_b50) (allS (Or.inr sz_b95) all0))))
  obtain ⟨_, _, ⟨T117, L117, k117, n117⟩, -, X117, ⟨Lc117, hQ117, l117, y117, z117⟩, st117⟩ := Jvm.LawKit.callS X112 hx (y := (⟨"com/example/evenkeel/evenkeel/TaskQueueIsEmptyPinLaw", "step", "(Lcom/example/evenkeel/evenkeel/TaskQueue;[Lcom/example/evenkeel/evenkeel/QueuedTasks;[ZI)Z"⟩ : MethodName)) hown (mvT hZ (hw _ (List.mem_of_getElem? (i := 38) rfl))) (mvT hZ (hw _ (List.mem_of_getElem? (i := 39) rfl))) (mvT hZ (hw _ (List.mem_of_getElem? (i := 40) rfl))) (mvT hZ (hw _ (List.mem_of_getElem? (i := 41) rfl))) (by decide) (backOf (W := 0) (rm5_14 l Z a0 hw [] b1 b7 b95 k2 b14 b50 kx7 kx95 so_113 T112.heap n0 Z115 F114 g_b1 g_b14 g_b50 g_b95 hns) hZ (hw _ (List.mem_of_getElem? (i := 41) rfl)) (hw _ (List.mem_of_getElem? (i := 40) rfl)) (by decide) (by decide)) (g := (mkF m 96 #[.val (.int k1), .val (.int k2), .val (.int k3), .val (.int k4), .val (.ref b1), .val (.ref b7), .val (.ref b95), .val (.int (1 : Int32))] [(.int k2), (.ref b95), (.ref b7), (.ref b1)])) rfl (by rw [hml]; rfl) (argsL := [(.ref b1), (.ref b7), (.ref b95), (.int k2)]) (rest := []) (lenOf pd_4 rfl) rfl (by show 2 * 0 + _ ≤ _; exact Nat.le_of_eq rfl) (hb hby at_96) (fun _ _ => ⟨rfl, rfl, (by decide : 5 + 0 ≤ _), (by decide : 22 + 0 ≤ _)⟩)
  dsimp only [Pt.U, Pt.locs, Pt.cells, Pt.slots] at X117 l117 y117 z117 st117 hQ117
  subst l117 y117 z117
  obtain ⟨so_118, rfl, N117q, K117q, F119⟩ := hQ117
  have N117 := Fr.app N112 N117q
  have Z120 : n0 ≤ T117.heap.size := Nat.le_trans Z115 K117q.1
  have K121 : Keep h0 T117.heap [] := K116.trans K117q (allS (Or.inr sz_b1) (allS (Or.inr sz_b14) (allS (Or.inr sz_b50) (allS (Or.inr sz_b95) all0))))
  obtain ⟨_, _, ⟨T122, L122, k122, n122⟩, -, X122, ⟨Lc122, hQ122, l122, y122, z122⟩, st122⟩ := Jvm.LawKit.callS X117 hx (y := (⟨"com/example/evenkeel/evenkeel/TaskQueueIsEmptyPinLaw", "step", "(Lcom/example/evenkeel/evenkeel/TaskQueue;[Lcom/example/evenkeel/evenkeel/QueuedTasks;[ZI)Z"⟩ : MethodName)) hown (mvT hZ (hw _ (List.mem_of_getElem? (i := 38) rfl))) (mvT hZ (hw _ (List.mem_of_getElem? (i := 39) rfl))) (mvT hZ (hw _ (List.mem_of_getElem? (i := 40) rfl))) (mvT hZ (hw _ (List.mem_of_getElem? (i := 41) rfl))) (by decide) (backOf (W := 0) (rm5_14 l Z a0 hw [] b1 b7 b95 k3 b14 b50 kx7 kx95 so_118 T117.heap n0 Z120 F119 g_b1 g_b14 g_b50 g_b95 hns) hZ (hw _ (List.mem_of_getElem? (i := 41) rfl)) (hw _ (List.mem_of_getElem? (i := 40) rfl)) (by decide) (by decide)) (g := (mkF m 121 #[.val (.int k1), .val (.int k2), .val (.int k3), .val (.int k4), .val (.ref b1), .val (.ref b7), .val (.ref b95), .val (.int (1 : Int32))] [(.int k3), (.ref b95), (.ref b7), (.ref b1)])) rfl (by rw [hml]; rfl) (argsL := [(.ref b1), (.ref b7), (.ref b95), (.int k3)]) (rest := []) (lenOf pd_4 rfl) rfl (by show 2 * 0 + _ ≤ _; exact Nat.le_of_eq rfl) (hb hby at_121) (fun _ _ => ⟨rfl, rfl, (by decide : 5 + 0 ≤ _), (by decide : 22 + 0 ≤ _)⟩)
  dsimp only [Pt.U, Pt.locs, Pt.cells, Pt.slots] at X122 l122 y122 z122 st122 hQ122
  subst l122 y122 z122
  obtain ⟨so_123, rfl, N122q, K122q, F124⟩ := hQ122
  have N122 := Fr.app N117 N122q
  have Z125 : n0 ≤ T122.heap.size := Nat.le_trans Z120 K122q.1
  have K126 : Keep h0 T122.heap [] := K121.trans K122q (allS (Or.inr sz_b1) (allS (Or.inr sz_b14) (allS (Or.inr sz_b50) (allS (Or.inr sz_b95) all0))))
  obtain ⟨_, _, ⟨T127, L127, k127, n127⟩, -, X127, ⟨Lc127, hQ127, l127, y127, z127⟩, st127⟩ := Jvm.LawKit.callS X122 hx (y := (⟨"com/example/evenkeel/evenkeel/TaskQueueIsEmptyPinLaw", "step", "(Lcom/example/evenkeel/evenkeel/TaskQueue;[Lcom/example/evenkeel/evenkeel/QueuedTasks;[ZI)Z"⟩ : MethodName)) hown (mvT hZ (hw _ (List.mem_of_getElem? (i := 38) rfl))) (mvT hZ (hw _ (List.mem_of_getElem? (i := 39) rfl))) (mvT hZ (hw _ (List.mem_of_getElem? (i := 40) rfl))) (mvT hZ (hw _ (List.mem_of_getElem? (i := 41) rfl))) (by decide) (backOf (W := 0) (rm5_14 l Z a0 hw [] b1 b7 b95 k4 b14 b50 kx7 kx95 so_123 T122.heap n0 Z125 F124 g_b1 g_b14 g_b50 g_b95 hns) hZ (hw _ (List.mem_of_getElem? (i := 41) rfl)) (hw _ (List.mem_of_getElem? (i := 40) rfl)) (by decide) (by decide)) (g := (mkF m 146 #[.val (.int k1), .val (.int k2), .val (.int k3), .val (.int k4), .val (.ref b1), .val (.ref b7), .val (.ref b95), .val (.int (1 : Int32))] [(.int k4), (.ref b95), (.ref b7), (.ref b1)])) rfl (by rw [hml]; rfl) (argsL := [(.ref b1), (.ref b7), (.ref b95), (.int k4)]) (rest := []) (lenOf pd_4 rfl) rfl (by show 2 * 0 + _ ≤ _; exact Nat.le_of_eq rfl) (hb hby at_146) (fun _ _ => ⟨rfl, rfl, (by decide : 5 + 0 ≤ _), (by decide : 22 + 0 ≤ _)⟩)
  dsimp only [Pt.U, Pt.locs, Pt.cells, Pt.slots] at X127 l127 y127 z127 st127 hQ127
  subst l127 y127 z127
  obtain ⟨so_128, rfl, N127q, K127q, F129⟩ := hQ127
  have N127 := Fr.app N122 N127q
  have Z130 : n0 ≤ T127.heap.size := Nat.le_trans Z125 K127q.1
  have K131 : Keep h0 T127.heap [] := K126.trans K127q (allS (Or.inr sz_b1) (allS (Or.inr sz_b14) (allS (Or.inr sz_b50) (allS (Or.inr sz_b95) all0))))
  obtain ⟨fs, hr, hrun, hended, hW, hsame⟩ := X127.leave (v := some (Value.int (1 : Int32))) (fun h => by rw [Bd.returns] at h; cases h)
  refine ⟨_, _, pre110 _ ?_, hrun, hended, _, _, rfl, ?_, ⟨_, rfl⟩, hW, hsame.mono (by decide) (by decide)⟩
  · skip
    show Steps p.tables e below (T109.setTop (mkF m 64 #[.val (.int k1), .val (.int k2), .val (.int k3), .val (.int k4), .val (.ref b1), .val (.ref b7), .val (.ref b95), .val (.int (1 : Int32))] [])) _
    refine XS.aload X109.here hx rfl (hb hby at_64) rfl rfl ?_
    show Steps p.tables e below (T109.setTop (mkF m 66 #[.val (.int k1), .val (.int k2), .val (.int k3), .val (.int k4), .val (.ref b1), .val (.ref b7), .val (.ref b95), .val (.int (1 : Int32))] [(.ref b1)])) _
    refine XS.aload X109.here hx rfl (hb hby at_66) rfl rfl ?_
    show Steps p.tables e below (T109.setTop (mkF m 68 #[.val (.int k1), .val (.int k2), .val (.int k3), .val (.int k4), .val (.ref b1), .val (.ref b7), .val (.ref b95), .val (.int (1 : Int32))] [(.ref b7), (.ref b1)])) _
    refine XS.aload X109.here hx rfl (hb hby at_68) rfl rfl ?_
    show Steps p.tables e below (T109.setTop (mkF m 70 #[.val (.int k1), .val (.int k2), .val (.int k3), .val (.int k4), .val (.ref b1), .val (.ref b7), .val (.ref b95), .val (.int (1 : Int32))] [(.ref b95), (.ref b7), (.ref b1)])) _
    refine XS.iloadN X109.here hx rfl (hb hby at_70) rfl ?_
    show Steps p.tables e below (T109.setTop (mkF m 71 #[.val (.int k1), .val (.int k2), .val (.int k3), .val (.int k4), .val (.ref b1), .val (.ref b7), .val (.ref b95), .val (.int (1 : Int32))] [(.int k1), (.ref b95), (.ref b7), (.ref b1)])) _
    refine st112 _ ?_
    show Steps p.tables e below (T112.setTop (mkF m 74 #[.val (.int k1), .val (.int k2), .val (.int k3), .val (.int k4), .val (.ref b1), .val (.ref b7), .val (.ref b95), .val (.int (1 : Int32))] [(.int (1 : Int32))])) _
    refine XS.ifNo X112.here hx rfl (hb hby at_74) rfl ((if0 _ _).trans (feq (by decide)).1) ?_
    show Steps p.tables e below (T112.setTop (mkF m 77 #[.val (.int k1), .val (.int k2), .val (.int k3), .val (.int k4), .val (.ref b1), .val (.ref b7), .val (.ref b95), .val (.int (1 : Int32))] [])) _
    refine XS.iconst X112.here hx rfl (hb hby at_77) ?_
    show Steps p.tables e below (T112.setTop (mkF m 78 #[.val (.int k1), .val (.int k2), .val (.int k3), .val (.int k4), .val (.ref b1), .val (.ref b7), .val (.ref b95), .val (.int (1 : Int32))] [(.int (1 : Int32))])) _
    refine XS.goto X112.here hx rfl (pc0 := 78) (pc' := 82) rfl (hb hby at_78) (by decide) (by decide) ?_
    show Steps p.tables e below (T112.setTop (mkF m 82 #[.val (.int k1), .val (.int k2), .val (.int k3), .val (.int k4), .val (.ref b1), .val (.ref b7), .val (.ref b95), .val (.int (1 : Int32))] [(.int (1 : Int32))])) _
    refine XS.istore X112.here hx rfl (hb hby at_82) rfl (l' := #[.val (.int k1), .val (.int k2), .val (.int k3), .val (.int k4), .val (.ref b1), .val (.ref b7), .val (.ref b95), .val (.int (1 : Int32))]) rfl ?_
    show Steps p.tables e below (T112.setTop (mkF m 84 #[.val (.int k1), .val (.int k2), .val (.int k3), .val (.int k4), .val (.ref b1), .val (.ref b7), .val (.ref b95), .val (.int (1 : Int32))] [])) _
    refine XS.iload X112.here hx rfl (hb hby at_84) rfl ?_
    show Steps p.tables e below (T112.setTop (mkF m 86 #[.val (.int k1), .val (.int k2), .val (.int k3), .val (.int k4), .val (.ref b1), .val (.ref b7), .val (.ref b95), .val (.int (1 : Int32))] [(.int (1 : Int32))])) _
    refine XS.ifNo X112.here hx rfl (hb hby at_86) rfl ((if0 _ _).trans (feq (by decide)).1) ?_
    show Steps p.tables e below (T112.setTop (mkF m 89 #[.val (.int k1), .val (.int k2), .val (.int k3), .val (.int k4), .val (.ref b1), .val (.ref b7), .val (.ref b95), .val (.int (1 : Int32))] [])) _
    refine XS.aload X112.here hx rfl (hb hby at_89) rfl rfl ?_
    show Steps p.tables e below (T112.setTop (mkF m 91 #[.val (.int k1), .val (.int k2), .val (.int k3), .val (.int k4), .val (.ref b1), .val (.ref b7), .val (.ref b95), .val (.int (1 : Int32))] [(.ref b1)])) _
    refine XS.aload X112.here hx rfl (hb hby at_91) rfl rfl ?_
    show Steps p.tables e below (T112.setTop (mkF m 93 #[.val (.int k1), .val (.int k2), .val (.int k3), .val (.int k4), .val (.ref b1), .val (.ref b7), .val (.ref b95), .val (.int (1 : Int32))] [(.ref b7), (.ref b1)])) _
    refine XS.aload X112.here hx rfl (hb hby at_93) rfl rfl ?_
    show Steps p.tables e below (T112.setTop (mkF m 95 #[.val (.int k1), .val (.int k2), .val (.int k3), .val (.int k4), .val (.ref b1), .val (.ref b7), .val (.ref b95), .val (.int (1 : Int32))] [(.ref b95), (.ref b7), (.ref b1)])) _
    refine XS.iloadN X112.here hx rfl (hb hby at_95) rfl ?_
    show Steps p.tables e below (T112.setTop (mkF m 96 #[.val (.int k1), .val (.int k2), .val (.int k3), .val (.int k4), .val (.ref b1), .val (.ref b7), .val (.ref b95), .val (.int (1 : Int32))] [(.int k2), (.ref b95), (.ref b7), (.ref b1)])) _
    refine st117 _ ?_
    show Steps p.tables e below (T117.setTop (mkF m 99 #[.val (.int k1), .val (.int k2), .val (.int k3), .val (.int k4), .val (.ref b1), .val (.ref b7), .val (.ref b95), .val (.int (1 : Int32))] [(.int (1 : Int32))])) _
    refine XS.ifNo X117.here hx rfl (hb hby at_99) rfl ((if0 _ _).trans (feq (by decide)).1) ?_
    show Steps p.tables e below (T117.setTop (mkF m 102 #[.val (.int k1), .val (.int k2), .val (.int k3), .val (.int k4), .val (.ref b1), .val (.ref b7), .val (.ref b95), .val (.int (1 : Int32))] [])) _
    refine XS.iconst X117.here hx rfl (hb hby at_102) ?_
    show Steps p.tables e below (T117.setTop (mkF m 103 #[.val (.int k1), .val (.int k2), .val (.int k3), .val (.int k4), .val (.ref b1), .val (.ref b7), .val (.ref b95), .val (.int (1 : Int32))] [(.int (1 : Int32))])) _
    refine XS.goto X117.here hx rfl (pc0 := 103) (pc' := 107) rfl (hb hby at_103) (by decide) (by decide) ?_
    show Steps p.tables e below (T117.setTop (mkF m 107 #[.val (.int k1), .val (.int k2), .val (.int k3), .val (.int k4), .val (.ref b1), .val (.ref b7), .val (.ref b95), .val (.int (1 : Int32))] [(.int (1 : Int32))])) _
    refine XS.istore X117.here hx rfl (hb hby at_107) rfl (l' := #[.val (.int k1), .val (.int k2), .val (.int k3), .val (.int k4), .val (.ref b1), .val (.ref b7), .val (.ref b95), .val (.int (1 : Int32))]) rfl ?_
    show Steps p.tables e below (T117.setTop (mkF m 109 #[.val (.int k1), .val (.int k2), .val (.int k3), .val (.int k4), .val (.ref b1), .val (.ref b7), .val (.ref b95), .val (.int (1 : Int32))] [])) _
    refine XS.iload X117.here hx rfl (hb hby at_109) rfl ?_
    show Steps p.tables e below (T117.setTop (mkF m 111 #[.val (.int k1), .val (.int k2), .val (.int k3), .val (.int k4), .val (.ref b1), .val (.ref b7), .val (.ref b95), .val (.int (1 : Int32))] [(.int (1 : Int32))])) _
    refine XS.ifNo X117.here hx rfl (hb hby at_111) rfl ((if0 _ _).trans (feq (by decide)).1) ?_
    show Steps p.tables e below (T117.setTop (mkF m 114 #[.val (.int k1), .val (.int k2), .val (.int k3), .val (.int k4), .val (.ref b1), .val (.ref b7), .val (.ref b95), .val (.int (1 : Int32))] [])) _
    refine XS.aload X117.here hx rfl (hb hby at_114) rfl rfl ?_
    show Steps p.tables e below (T117.setTop (mkF m 116 #[.val (.int k1), .val (.int k2), .val (.int k3), .val (.int k4), .val (.ref b1), .val (.ref b7), .val (.ref b95), .val (.int (1 : Int32))] [(.ref b1)])) _
    refine XS.aload X117.here hx rfl (hb hby at_116) rfl rfl ?_
    show Steps p.tables e below (T117.setTop (mkF m 118 #[.val (.int k1), .val (.int k2), .val (.int k3), .val (.int k4), .val (.ref b1), .val (.ref b7), .val (.ref b95), .val (.int (1 : Int32))] [(.ref b7), (.ref b1)])) _
    refine XS.aload X117.here hx rfl (hb hby at_118) rfl rfl ?_
    show Steps p.tables e below (T117.setTop (mkF m 120 #[.val (.int k1), .val (.int k2), .val (.int k3), .val (.int k4), .val (.ref b1), .val (.ref b7), .val (.ref b95), .val (.int (1 : Int32))] [(.ref b95), (.ref b7), (.ref b1)])) _
    refine XS.iloadN X117.here hx rfl (hb hby at_120) rfl ?_
    show Steps p.tables e below (T117.setTop (mkF m 121 #[.val (.int k1), .val (.int k2), .val (.int k3), .val (.int k4), .val (.ref b1), .val (.ref b7), .val (.ref b95), .val (.int (1 : Int32))] [(.int k3), (.ref b95), (.ref b7), (.ref b1)])) _
    refine st122 _ ?_
    show Steps p.tables e below (T122.setTop (mkF m 124 #[.val (.int k1), .val (.int k2), .val (.int k3), .val (.int k4), .val (.ref b1), .val (.ref b7), .val (.ref b95), .val (.int (1 : Int32))] [(.int (1 : Int32))])) _
    refine XS.ifNo X122.here hx rfl (hb hby at_124) rfl ((if0 _ _).trans (feq (by decide)).1) ?_
    show Steps p.tables e below (T122.setTop (mkF m 127 #[.val (.int k1), .val (.int k2), .val (.int k3), .val (.int k4), .val (.ref b1), .val (.ref b7), .val (.ref b95), .val (.int (1 : Int32))] [])) _
    refine XS.iconst X122.here hx rfl (hb hby at_127) ?_
    show Steps p.tables e below (T122.setTop (mkF m 128 #[.val (.int k1), .val (.int k2), .val (.int k3), .val (.int k4), .val (.ref b1), .val (.ref b7), .val (.ref b95), .val (.int (1 : Int32))] [(.int (1 : Int32))])) _
    refine XS.goto X122.here hx rfl (pc0 := 128) (pc' := 132) rfl (hb hby at_128) (by decide) (by decide) ?_
    show Steps p.tables e below (T122.setTop (mkF m 132 #[.val (.int k1), .val (.int k2), .val (.int k3), .val (.int k4), .val (.ref b1), .val (.ref b7), .val (.ref b95), .val (.int (1 : Int32))] [(.int (1 : Int32))])) _
    refine XS.istore X122.here hx rfl (hb hby at_132) rfl (l' := #[.val (.int k1), .val (.int k2), .val (.int k3), .val (.int k4), .val (.ref b1), .val (.ref b7), .val (.ref b95), .val (.int (1 : Int32))]) rfl ?_
    show Steps p.tables e below (T122.setTop (mkF m 134 #[.val (.int k1), .val (.int k2), .val (.int k3), .val (.int k4), .val (.ref b1), .val (.ref b7), .val (.ref b95), .val (.int (1 : Int32))] [])) _
    refine XS.iload X122.here hx rfl (hb hby at_134) rfl ?_
    show Steps p.tables e below (T122.setTop (mkF m 136 #[.val (.int k1), .val (.int k2), .val (.int k3), .val (.int k4), .val (.ref b1), .val (.ref b7), .val (.ref b95), .val (.int (1 : Int32))] [(.int (1 : Int32))])) _
    refine XS.ifNo X122.here hx rfl (hb hby at_136) rfl ((if0 _ _).trans (feq (by decide)).1) ?_
    show Steps p.tables e below (T122.setTop (mkF m 139 #[.val (.int k1), .val (.int k2), .val (.int k3), .val (.int k4), .val (.ref b1), .val (.ref b7), .val (.ref b95), .val (.int (1 : Int32))] [])) _
    refine XS.aload X122.here hx rfl (hb hby at_139) rfl rfl ?_
    show Steps p.tables e below (T122.setTop (mkF m 141 #[.val (.int k1), .val (.int k2), .val (.int k3), .val (.int k4), .val (.ref b1), .val (.ref b7), .val (.ref b95), .val (.int (1 : Int32))] [(.ref b1)])) _
    refine XS.aload X122.here hx rfl (hb hby at_141) rfl rfl ?_
    show Steps p.tables e below (T122.setTop (mkF m 143 #[.val (.int k1), .val (.int k2), .val (.int k3), .val (.int k4), .val (.ref b1), .val (.ref b7), .val (.ref b95), .val (.int (1 : Int32))] [(.ref b7), (.ref b1)])) _
    refine XS.aload X122.here hx rfl (hb hby at_143) rfl rfl ?_
    show Steps p.tables e below (T122.setTop (mkF m 145 #[.val (.int k1), .val (.int k2), .val (.int k3), .val (.int k4), .val (.ref b1), .val (.ref b7), .val (.ref b95), .val (.int (1 : Int32))] [(.ref b95), (.ref b7), (.ref b1)])) _
    refine XS.iloadN X122.here hx rfl (hb hby at_145) rfl ?_
    show Steps p.tables e below (T122.setTop (mkF m 146 #[.val (.int k1), .val (.int k2), .val (.int k3), .val (.int k4), .val (.ref b1), .val (.ref b7), .val (.ref b95), .val (.int (1 : Int32))] [(.int k4), (.ref b95), (.ref b7), (.ref b1)])) _
    refine st127 _ ?_
    show Steps p.tables e below (T127.setTop (mkF m 149 #[.val (.int k1), .val (.int k2), .val (.int k3), .val (.int k4), .val (.ref b1), .val (.ref b7), .val (.ref b95), .val (.int (1 : Int32))] [(.int (1 : Int32))])) _
    refine XS.ifNo X127.here hx rfl (hb hby at_149) rfl ((if0 _ _).trans (feq (by decide)).1) ?_
    show Steps p.tables e below (T127.setTop (mkF m 152 #[.val (.int k1), .val (.int k2), .val (.int k3), .val (.int k4), .val (.ref b1), .val (.ref b7), .val (.ref b95), .val (.int (1 : Int32))] [])) _
    refine XS.iconst X127.here hx rfl (hb hby at_152) ?_
    show Steps p.tables e below (T127.setTop (mkF m 153 #[.val (.int k1), .val (.int k2), .val (.int k3), .val (.int k4), .val (.ref b1), .val (.ref b7), .val (.ref b95), .val (.int (1 : Int32))] [(.int (1 : Int32))])) _
    refine XS.goto X127.here hx rfl (pc0 := 153) (pc' := 157) rfl (hb hby at_153) (by decide) (by decide) ?_
    show Steps p.tables e below (T127.setTop (mkF m 157 #[.val (.int k1), .val (.int k2), .val (.int k3), .val (.int k4), .val (.ref b1), .val (.ref b7), .val (.ref b95), .val (.int (1 : Int32))] [(.int (1 : Int32))])) _
    refine XS.istore X127.here hx rfl (hb hby at_157) rfl (l' := #[.val (.int k1), .val (.int k2), .val (.int k3), .val (.int k4), .val (.ref b1), .val (.ref b7), .val (.ref b95), .val (.int (1 : Int32))]) rfl ?_
    show Steps p.tables e below (T127.setTop (mkF m 159 #[.val (.int k1), .val (.int k2), .val (.int k3), .val (.int k4), .val (.ref b1), .val (.ref b7), .val (.ref b95), .val (.int (1 : Int32))] [])) _
    refine XS.iload X127.here hx rfl (hb hby at_159) rfl ?_
    show Steps p.tables e below (T127.setTop (mkF m 161 #[.val (.int k1), .val (.int k2), .val (.int k3), .val (.int k4), .val (.ref b1), .val (.ref b7), .val (.ref b95), .val (.int (1 : Int32))] [(.int (1 : Int32))])) _
    exact retN X127 hx (t := .boolean) Bd.returns (by simp) (hb hby at_161) hr
  · show Q0 Z k1 k2 k3 k4 h0 n0 _ T127.heap _
    exact ⟨rfl, N127⟩
set_option maxRecDepth 65536 in
set_option maxHeartbeats 40000000 in
theorem comes_1 {Post : Tables → Env → Array Value → State → Outcome → State → Prop} (hpost : ∀ tb e args s v u, (limb_1_1.after args s (.returned v) u = true ∧ limb_1_2.after args s (.returned v) u = true ∧ True) → FrameEnd s (.returned v) u (Jvm.fieldLocs frame_1_writes args s ++ Jvm.arrayLocs frame_1_arrays args s ++ Jvm.staticLocs frame_1_statics s) 24 128 → Post tb e args s (.returned v) u) :
    ArmFor flags0 classFile x code maxLocals ret World_1 tables_1 room_1 Calls_1 rest_1 Pre_1 Post := by
  intro l hfl _ _ p e ha hc hk s m args below hf hA hF happ hP
  obtain ⟨hcalls, hrest, hpre⟩ := hP
  obtain ⟨-, -, -, hnamed, -, -, -, hat⟩ := (Spec.applies_iff hf).mp happ
  obtain ⟨hg, hn⟩ := and_e (Cond.before_iff.mp (show (Jvm.Cond.and given_1 narrow_1).before args s = true from hpre))
  obtain ⟨gv1, gv2⟩ := and_e hg
  obtain ⟨gv3, gv4⟩ := and_e gv2
  obtain ⟨gv5, gv6⟩ := and_e gv4
  obtain ⟨gv7, gv8⟩ := and_e gv6
  obtain ⟨w0, w1, w2, w3, rfl⟩ : ∃ w0 w1 w2 w3 : Value, args = #[w0, w1, w2, w3] := by
    have hs : args.size = 4 := by simpa [Cond.value, given_1] using gv1
    obtain ⟨L⟩ := args
    match L, hs with
    | [w0, w1, w2, w3], _ => exact ⟨w0, w1, w2, w3, rfl⟩
  have hw := fun d (hd : d ∈ tables_1) => atoms_spec (ws := Jvm.Cond.code x code maxLocals ret :: tables_1) hat d (List.mem_cons_of_mem _ hd)
  obtain ⟨i0, ei0⟩ := is_v gv3
  obtain rfl : w0 = (.int i0) := Option.some.inj ei0
  obtain ⟨i1, ei1⟩ := is_v gv5
  obtain rfl : w1 = (.int i1) := Option.some.inj ei1
  obtain ⟨i2, ei2⟩ := is_v gv7
  obtain rfl : w2 = (.int i2) := Option.some.inj ei2
  obtain ⟨i3, ei3⟩ := is_v gv8
  obtain rfl : w3 = (.int i3) := Option.some.inj ei3
  obtain ⟨n, o, h1, h2, h3, _, L, rfl, ⟨rfl, N⟩, hq⟩ := rm0 l s _ hw tables_1 i0 i1 i2 i3  s.heap s.heap.size (Nat.le_refl _)  p e ha hc hk s m _ below hf ((Spec.applies_iff_loose hf).mp happ).1 ⟨rfl, State.Warmed39.refl s, rfl⟩ trivial
  refine ⟨n, _, h1, h2, h3, hpost _ _ _ _ _ _ ⟨Cond.after_iff.mpr rfl, Cond.after_iff.mpr (eq_i res_at (Term.int_eval (1)) rfl), trivial⟩ ⟨hq.1, hq.2.1, (hq.2.2.sift fun y hy => Or.inr (N y hy)).mono (by decide) (by decide)⟩⟩
theorem main_1_1 : Claimed_1_1 := comes_1 fun _ _ _ _ _ _ h hF => ⟨h.1, hF⟩
theorem main_1_2 : Claimed_1_2 := comes_1 fun _ _ _ _ _ _ h hF => ⟨h.2.1, hF⟩
end Jvm.Pilot.@@N@@
namespace Jvm.Pilot.@@N@@
open Jvm Jvm.ClassFile Sem Op Lib Jvm.Free Jvm.Stand Jvm.Pilot.@@N@@.Jvm.D
/-! MADE BY PROGRAM (witnessworld.py) out of the Statement's table words and the real class files: 13 classes; the members and pool entries that the words name. The judged class is class 1, her method 1. -/
namespace start1
open Jvm.ClassFile
def u (s : String) : CpInfo := .utf8 (stringToUtf16 s)
/-- a pool by its gaps: so many unusable entries, then the entry; so many at the end -/
def gap : Nat → List CpInfo → List CpInfo
  | 0, r => r
  | n + 1, r => .unusable :: gap n r
def poolList (es : List (Nat × CpInfo)) (last : Nat) : List CpInfo := es.foldr (fun e r => gap e.1 (e.2 :: r)) (gap last [])
def pool (es : List (Nat × CpInfo)) (last : Nat) : Array CpInfo := ⟨poolList es last⟩
def fileOf (pool : Array CpInfo) (this : Nat) (attrs : Array Attribute := #[]) (ms : Array MethodInfo := #[]) (fl : Nat := 33) (sup : Nat := 0) (ifs : Array Nat := #[]) (fds : Array FieldInfo := #[]) : ClassFile where
  minorVersion := 0
  majorVersion := 65
  constantPool := pool
  accessFlags := fl
  thisClass := this
  superClass := sup
  interfaces := ifs
  fields := fds
  methods := ms
  attributes := attrs
def plain (name : String) (sup : Option ClassId) : Class where
  name := name
  kind := .ordinary
  loader := none
  accessFlags := 33
  super := sup
  interfaces := #[]
  cf := none
  fields := #[]
  methods := #[]
  instanceTypes := #[]
  staticTypes := #[]
  resolved := #[]
  callSites := []
  init := .initialized
  statics := none
  mirror := none

def pool0 : Array CpInfo := pool [(5, u "<init>"), (0, u "()V"), (1, .class_ 10), (1, u "java/lang/Object")] 113

def k0c0 : Code := { maxStack := 0, maxLocals := 1, code := object_method_1_code, exceptionTable := #[], attributes := #[] }
def k0m0 : Method := { name := "<init>", desc := "()V", sig := { parameters := [], returnType := none }, accessFlags := 1, code := some k0c0 }
/-- java/lang/Object -/
def k0 : Class := { plain "java/lang/Object" none with
  accessFlags := 33
  interfaces := #[]
  cf := some (fileOf pool0 8 #[] #[{ accessFlags := 1, nameIndex := 5, descriptorIndex := 6, attributes := #[] }] 33 0 #[] #[])
  fields := #[]
  methods := #[k0m0]
  instanceTypes := #[]
  staticTypes := #[]
  resolved := Array.replicate 124 none
  statics := none }

def pool1 : Array CpInfo := pool [(2, .class_ 4), (0, .nameAndType 5 6), (0, u "java/lang/Object"), (0, u "<init>"), (0, u "()V"), (0, .class_ 8), (0, u "com/example/evenkeel/evenkeel/TaskQueue"), (0, .methodref 7 3), (0, .class_ 11), (0, u "com/example/evenkeel/evenkeel/QueuedTasks"), (0, .methodref 10 13), (0, .nameAndType 5 14), (0, u "(Lcom/example/evenkeel/evenkeel/TenantAllocation;[JJJLcom/example/evenkeel/evenkeel/Decision;)V"), (0, .methodref 7 16), (0, .nameAndType 17 18), (0, u "isEmpty"), (0, u "()Z"), (0, .methodref 20 21), (0, .class_ 22), (0, .nameAndType 23 24), (0, u "com/example/evenkeel/evenkeel/TaskQueueIsEmptyPinLaw"), (0, u "step"), (0, u "(Lcom/example/evenkeel/evenkeel/TaskQueue;[Lcom/example/evenkeel/evenkeel/QueuedTasks;[ZI)Z"), (0, .methodref 7 26), (0, .nameAndType 27 28), (0, u "remove"), (0, u "(Lcom/example/evenkeel/evenkeel/QueuedTasks;)V"), (0, .methodref 7 30), (0, .nameAndType 31 28), (0, u "addFirst"), (0, .methodref 7 33), (0, .nameAndType 34 28), (0, u "addLast"), (2, u "law"), (0, u "(IIII)Z")] 7

def k1m0 : Method := { name := "<init>", desc := "()V", sig := { parameters := [], returnType := none }, accessFlags := 2, code := none }
def k1c1 : Code := { maxStack := 11, maxLocals := 8, code := code, exceptionTable := #[], attributes := #[] }
def k1m1 : Method := { name := "law", desc := "(IIII)Z", sig := { parameters := [.int, .int, .int, .int], returnType := some .boolean }, accessFlags := 9, code := some k1c1 }
def k1c2 : Code := { maxStack := 3, maxLocals := 7, code := method_3_code, exceptionTable := #[], attributes := #[] }
def k1m2 : Method := { name := "step", desc := "(Lcom/example/evenkeel/evenkeel/TaskQueue;[Lcom/example/evenkeel/evenkeel/QueuedTasks;[ZI)Z", sig := { parameters := [(.object "com/example/evenkeel/evenkeel/TaskQueue"), (.array (.object "com/example/evenkeel/evenkeel/QueuedTasks")), (.array .boolean), .int], returnType := some .boolean }, accessFlags := 10, code := some k1c2 }
/-- com/example/evenkeel/evenkeel/TaskQueueIsEmptyPinLaw -/
def k1 : Class := { plain "com/example/evenkeel/evenkeel/TaskQueueIsEmptyPinLaw" (some 0) with
  accessFlags := 49
  interfaces := #[]
  cf := some (fileOf pool1 20 #[] #[{ accessFlags := 2, nameIndex := 5, descriptorIndex := 6, attributes := #[] }, { accessFlags := 9, nameIndex := 37, descriptorIndex := 38, attributes := #[] }, { accessFlags := 10, nameIndex := 23, descriptorIndex := 24, attributes := #[] }] 49 2 #[] #[])
  fields := #[]
  methods := #[k1m0, k1m1, k1m2]
  instanceTypes := #[]
  staticTypes := #[]
  resolved := Array.replicate 46 none
  statics := none }

def pool2 : Array CpInfo := pool [(1, .methodref 2 3), (0, .class_ 4), (0, .nameAndType 5 6), (0, u "java/lang/Object"), (0, u "<init>"), (0, u "()V"), (0, .fieldref 8 9), (0, .class_ 10), (0, .nameAndType 11 12), (0, u "com/example/evenkeel/evenkeel/TaskQueue"), (0, u "first"), (0, u "Lcom/example/evenkeel/evenkeel/QueuedTasks;"), (0, .fieldref 14 15), (0, .class_ 16), (0, .nameAndType 17 12), (0, u "com/example/evenkeel/evenkeel/QueuedTasks"), (0, u "after"), (0, .fieldref 8 19), (0, .nameAndType 20 12), (0, u "last"), (0, .fieldref 14 22), (0, .nameAndType 23 12), (0, u "before"), (2, u "isEmpty"), (0, u "()Z"), (2, u "addFirst"), (0, u "(Lcom/example/evenkeel/evenkeel/QueuedTasks;)V"), (0, u "addLast"), (0, u "remove")] 2

def k2c0 : Code := { maxStack := 1, maxLocals := 1, code := prog_20_method_1_code, exceptionTable := #[], attributes := #[] }
def k2m0 : Method := { name := "<init>", desc := "()V", sig := { parameters := [], returnType := none }, accessFlags := 0, code := some k2c0 }
def k2c1 : Code := { maxStack := 1, maxLocals := 1, code := prog_20_method_2_code, exceptionTable := #[], attributes := #[] }
def k2m1 : Method := { name := "isEmpty", desc := "()Z", sig := { parameters := [], returnType := some .boolean }, accessFlags := 0, code := some k2c1 }
def k2c2 : Code := { maxStack := 2, maxLocals := 2, code := prog_20_method_4_code, exceptionTable := #[], attributes := #[] }
def k2m2 : Method := { name := "addFirst", desc := "(Lcom/example/evenkeel/evenkeel/QueuedTasks;)V", sig := { parameters := [(.object "com/example/evenkeel/evenkeel/QueuedTasks")], returnType := none }, accessFlags := 0, code := some k2c2 }
def k2c3 : Code := { maxStack := 2, maxLocals := 2, code := prog_20_method_5_code, exceptionTable := #[], attributes := #[] }
def k2m3 : Method := { name := "addLast", desc := "(Lcom/example/evenkeel/evenkeel/QueuedTasks;)V", sig := { parameters := [(.object "com/example/evenkeel/evenkeel/QueuedTasks")], returnType := none }, accessFlags := 0, code := some k2c3 }
def k2c4 : Code := { maxStack := 2, maxLocals := 2, code := prog_20_method_6_code, exceptionTable := #[], attributes := #[] }
def k2m4 : Method := { name := "remove", desc := "(Lcom/example/evenkeel/evenkeel/QueuedTasks;)V", sig := { parameters := [(.object "com/example/evenkeel/evenkeel/QueuedTasks")], returnType := none }, accessFlags := 0, code := some k2c4 }
/-- com/example/evenkeel/evenkeel/TaskQueue -/
def k2 : Class := { plain "com/example/evenkeel/evenkeel/TaskQueue" (some 0) with
  accessFlags := 48
  interfaces := #[]
  cf := some (fileOf pool2 8 #[] #[{ accessFlags := 0, nameIndex := 5, descriptorIndex := 6, attributes := #[] }, { accessFlags := 0, nameIndex := 26, descriptorIndex := 27, attributes := #[] }, { accessFlags := 0, nameIndex := 30, descriptorIndex := 31, attributes := #[] }, { accessFlags := 0, nameIndex := 32, descriptorIndex := 31, attributes := #[] }, { accessFlags := 0, nameIndex := 33, descriptorIndex := 31, attributes := #[] }] 48 2 #[] #[{ accessFlags := 2, nameIndex := 11, descriptorIndex := 12, attributes := #[] }, { accessFlags := 2, nameIndex := 20, descriptorIndex := 12, attributes := #[] }])
  fields := #[{ name := "first", type := (.object "com/example/evenkeel/evenkeel/QueuedTasks"), accessFlags := 2, slot := 0, constantValue := 0 }, { name := "last", type := (.object "com/example/evenkeel/evenkeel/QueuedTasks"), accessFlags := 2, slot := 1, constantValue := 0 }]
  methods := #[k2m0, k2m1, k2m2, k2m3, k2m4]
  instanceTypes := #[(.object "com/example/evenkeel/evenkeel/QueuedTasks"), (.object "com/example/evenkeel/evenkeel/QueuedTasks")]
  staticTypes := #[]
  resolved := Array.replicate 36 none
  statics := none }

def pool3 : Array CpInfo := pool [(1, .methodref 2 3), (0, .class_ 4), (0, .nameAndType 5 6), (0, u "java/lang/Object"), (0, u "<init>"), (0, u "()V"), (0, .fieldref 8 9), (0, .class_ 10), (0, .nameAndType 11 12), (0, u "com/example/evenkeel/evenkeel/QueuedTasks"), (0, u "tenant"), (0, u "Lcom/example/evenkeel/evenkeel/TenantAllocation;"), (0, .fieldref 8 14), (0, .nameAndType 15 16), (0, u "demand"), (0, u "[J"), (0, .fieldref 8 18), (0, .nameAndType 19 20), (0, u "count"), (0, u "J"), (0, .fieldref 8 22), (0, .nameAndType 23 20), (0, u "left"), (0, .fieldref 8 25), (0, .nameAndType 26 20), (0, u "submission"), (0, .fieldref 8 28), (0, .nameAndType 29 30), (0, u "stopped"), (0, u "Lcom/example/evenkeel/evenkeel/Decision;"), (0, u "before"), (0, u "Lcom/example/evenkeel/evenkeel/QueuedTasks;"), (0, u "after"), (0, u "(Lcom/example/evenkeel/evenkeel/TenantAllocation;[JJJLcom/example/evenkeel/evenkeel/Decision;)V")] 4

def k3c0 : Code := { maxStack := 3, maxLocals := 8, code := prog_17_method_1_code, exceptionTable := #[], attributes := #[] }
def k3m0 : Method := { name := "<init>", desc := "(Lcom/example/evenkeel/evenkeel/TenantAllocation;[JJJLcom/example/evenkeel/evenkeel/Decision;)V", sig := { parameters := [(.object "com/example/evenkeel/evenkeel/TenantAllocation"), (.array .long), .long, .long, (.object "com/example/evenkeel/evenkeel/Decision")], returnType := none }, accessFlags := 0, code := some k3c0 }
/-- com/example/evenkeel/evenkeel/QueuedTasks -/
def k3 : Class := { plain "com/example/evenkeel/evenkeel/QueuedTasks" (some 0) with
  accessFlags := 48
  interfaces := #[]
  cf := some (fileOf pool3 8 #[] #[{ accessFlags := 0, nameIndex := 5, descriptorIndex := 34, attributes := #[] }] 48 2 #[] #[{ accessFlags := 16, nameIndex := 11, descriptorIndex := 12, attributes := #[] }, { accessFlags := 16, nameIndex := 15, descriptorIndex := 16, attributes := #[] }, { accessFlags := 16, nameIndex := 19, descriptorIndex := 20, attributes := #[] }, { accessFlags := 16, nameIndex := 26, descriptorIndex := 20, attributes := #[] }, { accessFlags := 16, nameIndex := 29, descriptorIndex := 30, attributes := #[] }, { accessFlags := 0, nameIndex := 23, descriptorIndex := 20, attributes := #[] }, { accessFlags := 0, nameIndex := 31, descriptorIndex := 32, attributes := #[] }, { accessFlags := 0, nameIndex := 33, descriptorIndex := 32, attributes := #[] }])
  fields := #[{ name := "tenant", type := (.object "com/example/evenkeel/evenkeel/TenantAllocation"), accessFlags := 16, slot := 0, constantValue := 0 }, { name := "demand", type := (.array .long), accessFlags := 16, slot := 1, constantValue := 0 }, { name := "count", type := .long, accessFlags := 16, slot := 2, constantValue := 0 }, { name := "submission", type := .long, accessFlags := 16, slot := 3, constantValue := 0 }, { name := "stopped", type := (.object "com/example/evenkeel/evenkeel/Decision"), accessFlags := 16, slot := 4, constantValue := 0 }, { name := "left", type := .long, accessFlags := 0, slot := 5, constantValue := 0 }, { name := "before", type := (.object "com/example/evenkeel/evenkeel/QueuedTasks"), accessFlags := 0, slot := 6, constantValue := 0 }, { name := "after", type := (.object "com/example/evenkeel/evenkeel/QueuedTasks"), accessFlags := 0, slot := 7, constantValue := 0 }]
  methods := #[k3m0]
  instanceTypes := #[(.object "com/example/evenkeel/evenkeel/TenantAllocation"), (.array .long), .long, .long, (.object "com/example/evenkeel/evenkeel/Decision"), .long, (.object "com/example/evenkeel/evenkeel/QueuedTasks"), (.object "com/example/evenkeel/evenkeel/QueuedTasks")]
  staticTypes := #[]
  resolved := Array.replicate 39 none
  statics := none }

def pool4 : Array CpInfo := pool [(1, u "java/lang/Cloneable"), (0, .class_ 1), (0, u "java/lang/Object"), (0, .class_ 3)] 3

/-- java/lang/Cloneable -/
def k4 : Class := { plain "java/lang/Cloneable" (some 0) with
  accessFlags := 1537
  interfaces := #[]
  cf := some (fileOf pool4 2 #[] #[] 1537 4 #[] #[])
  fields := #[]
  methods := #[]
  instanceTypes := #[]
  staticTypes := #[]
  resolved := Array.replicate 8 none
  statics := none }

def pool5 : Array CpInfo := pool [(1, u "java/io/Serializable"), (0, .class_ 1), (0, u "java/lang/Object"), (0, .class_ 3)] 3

/-- java/io/Serializable -/
def k5 : Class := { plain "java/io/Serializable" (some 0) with
  accessFlags := 1537
  interfaces := #[]
  cf := some (fileOf pool5 2 #[] #[] 1537 4 #[] #[])
  fields := #[]
  methods := #[]
  instanceTypes := #[]
  staticTypes := #[]
  resolved := Array.replicate 8 none
  statics := none }

/-- the primitive boolean -/
def k6 : Class := { plain "boolean" none with kind := .primitive 'Z', accessFlags := 0x411 }
/-- [Z -/
def k7 : Class := { plain "[Z" (some 0) with kind := .array 6 .boolean, interfaces := #[4, 5], accessFlags := 1041 }

/-- the primitive byte -/
def k8 : Class := { plain "byte" none with kind := .primitive 'B', accessFlags := 0x411 }
/-- [B -/
def k9 : Class := { plain "[B" (some 0) with kind := .array 8 .byte, interfaces := #[4, 5], accessFlags := 1041 }

/-- the primitive int -/
def k10 : Class := { plain "int" none with kind := .primitive 'I', accessFlags := 0x411 }
/-- [I -/
def k11 : Class := { plain "[I" (some 0) with kind := .array 10 .int, interfaces := #[4, 5], accessFlags := 1041 }

/-- [Lcom/example/evenkeel/evenkeel/QueuedTasks; -/
def k12 : Class := { plain "[Lcom/example/evenkeel/evenkeel/QueuedTasks;" (some 0) with kind := .array 3 (.object "com/example/evenkeel/evenkeel/QueuedTasks"), interfaces := #[4, 5], accessFlags := 1041 }

def heap : Heap := #[]
def classes : Array Class := #[k0, k1, k2, k3, k4, k5, k6, k7, k8, k9, k10, k11, k12]
def interned : List (Array UInt16 × Addr) := []
def slotsUsed : Nat := 0
def theMethod : MethodId := ⟨1, 1⟩
def args0 : Array Value := #[.int 5, .int 6, .int 7, .int 2]
def aboutOver (below : List Frame) : State where
  vm := { classes := classes, interned := interned.toArray }
  heap := heap
  slotsUsed := slotsUsed
  threads := #[{ frames := .invoking theMethod args0 :: below }]
def below0 : List Frame := [.native { method := ⟨0, 0⟩, args := #[] }]
def about1 : State := aboutOver below0
def p0 : Program := .bare "" "" ""
def e0 : Env := launch0.env 0 0 0
theorem w_frames : about1.frames = Frame.invoking theMethod args0 :: below0 := rfl
set_option maxRecDepth 65536 in
theorem w_args : argsFit about1.vm theMethod args0 = true := by decide +kernel
set_option maxRecDepth 65536 in
theorem w_heap : heapFits about1 = true := by decide +kernel
set_option maxRecDepth 65536 in
theorem w_runnable : about1.curStatus? = some .runnable := by decide +kernel
set_option maxRecDepth 65536 in
theorem w_alone : about1.alone = true := by decide +kernel
set_option maxRecDepth 65536 in
theorem w_named : about1.methodNamed? x = some theMethod := by decide +kernel
set_option maxRecDepth 65536 in
theorem w_hears : about1.hears theMethod below0 = true := by decide +kernel
set_option maxRecDepth 65536 in
theorem w_ripe : about1.ripe theMethod args0 below0 = true := by decide +kernel
theorem w_running : about1.status = .running := rfl
set_option maxRecDepth 65536 in
theorem w_room : about1.hasRoom e0.platform room_1 = true :=
  launch0.hasRoom_least _ room_1 (by decide +kernel) (by decide +kernel) (by decide +kernel) (by decide +kernel) (by decide +kernel) (by decide +kernel)
theorem allAtoms_all (ts : List Jvm.Cond) (a : Array Jvm.Value) (st : Jvm.State) : (allAtoms ts).before a st = ts.all (fun c => c.before a st) := by
  induction ts with
  | nil => rfl
  | cons c t ih =>
    show (Jvm.Cond.and c (allAtoms t)).before a st = _
    rw [Jvm.Cond.before_and, ih, List.all_cons]
def words1 : List Jvm.Cond := Jvm.Cond.code x code maxLocals ret :: tables_1
/-- a 'code' word, met by the world's own term for the bytes: nothing is compared byte by byte -/
theorem code_word {y : MethodName} {bytes : ByteArray} {mx : Nat} {rt : Option FieldType} {a : Array Value} {s : State} {m : MethodId} {meth : Method} {c : Code} (h1 : s.methodNamed? y = some m) (h2 : s.vm.method? m = some meth) (h3 : meth.code = some c) (h4 : c.code = bytes)
    (h5 : (c.maxLocals == mx && c.exceptionTable.isEmpty && decide (c.maxStack ≤ mostOperands) && decide (meth.sig.returnType = rt) && !meth.locks && decide (parseMethodDescriptor y.desc = some meth.sig)) = true) : (Jvm.Cond.code y bytes mx rt).before a s = true := by
  simp only [Bool.and_eq_true, beq_iff_eq, Bool.not_eq_true', decide_eq_true_eq] at h5
  obtain ⟨⟨⟨⟨⟨g1, g2⟩, g3⟩, g4⟩, g5⟩, g6⟩ := h5
  simp [Cond.before, Cond.holds, Cond.value, h1, h2, h3, h4, g1, g2, g3, g4, g5, g6]
def isCode : Jvm.Cond → Bool
  | .code _ _ _ _ => true
  | _ => false
theorem all_split {L : List Jvm.Cond} {P : Jvm.Cond → Bool} (h1 : L.all (fun c => isCode c || P c) = true) (h2 : ∀ c ∈ L.filter isCode, P c = true) : L.all P = true := by
  refine List.all_eq_true.mpr fun c hc => ?_
  have h := List.all_eq_true.mp h1 c hc
  rcases Bool.eq_false_or_eq_true (isCode c) with hi | hi
  · exact h2 c (List.mem_filter.mpr ⟨hc, hi⟩)
  · simpa [hi] using h
set_option maxRecDepth 65536 in
theorem w_c0 : (Jvm.Cond.code x code maxLocals ret).before args0 about1 = true := code_word (m := ⟨1, 1⟩) (meth := k1m1) (c := k1c1) (by decide +kernel) rfl rfl rfl (by decide +kernel)
set_option maxRecDepth 65536 in
theorem w_c1 : (Jvm.Cond.code ({ cls := "com/example/evenkeel/evenkeel/TaskQueue", name := "<init>", desc := "()V" } : Jvm.MethodName) prog_20_method_1_code (1 : Nat) (Option.none : Option Jvm.ClassFile.FieldType)).before args0 about1 = true := code_word (m := ⟨2, 0⟩) (meth := k2m0) (c := k2c0) (by decide +kernel) rfl rfl rfl (by decide +kernel)
set_option maxRecDepth 65536 in
theorem w_c2 : (Jvm.Cond.code ({ cls := "java/lang/Object", name := "<init>", desc := "()V" } : Jvm.MethodName) object_method_1_code (1 : Nat) (Option.none : Option Jvm.ClassFile.FieldType)).before args0 about1 = true := code_word (m := ⟨0, 0⟩) (meth := k0m0) (c := k0c0) (by decide +kernel) rfl rfl rfl (by decide +kernel)
set_option maxRecDepth 65536 in
theorem w_c3 : (Jvm.Cond.code ({ cls := "com/example/evenkeel/evenkeel/QueuedTasks", name := "<init>", desc := "(Lcom/example/evenkeel/evenkeel/TenantAllocation;[JJJLcom/example/evenkeel/evenkeel/Decision;)V" } : Jvm.MethodName) prog_17_method_1_code (8 : Nat) (Option.none : Option Jvm.ClassFile.FieldType)).before args0 about1 = true := code_word (m := ⟨3, 0⟩) (meth := k3m0) (c := k3c0) (by decide +kernel) rfl rfl rfl (by decide +kernel)
set_option maxRecDepth 65536 in
theorem w_c4 : (Jvm.Cond.code ({ cls := "com/example/evenkeel/evenkeel/TaskQueue", name := "isEmpty", desc := "()Z" } : Jvm.MethodName) prog_20_method_2_code (1 : Nat) (Option.some Jvm.ClassFile.FieldType.boolean)).before args0 about1 = true := code_word (m := ⟨2, 1⟩) (meth := k2m1) (c := k2c1) (by decide +kernel) rfl rfl rfl (by decide +kernel)
set_option maxRecDepth 65536 in
theorem w_c5 : (Jvm.Cond.code ({ cls := "com/example/evenkeel/evenkeel/TaskQueueIsEmptyPinLaw", name := "step", desc := "(Lcom/example/evenkeel/evenkeel/TaskQueue;[Lcom/example/evenkeel/evenkeel/QueuedTasks;[ZI)Z" } : Jvm.MethodName) method_3_code (7 : Nat) (Option.some Jvm.ClassFile.FieldType.boolean)).before args0 about1 = true := code_word (m := ⟨1, 2⟩) (meth := k1m2) (c := k1c2) (by decide +kernel) rfl rfl rfl (by decide +kernel)
set_option maxRecDepth 65536 in
theorem w_c6 : (Jvm.Cond.code ({ cls := "com/example/evenkeel/evenkeel/TaskQueue", name := "addFirst", desc := "(Lcom/example/evenkeel/evenkeel/QueuedTasks;)V" } : Jvm.MethodName) prog_20_method_4_code (2 : Nat) (Option.none : Option Jvm.ClassFile.FieldType)).before args0 about1 = true := code_word (m := ⟨2, 2⟩) (meth := k2m2) (c := k2c2) (by decide +kernel) rfl rfl rfl (by decide +kernel)
set_option maxRecDepth 65536 in
theorem w_c7 : (Jvm.Cond.code ({ cls := "com/example/evenkeel/evenkeel/TaskQueue", name := "addLast", desc := "(Lcom/example/evenkeel/evenkeel/QueuedTasks;)V" } : Jvm.MethodName) prog_20_method_5_code (2 : Nat) (Option.none : Option Jvm.ClassFile.FieldType)).before args0 about1 = true := code_word (m := ⟨2, 3⟩) (meth := k2m3) (c := k2c3) (by decide +kernel) rfl rfl rfl (by decide +kernel)
set_option maxRecDepth 65536 in
theorem w_c8 : (Jvm.Cond.code ({ cls := "com/example/evenkeel/evenkeel/TaskQueue", name := "remove", desc := "(Lcom/example/evenkeel/evenkeel/QueuedTasks;)V" } : Jvm.MethodName) prog_20_method_6_code (2 : Nat) (Option.none : Option Jvm.ClassFile.FieldType)).before args0 about1 = true := code_word (m := ⟨2, 4⟩) (meth := k2m4) (c := k2c4) (by decide +kernel) rfl rfl rfl (by decide +kernel)
def codes1 : List Jvm.Cond := [Jvm.Cond.code x code maxLocals ret, Jvm.Cond.code ({ cls := "com/example/evenkeel/evenkeel/TaskQueue", name := "<init>", desc := "()V" } : Jvm.MethodName) prog_20_method_1_code (1 : Nat) (Option.none : Option Jvm.ClassFile.FieldType), Jvm.Cond.code ({ cls := "java/lang/Object", name := "<init>", desc := "()V" } : Jvm.MethodName) object_method_1_code (1 : Nat) (Option.none : Option Jvm.ClassFile.FieldType), Jvm.Cond.code ({ cls := "com/example/evenkeel/evenkeel/QueuedTasks", name := "<init>", desc := "(Lcom/example/evenkeel/evenkeel/TenantAllocation;[JJJLcom/example/evenkeel/evenkeel/Decision;)V" } : Jvm.MethodName) prog_17_method_1_code (8 : Nat) (Option.none : Option Jvm.ClassFile.FieldType), Jvm.Cond.code ({ cls := "com/example/evenkeel/evenkeel/TaskQueue", name := "isEmpty", desc := "()Z" } : Jvm.MethodName) prog_20_method_2_code (1 : Nat) (Option.some Jvm.ClassFile.FieldType.boolean), Jvm.Cond.code ({ cls := "com/example/evenkeel/evenkeel/TaskQueueIsEmptyPinLaw", name := "step", desc := "(Lcom/example/evenkeel/evenkeel/TaskQueue;[Lcom/example/evenkeel/evenkeel/QueuedTasks;[ZI)Z" } : Jvm.MethodName) method_3_code (7 : Nat) (Option.some Jvm.ClassFile.FieldType.boolean), Jvm.Cond.code ({ cls := "com/example/evenkeel/evenkeel/TaskQueue", name := "addFirst", desc := "(Lcom/example/evenkeel/evenkeel/QueuedTasks;)V" } : Jvm.MethodName) prog_20_method_4_code (2 : Nat) (Option.none : Option Jvm.ClassFile.FieldType), Jvm.Cond.code ({ cls := "com/example/evenkeel/evenkeel/TaskQueue", name := "addLast", desc := "(Lcom/example/evenkeel/evenkeel/QueuedTasks;)V" } : Jvm.MethodName) prog_20_method_5_code (2 : Nat) (Option.none : Option Jvm.ClassFile.FieldType), Jvm.Cond.code ({ cls := "com/example/evenkeel/evenkeel/TaskQueue", name := "remove", desc := "(Lcom/example/evenkeel/evenkeel/QueuedTasks;)V" } : Jvm.MethodName) prog_20_method_6_code (2 : Nat) (Option.none : Option Jvm.ClassFile.FieldType)]
set_option maxRecDepth 65536 in
theorem codes_eq : words1.filter isCode = codes1 := rfl
theorem w_codes : ∀ c ∈ words1.filter isCode, c.before args0 about1 = true := by
  rw [codes_eq]
  intro c hc
  simp only [codes1, List.mem_cons, List.not_mem_nil, or_false] at hc
  rcases hc with rfl | rfl | rfl | rfl | rfl | rfl | rfl | rfl | rfl
  · exact w_c0
  · exact w_c1
  · exact w_c2
  · exact w_c3
  · exact w_c4
  · exact w_c5
  · exact w_c6
  · exact w_c7
  · exact w_c8
set_option maxRecDepth 65536 in
theorem w_t1 : (words1.take 24).all (fun c => isCode c || c.before args0 about1) = true := by decide +kernel
set_option maxRecDepth 65536 in
theorem w_t2 : ((words1.drop 24).take 24).all (fun c => isCode c || c.before args0 about1) = true := by decide +kernel
set_option maxRecDepth 65536 in
theorem w_t3 : ((words1.drop 24).drop 24).all (fun c => isCode c || c.before args0 about1) = true := by decide +kernel
theorem w_tables : (allAtoms (Jvm.Cond.code x code maxLocals ret :: tables_1)).before args0 about1 = true := by
  rw [allAtoms_all]
  show words1.all (fun c => c.before args0 about1) = true
  refine all_split ?_ w_codes
  rw [← List.take_append_drop 24 words1, List.all_append, w_t1, ← List.take_append_drop 24 (words1.drop 24), List.all_append, w_t2, w_t3]
  rfl
set_option maxRecDepth 65536 in
theorem w_case : (Jvm.Cond.and given_1 narrow_1).before args0 about1 = true := by decide +kernel
theorem w_applies : (headSpec (Jvm.Cond.code x code maxLocals ret :: tables_1) room_1).applies x e0.platform about1 = true :=
  (Spec.applies_iff w_frames).mpr ⟨w_running, w_runnable, w_alone, w_named, w_hears, w_ripe, w_room, w_tables⟩
theorem atStart : AtStart classFile x code maxLocals ret World_1 tables_1 room_1 Calls_1 rest_1 Pre_1 launch0 p0 e0 about1 theMethod args0 below0 :=
  ⟨lists_1, trivial, launch0.admits_env _ _ _, launch0.least_env, fairChoices_fair.cas, fairChoices_fair.clock, w_frames, w_args, w_heap, w_applies, trivial, trivial, w_case⟩
end start1
theorem witness_1 : WitnessClaimed_1 := ⟨start1.p0, start1.e0, start1.about1, start1.theMethod, start1.args0, start1.below0, start1.atStart⟩
end Jvm.Pilot.@@N@@
