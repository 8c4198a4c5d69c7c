import JvmDerived
import JvmDerived.Pilot.@@N@@Statement
import JvmDerived.Pilot.@@N@@Code
set_option linter.unusedVariables false
set_option linter.unusedSimpArgs false
namespace Jvm.RoadKit
theorem heq_of {T : State} {h : Heap} {a : Addr} {c : Cell} (e : T.heap = h) (q : h[a]? = some c) : T.heap[a]? = some c := by rw [e]; exact q
open Sem ClassFile Op Lib Jvm.Stand Jvm.Free Jvm.LawKit
section New
variable {p : Program} {l : Launch} {e : Env} {R : Room} {s : State} {m : MethodId} {args : Array Value} {below : List Frame} {meth : Method} {c : Code} {T : State} {locs : List Loc} {cells slots : Nat}
theorem retI (X : Stand p l e R s m args below meth c T locs cells slots) (hx : p.tables.exec = Jvm.exec) {pc : Nat} {Ls : Array Slot} {z : Int32} {rest : List Value} (hret : meth.sig.returnType = some .int) (hd : decode c.code pc = .ok (.ireturn, 1)) {fs : List Frame}
    (hl : ∀ (f : JFrame) (acts : List Action), f.method = m → f.locked = none → f.entered = [] → (doReturn e (T.setTop f) acts (some (.int z))).1 = T.setFrames fs) : Steps p.tables e below (T.setTop (mkF m pc Ls (.int z :: rest))) (T.setFrames fs) := by
  have hm' : T.vm.method? m = some meth := X.method'
  have hn : narrow .int (.int z) = .int z := rfl
  show Steps p.tables e below (T.setTop { method := m, pc := pc, locals := Ls, stack := _ :: rest, locked := none }) _
  jvm_step X.here [X.here.top, hx, hd, hm', hret, hn]
  first | (intro acts; rw [hl _ acts rfl rfl rfl]) | rw [hl _ _ rfl rfl rfl]
  exact Steps.refl _
end New
end Jvm.RoadKit
namespace Jvm.Pilot.@@N@@
open Jvm Jvm.ClassFile Sem Op Lib Jvm.Free Jvm.Stand Jvm.LawKit Jvm.RoadKit Bundle Jvm.Pilot.@@N@@.Jvm.D
theorem own_mask31 (a : Int32) : 0 ≤ (a &&& (2147483647 : Int32)).toInt ∧ (a &&& (2147483647 : Int32)).toInt < 2147483648 := by
  have h : (a &&& (2147483647 : Int32)).toBitVec = a.toBitVec &&& 2147483647#32 := rfl
  have e : (a &&& (2147483647 : Int32)).toInt = (a.toBitVec &&& 2147483647#32).toInt := by rw [← h]; rfl
  have hm : (a.toBitVec &&& 2147483647#32).toNat ≤ 2147483647 := by rw [BitVec.toNat_and]; exact Nat.and_le_right
  rw [e, BitVec.toInt_eq_toNat_of_lt (by omega)]
  omega
theorem own_rem (u s : Int32) (hu : 0 ≤ u.toInt) (hs : 0 < s.toInt) : 0 ≤ (u % s).toInt ∧ (u % s).toInt < s.toInt := by
  have : (u % s).toInt = u.toInt.tmod s.toInt := Int32.toInt_mod ..
  rw [this, Int.tmod_eq_emod_of_nonneg hu]
  exact ⟨Int.emod_nonneg _ (by omega), Int.emod_lt_of_pos _ hs⟩
theorem own_i32_add (x y : Int32) (h1 : -2147483648 ≤ x.toInt + y.toInt) (h2 : x.toInt + y.toInt < 2147483648) : (x + y).toInt = x.toInt + y.toInt := by
  rw [Int32.toInt_add, Int.bmod_eq_of_le (by omega) (by omega)]
theorem own_i32_sub (x y : Int32) (h1 : -2147483648 ≤ x.toInt - y.toInt) (h2 : x.toInt - y.toInt < 2147483648) : (x - y).toInt = x.toInt - y.toInt := by
  rw [Int32.toInt_sub, Int.bmod_eq_of_le (by omega) (by omega)]
theorem own_i64_add (x y : Int64) (h1 : -9223372036854775808 ≤ x.toInt + y.toInt) (h2 : x.toInt + y.toInt < 9223372036854775808) : (x + y).toInt = x.toInt + y.toInt := by
  rw [Int64.toInt_add, Int.bmod_eq_of_le (by omega) (by omega)]
theorem own_i64_sub (x y : Int64) (h1 : -9223372036854775808 ≤ x.toInt - y.toInt) (h2 : x.toInt - y.toInt < 9223372036854775808) : (x - y).toInt = x.toInt - y.toInt := by
  rw [Int64.toInt_sub, Int.bmod_eq_of_le (by omega) (by omega)]
theorem own_i64_mul (x y : Int64) (h1 : -9223372036854775808 ≤ x.toInt * y.toInt) (h2 : x.toInt * y.toInt < 9223372036854775808) : (x * y).toInt = x.toInt * y.toInt := by
  rw [Int64.toInt_mul, Int.bmod_eq_of_le (by omega) (by omega)]
theorem own_i2l (x : Int32) : x.toInt64.toInt = x.toInt := Int32.toInt_toInt64 x
theorem own_l2i (x : Int64) (h1 : -2147483648 ≤ x.toInt) (h2 : x.toInt < 2147483648) : x.toInt32.toInt = x.toInt := by
  rw [Int64.toInt_toInt32, Int.bmod_eq_of_le (by omega) (by omega)]
theorem own_rangeI (x : Int32) : -2147483648 ≤ x.toInt ∧ x.toInt < 2147483648 := by
  have h1 := Int32.le_toInt x; have h2 := Int32.toInt_lt x; omega
theorem own_rangeL (x : Int64) : -9223372036854775808 ≤ x.toInt ∧ x.toInt < 9223372036854775808 := by
  have h1 := Int64.le_toInt x; have h2 := Int64.toInt_lt x; omega
theorem own_mask63 (a : Int64) : 0 ≤ (a &&& (9223372036854775807 : Int64)).toInt ∧ (a &&& (9223372036854775807 : Int64)).toInt < 9223372036854775808 := by
  have h : (a &&& (9223372036854775807 : Int64)).toBitVec = a.toBitVec &&& 9223372036854775807#64 := rfl
  have e : (a &&& (9223372036854775807 : Int64)).toInt = (a.toBitVec &&& 9223372036854775807#64).toInt := by rw [← h]; rfl
  have hm : (a.toBitVec &&& 9223372036854775807#64).toNat ≤ 9223372036854775807 := by rw [BitVec.toNat_and]; exact Nat.and_le_right
  rw [e, BitVec.toInt_eq_toNat_of_lt (by omega)]
  omega
theorem own_remL (u s : Int64) (hu : 0 ≤ u.toInt) (hs : 0 < s.toInt) : 0 ≤ (u % s).toInt ∧ (u % s).toInt < s.toInt := by
  have : (u % s).toInt = u.toInt.tmod s.toInt := Int64.toInt_mod ..
  rw [this, Int.tmod_eq_emod_of_nonneg hu]
  exact ⟨Int.emod_nonneg _ (by omega), Int.emod_lt_of_pos _ hs⟩
def own_min (x y : Int64) : Int64 := if y < x then y else x
def own_bl (z : Int64) (b i : Int32) : Int32 := (own_min b.toInt64 (z - i.toInt64 * b.toInt64)).toInt32
theorem own_bl_int (z : Int64) (b i : Int32) (B I : Int) (hb : b.toInt = B) (hi : i.toInt = I) (hB : 0 < B) (hI : 0 ≤ I) (h0 : 0 ≤ I * B) (h1 : I * B ≤ z.toInt) (h2 : 0 ≤ z.toInt) : (own_bl z b i).toInt = if z.toInt - I * B < B then z.toInt - I * B else B := by
  have rz := own_rangeL z
  have rb := own_rangeI b
  have eb := own_i2l b
  have ei := own_i2l i
  have em : (i.toInt64 * b.toInt64).toInt = I * B := by rw [own_i64_mul _ _ (by rw [eb, ei, hb, hi]; omega) (by rw [eb, ei, hb, hi]; omega), eb, ei, hb, hi]
  have es : (z - i.toInt64 * b.toInt64).toInt = z.toInt - I * B := by rw [own_i64_sub _ _ (by rw [em]; omega) (by rw [em]; omega), em]
  unfold own_bl own_min
  by_cases hc : z.toInt - I * B < B
  · have : z - i.toInt64 * b.toInt64 < b.toInt64 := by rw [Int64.lt_iff_toInt_lt, es, eb, hb]; exact hc
    rw [if_pos this, if_pos hc, own_l2i _ (by rw [es]; omega) (by rw [es]; omega), es]
  · have : ¬ (z - i.toInt64 * b.toInt64 < b.toInt64) := by rw [Int64.lt_iff_toInt_lt, es, eb, hb]; exact hc
    rw [if_neg this, if_neg hc, own_l2i _ (by rw [eb]; omega) (by rw [eb]; omega), eb, hb]
theorem own_core (b q rm : Int32) (ln : Int64) (B Qq R : Int) (hb : b.toInt = B) (hq : q.toInt = Qq) (hr : rm.toInt = R) (hB : 0 < B) (hQ : 0 ≤ Qq) (hR : 0 < R) (hRB : R ≤ B) (hl : ln = (q.toInt64 * b.toInt64) + rm.toInt64) (i : Int32) (hi0 : 0 ≤ i.toInt) (hi1 : i.toInt ≤ Qq) :
    own_bl ln b i = if i < q then b else rm := by
  have rb := own_rangeI b
  have rq := own_rangeI q
  have eb := own_i2l b
  have eq := own_i2l q
  have er := own_i2l rm
  have hqb : 0 ≤ Qq * B := Int.mul_nonneg hQ (by omega)
  have hqb2 : Qq * B ≤ 2147483647 * 2147483647 := Int.mul_le_mul (by omega) (by omega) (by omega) (by omega)
  have em : (q.toInt64 * b.toInt64).toInt = Qq * B := by rw [own_i64_mul _ _ (by rw [eb, eq, hb, hq]; omega) (by rw [eb, eq, hb, hq]; omega), eb, eq, hb, hq]
  have el : ln.toInt = Qq * B + R := by rw [hl, own_i64_add _ _ (by rw [em, er, hr]; omega) (by rw [em, er, hr]; omega), em, er, hr]
  have hib : 0 ≤ i.toInt * B := Int.mul_nonneg hi0 (by omega)
  have hib2 : i.toInt * B ≤ Qq * B := Int.mul_le_mul_of_nonneg_right hi1 (by omega)
  have hI := own_bl_int ln b i B i.toInt hb rfl hB hi0 hib (by omega) (by omega)
  apply Int32.toInt_inj.1
  rw [hI, el]
  by_cases hc : i < q
  · rw [if_pos hc, hb]
    rw [Int32.lt_iff_toInt_lt, hq] at hc
    have h3 : (i.toInt + 1) * B ≤ Qq * B := Int.mul_le_mul_of_nonneg_right (by omega) (by omega)
    rw [Int.add_mul] at h3
    rw [if_neg (by omega)]
  · rw [if_neg hc, hr]
    rw [Int32.lt_iff_toInt_lt, hq] at hc
    have : i.toInt = Qq := by omega
    rw [this]
    split <;> omega
theorem own_one_rem (a d : Int32) (hd : 0 < d.toInt) : 0 < ((1 : Int32) + ((a &&& (2147483647 : Int32)) % d)).toInt ∧ ((1 : Int32) + ((a &&& (2147483647 : Int32)) % d)).toInt ≤ d.toInt := by
  have h1 := own_mask31 a
  have h2 := own_rem (a &&& (2147483647 : Int32)) d h1.1 hd
  have e1 : (1 : Int32).toInt = 1 := rfl
  have rd := own_rangeI d
  rw [own_i32_add _ _ (by omega) (by omega)]
  omega
theorem own_facts (bs full tail : Int32) (v9 : Int32) (hv9 : v9 = ((1 : Int32) + ((bs &&& (2147483647 : Int32)) % (2147483647 : Int32)))) (v18 : Int32) (hv18 : v18 = ((full &&& (2147483647 : Int32)) % (2147483647 : Int32))) (v29 : Int32) (hv29 : v29 = ((1 : Int32) + ((tail &&& (2147483647 : Int32)) % v9))) :
    0 < v9.toInt ∧ 0 ≤ v18.toInt ∧ 0 < v29.toInt ∧ v29.toInt ≤ v9.toInt := by
  have h1 := own_one_rem bs (2147483647 : Int32) (by decide)
  rw [← hv9] at h1
  have h2 := own_rem (full &&& (2147483647 : Int32)) (2147483647 : Int32) (own_mask31 full).1 (by decide)
  rw [← hv18] at h2
  have h3 := own_one_rem tail v9 h1.1
  rw [← hv29] at h3
  omega
theorem own_q1 (v18 : Int32) (h : 0 ≤ v18.toInt) : ((v18.toInt64) + (1 : Int64)).toInt = v18.toInt + 1 := by
  have r := own_rangeI v18
  have e := own_i2l v18
  have t : (1 : Int64).toInt = 1 := rfl
  rw [own_i64_add _ _ (by omega) (by omega), e, t]
theorem own_idx (idx v18 : Int32) (h : 0 ≤ v18.toInt) : 0 ≤ (((idx &&& (2147483647 : Int32)).toInt64 % ((v18.toInt64) + (1 : Int64))).toInt32).toInt ∧ (((idx &&& (2147483647 : Int32)).toInt64 % ((v18.toInt64) + (1 : Int64))).toInt32).toInt ≤ v18.toInt := by
  have hq := own_q1 v18 h
  have hm := own_mask31 idx
  have e := own_i2l (idx &&& (2147483647 : Int32))
  have r := own_rangeI v18
  have hr := own_remL ((idx &&& (2147483647 : Int32)).toInt64) ((v18.toInt64) + (1 : Int64)) (by omega) (by omega)
  rw [own_l2i _ (by omega) (by omega)]
  omega
theorem d2_0 : decode jdk_29_method_70_code 0 = .ok (.lload_n 0, 1) := by decide +kernel
theorem d2_1 : decode jdk_29_method_70_code 1 = .ok (.lload_n 2, 1) := by decide +kernel
theorem d2_2 : decode jdk_29_method_70_code 2 = .ok (.lcmp, 1) := by decide +kernel
theorem d2_3 : decode jdk_29_method_70_code 3 = .ok (.ifCond .gt 7, 3) := by decide +kernel
theorem d2_6 : decode jdk_29_method_70_code 6 = .ok (.lload_n 0, 1) := by decide +kernel
theorem d2_7 : decode jdk_29_method_70_code 7 = .ok (.goto 4, 3) := by decide +kernel
theorem d2_10 : decode jdk_29_method_70_code 10 = .ok (.lload_n 2, 1) := by decide +kernel
theorem d2_11 : decode jdk_29_method_70_code 11 = .ok (.lreturn, 1) := by decide +kernel
theorem ef_2 (m : MethodId) (x0 : Int64) (x1 : Int64) : entryFrame m #[(.long x0), (.long x1)] 4 = mkF m 0 #[.val (.long x0), .second, .val (.long x1), .second] [] := by first | (simp [entryFrame, mkF, argsToLocals, Value.category]; done) | rfl
def Q2 (Z : State) (x1 : Int64) (x2 : Int64) (h0 : Heap) (n0 : Nat) (v : Option Value) (h : Heap) (L : List Loc) : Prop := v = some (.long (own_min x1 x2)) ∧ Fr n0 L ∧ h = h0
set_option maxRecDepth 65536 in
set_option maxHeartbeats 40000000 in
theorem rm2 (l : Launch) (Z : State) (a0 : Array Value) (hw : ∀ d ∈ tables_1, d.before a0 Z = true) (ws : List Jvm.Cond) (x1 : Int64) (x2 : Int64) (h0 : Heap) (n0 : Nat) (Z0 : n0 ≤ h0.size)  :
    MetFree l (⟨"java/lang/Math", "min", "(JJ)J"⟩ : MethodName) (head1 (Jvm.Cond.code (⟨"java/lang/Math", "min", "(JJ)J"⟩ : MethodName) jdk_29_method_70_code 4 (some .long) :: ws) ({ frames := 0, cells := 0, slots := 0, locals := 0 } : Room)) (fun a U => a = #[(.long x1), (.long x2)] ∧ Z.Warmed39 U.vm ∧ U.heap = h0) (fun _ _ _ _ _ => True) (fun _ U o U' => ∃ v L, o = .returned v ∧ Q2 Z x1 x2 h0 n0 v U'.heap L ∧ FrameEnd U o U' L ({ frames := 0, cells := 0, slots := 0, locals := 0 } : Room).cells ({ frames := 0, cells := 0, slots := 0, locals := 0 } : Room).slots) := by
  refine MetFree.of_bodySF (Jvm.Free.JP.mathPlain rfl (by decide +kernel)) hisR ?_
  intro p e s m args below meth c s₁ Bd hml0 hP hK
  obtain ⟨rfl, hZ, hh⟩ := hP
  have hx := Bd.exec
  have hby := Bd.bytes
  have hml : c.maxLocals = 4 := hml0
  have hown : s.vm.findClass "java/lang/Math" = some m.cls := findClass_of_methodNamed Bd.named
  have hnm := (name_of_methodNamed Bd.named Bd.method).1
  have X0 : Stand p l e ({ frames := 0, cells := 0, slots := 0, locals := 0 } : Room) s m #[(.long x1), (.long x2)] below meth c s₁ [] 0 0 := Stand.of_body Bd
  have e0 : s₁.heap = h0 := by rw [← hh, Bd.state]; rfl
  have N0 := Fr.nil n0
  have K0 : Keep h0 h0 [] := Keep.refl h0 _
  have pre0 : ∀ tq, Steps p.tables e below (s₁.setTop (mkF m 0 #[.val (.long x1), .second, .val (.long x2), .second] [])) tq → Steps p.tables e below (s₁.setTop (entryFrame m #[(.long x1), (.long x2)] 4)) tq := fun tq kq => castTop (ef_2 m x1 x2) kq
  obtain ⟨m11, hm11⟩ : ∃ z_q : Int64, z_q = (if x2 < x1 then x2 else x1) := ⟨_, rfl⟩
  have pre2 : ∀ tq, Steps p.tables e below (s₁.setTop (mkF m 11 #[.val (.long x1), .second, .val (.long x2), .second] [(.long m11)])) tq → Steps p.tables e below (s₁.setTop (entryFrame m #[(.long x1), (.long x2)] 4)) tq := by
    intro tq kt
    refine pre0 _ ?_
    show Steps p.tables e below (s₁.setTop (mkF m 0 #[.val (.long x1), .second, .val (.long x2), .second] [])) _
    refine XS.lloadN X0.here hx rfl (hb hby d2_0) rfl ?_
    show Steps p.tables e below (s₁.setTop (mkF m 1 #[.val (.long x1), .second, .val (.long x2), .second] [(.long x1)])) _
    refine XS.lloadN X0.here hx rfl (hb hby d2_1) rfl ?_
    show Steps p.tables e below (s₁.setTop (mkF m 2 #[.val (.long x1), .second, .val (.long x2), .second] [(.long x2), (.long x1)])) _
    refine XS.lcmp X0.here hx rfl (hb hby d2_2) rfl ?_
    by_cases d1 : x2 < x1
    · skip
      show Steps p.tables e below (s₁.setTop (mkF m 3 #[.val (.long x1), .second, .val (.long x2), .second] [(.int (lcmpW x1 x2))])) _
      refine XS.ifYes X0.here hx rfl (pc0 := 3) (pc' := 10) rfl (hb hby d2_3) rfl ((if0 _ _).trans (tlt ((lw_gt x1 x2).2 d1)).2.2.1) (by decide) (by decide) ?_
      show Steps p.tables e below (s₁.setTop (mkF m 10 #[.val (.long x1), .second, .val (.long x2), .second] [])) _
      refine XS.lloadN X0.here hx rfl (hb hby d2_10) rfl ?_
      show Steps p.tables e below (s₁.setTop (mkF m 11 #[.val (.long x1), .second, .val (.long x2), .second] [(.long x2)])) _
      exact castTop (by simp only [hm11, if_pos d1]) kt
    · skip
      show Steps p.tables e below (s₁.setTop (mkF m 3 #[.val (.long x1), .second, .val (.long x2), .second] [(.int (lcmpW x1 x2))])) _
      refine XS.ifNo X0.here hx rfl (hb hby d2_3) rfl ((if0 _ _).trans (flt (mt (lw_gt x1 x2).1 d1)).2.2.1) ?_
      show Steps p.tables e below (s₁.setTop (mkF m 6 #[.val (.long x1), .second, .val (.long x2), .second] [])) _
      refine XS.lloadN X0.here hx rfl (hb hby d2_6) rfl ?_
      show Steps p.tables e below (s₁.setTop (mkF m 7 #[.val (.long x1), .second, .val (.long x2), .second] [(.long x1)])) _
      refine XS.goto X0.here hx rfl (pc0 := 7) (pc' := 11) rfl (hb hby d2_7) (by decide) (by decide) ?_
      show Steps p.tables e below (s₁.setTop (mkF m 11 #[.val (.long x1), .second, .val (.long x2), .second] [(.long x1)])) _
      exact castTop (by simp only [hm11, if_neg d1]) kt
  obtain ⟨fs, hr, hrun, hended, hW, hsame⟩ := X0.leave (v := some (Value.long m11)) (fun h => by rw [Bd.returns] at h; cases h)
  have hres3 : m11 = (own_min x1 x2) := by subst_vars; rfl
  refine ⟨_, _, pre2 _ ?_, hrun, hended, _, _, rfl, ?_, ⟨_, rfl⟩, hW, hsame.mono (by decide) (by decide)⟩
  · skip
    show Steps p.tables e below (s₁.setTop (mkF m 11 #[.val (.long x1), .second, .val (.long x2), .second] [(.long m11)])) _
    exact retOut X0 hx Bd.returns rfl (Or.inr (Or.inl ⟨rfl, rfl, _, rfl⟩)) (hb hby d2_11) hr
  · show Q2 Z x1 x2 h0 n0 _ s₁.heap _
    rw [e0]
    exact ⟨congrArg (fun z => some (Value.long z)) hres3, N0, rfl⟩
theorem d1_0 : decode prog_39_method_6_code 0 = .ok (.iload_n 2, 1) := by decide +kernel
theorem d1_1 : decode prog_39_method_6_code 1 = .ok (.i2l, 1) := by decide +kernel
theorem d1_2 : decode prog_39_method_6_code 2 = .ok (.lload_n 0, 1) := by decide +kernel
theorem d1_3 : decode prog_39_method_6_code 3 = .ok (.iload_n 3, 1) := by decide +kernel
theorem d1_4 : decode prog_39_method_6_code 4 = .ok (.i2l, 1) := by decide +kernel
theorem d1_5 : decode prog_39_method_6_code 5 = .ok (.iload_n 2, 1) := by decide +kernel
theorem d1_6 : decode prog_39_method_6_code 6 = .ok (.i2l, 1) := by decide +kernel
theorem d1_7 : decode prog_39_method_6_code 7 = .ok (.lmul, 1) := by decide +kernel
theorem d1_8 : decode prog_39_method_6_code 8 = .ok (.lsub, 1) := by decide +kernel
theorem d1_9 : decode prog_39_method_6_code 9 = .ok (.invokestatic 53, 3) := by decide +kernel
theorem d1_12 : decode prog_39_method_6_code 12 = .ok (.l2i, 1) := by decide +kernel
theorem d1_13 : decode prog_39_method_6_code 13 = .ok (.ireturn, 1) := by decide +kernel
theorem pn_1 : plainName "com/example/talence/talence/model/ObjectLayout" = true := by first | (simp [plainName, overriddenIn]; done) | decide +kernel
theorem pd_0 : parseMethodDescriptor "(JJ)J" = some ⟨[.long, .long], some .long⟩ := by decide +kernel
theorem ef_1 (m : MethodId) (x0 : Int64) (x1 : Int32) (x2 : Int32) : entryFrame m #[(.long x0), (.int x1), (.int x2)] 4 = mkF m 0 #[.val (.long x0), .second, .val (.int x1), .val (.int x2)] [] := by first | (simp [entryFrame, mkF, argsToLocals, Value.category]; done) | rfl
def Q1 (Z : State) (z : Int64) (b : Int32) (i : Int32) (h0 : Heap) (n0 : Nat) (v : Option Value) (h : Heap) (L : List Loc) : Prop := v = some (.int (own_bl z b i)) ∧ Fr n0 L ∧ h = h0
set_option maxRecDepth 65536 in
set_option maxHeartbeats 40000000 in
theorem rm1 (l : Launch) (Z : State) (a0 : Array Value) (hw : ∀ d ∈ tables_1, d.before a0 Z = true) (ws : List Jvm.Cond) (z : Int64) (b : Int32) (i : Int32) (h0 : Heap) (n0 : Nat) (Z0 : n0 ≤ h0.size)  :
    MetFree l (⟨"com/example/talence/talence/model/ObjectLayout", "blockLength", "(JII)I"⟩ : MethodName) (head1 (Jvm.Cond.code (⟨"com/example/talence/talence/model/ObjectLayout", "blockLength", "(JII)I"⟩ : MethodName) prog_39_method_6_code 4 (some .int) :: ws) ({ frames := 1, cells := 0, slots := 0, locals := 15 } : Room)) (fun a U => a = #[(.long z), (.int b), (.int i)] ∧ Z.Warmed39 U.vm ∧ U.heap = h0) (fun _ _ _ _ _ => True) (fun _ U o U' => ∃ v L, o = .returned v ∧ Q1 Z z b i h0 n0 v U'.heap L ∧ FrameEnd U o U' L ({ frames := 1, cells := 0, slots := 0, locals := 15 } : Room).cells ({ frames := 1, cells := 0, slots := 0, locals := 15 } : Room).slots) := by
  refine MetFree.of_bodySF (plainFor_of_name pn_1) hisR ?_
  intro p e s m args below meth c s₁ Bd hml0 hP hK
  obtain ⟨rfl, hZ, hh⟩ := hP
  have hx := Bd.exec
  have hby := Bd.bytes
  have hml : c.maxLocals = 4 := hml0
  have hown : s.vm.findClass "com/example/talence/talence/model/ObjectLayout" = some m.cls := findClass_of_methodNamed Bd.named
  have hnm := (name_of_methodNamed Bd.named Bd.method).1
  have X0 : Stand p l e ({ frames := 1, cells := 0, slots := 0, locals := 15 } : Room) s m #[(.long z), (.int b), (.int i)] below meth c s₁ [] 0 0 := Stand.of_body Bd
  have e0 : s₁.heap = h0 := by rw [← hh, Bd.state]; rfl
  have N0 := Fr.nil n0
  have K0 : Keep h0 h0 [] := Keep.refl h0 _
  have pre0 : ∀ tq, Steps p.tables e below (s₁.setTop (mkF m 0 #[.val (.long z), .second, .val (.int b), .val (.int i)] [])) tq → Steps p.tables e below (s₁.setTop (entryFrame m #[(.long z), (.int b), (.int i)] 4)) tq := fun tq kq => castTop (ef_1 m z b i) kq
  obtain ⟨_, _, ⟨T1, L1, k1, n1⟩, -, X1, ⟨Lc1, hQ1, l1, y1, z1⟩, st1⟩ := Jvm.LawKit.callS X0 hx (y := (⟨"java/lang/Math", "min", "(JJ)J"⟩ : MethodName)) hown (mvT hZ (hw _ (List.mem_of_getElem? (i := 5) rfl))) (mvT hZ (hw _ (List.mem_of_getElem? (i := 6) rfl))) (mvT hZ (hw _ (List.mem_of_getElem? (i := 7) rfl))) (mvT hZ (hw _ (List.mem_of_getElem? (i := 8) rfl))) (by decide) (backOf (W := 0) (rm2 l Z a0 hw [] (b.toInt64) (z - ((i.toInt64) * (b.toInt64))) h0 n0 Z0 ) hZ (hw _ (List.mem_of_getElem? (i := 8) rfl)) (hw _ (List.mem_of_getElem? (i := 7) rfl)) (by decide) (by decide)) (g := (mkF m 9 #[.val (.long z), .second, .val (.int b), .val (.int i)] [(.long (z - ((i.toInt64) * (b.toInt64)))), (.long (b.toInt64))])) rfl (by rw [hml]; rfl) (argsL := [(.long (b.toInt64)), (.long (z - ((i.toInt64) * (b.toInt64))))]) (rest := []) (lenOf pd_0 rfl) rfl (by show 2 * 0 + _ ≤ _; exact Nat.le_of_eq rfl) (hb hby d1_9) (fun _ _ => ⟨rfl, e0, (by decide : 0 + 0 ≤ _), (by decide : 0 + 0 ≤ _)⟩)
  dsimp only [Pt.U, Pt.locs, Pt.cells, Pt.slots] at X1 l1 y1 z1 st1 hQ1
  subst l1 y1 z1
  obtain ⟨rfl, N1q, e1⟩ := hQ1
  have N1 := Fr.app N0 N1q
  obtain ⟨r9, hr9⟩ : ∃ z_q : Int64, z_q = (own_min (b.toInt64) (z - ((i.toInt64) * (b.toInt64)))) := ⟨_, rfl⟩
  obtain ⟨fs, hr, hrun, hended, hW, hsame⟩ := X1.leave (v := some (Value.int (r9.toInt32))) (fun h => by rw [Bd.returns] at h; cases h)
  have hres2 : (r9.toInt32) = (own_bl z b i) := by subst_vars; rfl
  refine ⟨_, _, pre0 _ ?_, hrun, hended, _, _, rfl, ?_, ⟨_, rfl⟩, hW, hsame.mono (by decide) (by decide)⟩
  · skip
    show Steps p.tables e below (s₁.setTop (mkF m 0 #[.val (.long z), .second, .val (.int b), .val (.int i)] [])) _
    refine XS.iloadN X0.here hx rfl (hb hby d1_0) rfl ?_
    show Steps p.tables e below (s₁.setTop (mkF m 1 #[.val (.long z), .second, .val (.int b), .val (.int i)] [(.int b)])) _
    refine XS.i2l X0.here hx rfl (hb hby d1_1) rfl ?_
    show Steps p.tables e below (s₁.setTop (mkF m 2 #[.val (.long z), .second, .val (.int b), .val (.int i)] [(.long (b.toInt64))])) _
    refine XS.lloadN X0.here hx rfl (hb hby d1_2) rfl ?_
    show Steps p.tables e below (s₁.setTop (mkF m 3 #[.val (.long z), .second, .val (.int b), .val (.int i)] [(.long z), (.long (b.toInt64))])) _
    refine XS.iloadN X0.here hx rfl (hb hby d1_3) rfl ?_
    show Steps p.tables e below (s₁.setTop (mkF m 4 #[.val (.long z), .second, .val (.int b), .val (.int i)] [(.int i), (.long z), (.long (b.toInt64))])) _
    refine XS.i2l X0.here hx rfl (hb hby d1_4) rfl ?_
    show Steps p.tables e below (s₁.setTop (mkF m 5 #[.val (.long z), .second, .val (.int b), .val (.int i)] [(.long (i.toInt64)), (.long z), (.long (b.toInt64))])) _
    refine XS.iloadN X0.here hx rfl (hb hby d1_5) rfl ?_
    show Steps p.tables e below (s₁.setTop (mkF m 6 #[.val (.long z), .second, .val (.int b), .val (.int i)] [(.int b), (.long (i.toInt64)), (.long z), (.long (b.toInt64))])) _
    refine XS.i2l X0.here hx rfl (hb hby d1_6) rfl ?_
    show Steps p.tables e below (s₁.setTop (mkF m 7 #[.val (.long z), .second, .val (.int b), .val (.int i)] [(.long (b.toInt64)), (.long (i.toInt64)), (.long z), (.long (b.toInt64))])) _
    refine XS.lmul X0.here hx rfl (hb hby d1_7) rfl ?_
    show Steps p.tables e below (s₁.setTop (mkF m 8 #[.val (.long z), .second, .val (.int b), .val (.int i)] [(.long ((i.toInt64) * (b.toInt64))), (.long z), (.long (b.toInt64))])) _
    refine XS.lsub X0.here hx rfl (hb hby d1_8) rfl ?_
    show Steps p.tables e below (s₁.setTop (mkF m 9 #[.val (.long z), .second, .val (.int b), .val (.int i)] [(.long (z - ((i.toInt64) * (b.toInt64)))), (.long (b.toInt64))])) _
    refine st1 _ ?_
    show Steps p.tables e below (T1.setTop (mkF m 12 #[.val (.long z), .second, .val (.int b), .val (.int i)] [(.long (own_min (b.toInt64) (z - ((i.toInt64) * (b.toInt64)))))])) _
    rw [← hr9]
    show Steps p.tables e below (T1.setTop (mkF m 12 #[.val (.long z), .second, .val (.int b), .val (.int i)] [(.long r9)])) _
    refine XS.l2i X1.here hx rfl (hb hby d1_12) rfl ?_
    show Steps p.tables e below (T1.setTop (mkF m 13 #[.val (.long z), .second, .val (.int b), .val (.int i)] [(.int (r9.toInt32))])) _
    exact retI X1 hx Bd.returns (hb hby d1_13) hr
  · show Q1 Z z b i h0 n0 _ T1.heap _
    rw [e1]
    exact ⟨congrArg (fun z => some (Value.int z)) hres2, N1, rfl⟩
theorem pn_0 : plainName "com/example/talence/talence/model/ObjectLayoutBlockLengthPinLaw" = true := by first | (simp [plainName, overriddenIn]; done) | decide +kernel
theorem pd_1 : parseMethodDescriptor "(JII)I" = some ⟨[.long, .int, .int], some .int⟩ := by decide +kernel
theorem ef_0 (m : MethodId) (x0 : Int32) (x1 : Int32) (x2 : Int32) (x3 : Int32) (x4 : Int32) : entryFrame m #[(.int x0), (.int x1), (.int x2), (.int x3), (.int x4)] maxLocals = mkF m 0 #[.val (.int x0), .val (.int x1), .val (.int x2), .val (.int x3), .val (.int x4), .unset, .unset, .unset, .unset, .unset, .unset, .unset] [] := by first | (simp [entryFrame, mkF, argsToLocals, Value.category, maxLocals]; done) | rfl
theorem own_side_0_27 (bs : Int32) (full : Int32) (tail : Int32) (idx : Int32) (pick : Int32) (v9 : Int32) (hv9 : v9 = ((1 : Int32) + ((bs &&& (2147483647 : Int32)) % (2147483647 : Int32)))) (v18 : Int32) (hv18 : v18 = ((full &&& (2147483647 : Int32)) % (2147483647 : Int32))) : ¬ (v9 = (0 : Int32)) := by
  have h1 := own_one_rem bs (2147483647 : Int32) (by decide)
  rw [← hv9] at h1
  intro q
  rw [q] at h1
  have t : (0 : Int32).toInt = 0 := rfl
  omega
theorem own_side_0_68_t (bs : Int32) (full : Int32) (tail : Int32) (idx : Int32) (pick : Int32) (v9 : Int32) (hv9 : v9 = ((1 : Int32) + ((bs &&& (2147483647 : Int32)) % (2147483647 : Int32)))) (v18 : Int32) (hv18 : v18 = ((full &&& (2147483647 : Int32)) % (2147483647 : Int32))) (v29 : Int32) (hv29 : v29 = ((1 : Int32) + ((tail &&& (2147483647 : Int32)) % v9))) (v42 : Int64) (hv42 : v42 = (((v18.toInt64) * (v9.toInt64)) + (v29.toInt64))) (hc48_3 : (pick &&& (1 : Int32)) = (0 : Int32)) : ¬ (((v18.toInt64) + (1 : Int64)) = (0 : Int64)) := by
  obtain ⟨f1, f2, f3, f4⟩ := own_facts bs full tail v9 hv9 v18 hv18 v29 hv29
  have h := own_q1 v18 f2
  intro q
  rw [q] at h
  have t : (0 : Int64).toInt = 0 := rfl
  omega
theorem own_leaf_0_109_t (bs : Int32) (full : Int32) (tail : Int32) (idx : Int32) (pick : Int32) (v9 : Int32) (hv9 : v9 = ((1 : Int32) + ((bs &&& (2147483647 : Int32)) % (2147483647 : Int32)))) (v18 : Int32) (hv18 : v18 = ((full &&& (2147483647 : Int32)) % (2147483647 : Int32))) (v29 : Int32) (hv29 : v29 = ((1 : Int32) + ((tail &&& (2147483647 : Int32)) % v9))) (v42 : Int64) (hv42 : v42 = (((v18.toInt64) * (v9.toInt64)) + (v29.toInt64))) (hc48_3 : (pick &&& (1 : Int32)) = (0 : Int32)) (v70 : Int32) (hv70 : v70 = ((((idx &&& (2147483647 : Int32)).toInt64) % ((v18.toInt64) + (1 : Int64))).toInt32)) (m90_l11 : Int32) (hm90_l11 : m90_l11 = (if v70 < v18 then v9 else v29)) (r96 : Int32) (hr96 : r96 = (own_bl v42 v9 v70)) (m109 : Int32) (hm109 : m109 = (if r96 = m90_l11 then (1 : Int32) else (0 : Int32))) : (nar .boolean m109) = (1 : Int32) := by
  obtain ⟨f1, f2, f3, f4⟩ := own_facts bs full tail v9 hv9 v18 hv18 v29 hv29
  have hi := own_idx idx v18 f2
  rw [← hv70] at hi
  have h := own_core v9 v18 v29 v42 _ _ _ rfl rfl rfl f1 f2 f3 f4 hv42 v70 hi.1 hi.2
  rw [hm109, hr96, h, ← hm90_l11, if_pos rfl]; rfl
theorem own_leaf_0_109_f (bs : Int32) (full : Int32) (tail : Int32) (idx : Int32) (pick : Int32) (v9 : Int32) (hv9 : v9 = ((1 : Int32) + ((bs &&& (2147483647 : Int32)) % (2147483647 : Int32)))) (v18 : Int32) (hv18 : v18 = ((full &&& (2147483647 : Int32)) % (2147483647 : Int32))) (v29 : Int32) (hv29 : v29 = ((1 : Int32) + ((tail &&& (2147483647 : Int32)) % v9))) (v42 : Int64) (hv42 : v42 = (((v18.toInt64) * (v9.toInt64)) + (v29.toInt64))) (hc48_3 : ¬ ((pick &&& (1 : Int32)) = (0 : Int32))) (m90_l11 : Int32) (hm90_l11 : m90_l11 = (if v18 < v18 then v9 else v29)) (r96 : Int32) (hr96 : r96 = (own_bl v42 v9 v18)) (m109 : Int32) (hm109 : m109 = (if r96 = m90_l11 then (1 : Int32) else (0 : Int32))) : (nar .boolean m109) = (1 : Int32) := by
  obtain ⟨f1, f2, f3, f4⟩ := own_facts bs full tail v9 hv9 v18 hv18 v29 hv29
  have h := own_core v9 v18 v29 v42 _ _ _ rfl rfl rfl f1 f2 f3 f4 hv42 v18 f2 (Int.le_refl _)
  rw [hm109, hr96, h, ← hm90_l11, if_pos rfl]; rfl
def Q0 (Z : State) (bs : Int32) (full : Int32) (tail : Int32) (idx : Int32) (pick : Int32) (h0 : Heap) (n0 : Nat) (v : Option Value) (h : Heap) (L : List Loc) : Prop := v = some (.int (1 : Int32)) ∧ Fr n0 L
set_option maxRecDepth 65536 in
set_option maxHeartbeats 40000000 in
theorem rm0 (l : Launch) (Z : State) (a0 : Array Value) (hw : ∀ d ∈ tables_1, d.before a0 Z = true) (ws : List Jvm.Cond) (bs : Int32) (full : Int32) (tail : Int32) (idx : Int32) (pick : Int32) (h0 : Heap) (n0 : Nat) (Z0 : n0 ≤ h0.size)  :
    MetFree l x (head1 (Jvm.Cond.code x code maxLocals ret :: ws) room_1) (fun a U => a = #[(.int bs), (.int full), (.int tail), (.int idx), (.int pick)] ∧ Z.Warmed39 U.vm ∧ U.heap = h0) (fun _ _ _ _ _ => True) (fun _ U o U' => ∃ v L, o = .returned v ∧ Q0 Z bs full tail idx pick h0 n0 v U'.heap L ∧ FrameEnd U o U' L room_1.cells room_1.slots) := by
  refine MetFree.of_bodySF (plainFor_of_name pn_0) hisR ?_
  intro p e s m args below meth c s₁ Bd hml0 hP hK
  obtain ⟨rfl, hZ, hh⟩ := hP
  have hx := Bd.exec
  have hby := Bd.bytes
  have hml : c.maxLocals = 12 := hml0
  have hown : s.vm.findClass "com/example/talence/talence/model/ObjectLayoutBlockLengthPinLaw" = some m.cls := findClass_of_methodNamed Bd.named
  have hnm := (name_of_methodNamed Bd.named Bd.method).1
  have X0 : Stand p l e room_1 s m #[(.int bs), (.int full), (.int tail), (.int idx), (.int pick)] below meth c s₁ [] 0 0 := Stand.of_body Bd
  have e0 : s₁.heap = h0 := by rw [← hh, Bd.state]; rfl
  have N0 := Fr.nil n0
  have K0 : Keep h0 h0 [] := Keep.refl h0 _
  have pre0 : ∀ tq, Steps p.tables e below (s₁.setTop (mkF m 0 #[.val (.int bs), .val (.int full), .val (.int tail), .val (.int idx), .val (.int pick), .unset, .unset, .unset, .unset, .unset, .unset, .unset] [])) tq → Steps p.tables e below (s₁.setTop (entryFrame m #[(.int bs), (.int full), (.int tail), (.int idx), (.int pick)] maxLocals)) tq := fun tq kq => castTop (ef_0 m bs full tail idx pick) kq
  obtain ⟨v9, hv9⟩ : ∃ z_q : Int32, z_q = ((1 : Int32) + ((bs &&& (2147483647 : Int32)) % (2147483647 : Int32))) := ⟨_, rfl⟩
  obtain ⟨v18, hv18⟩ : ∃ z_q : Int32, z_q = ((full &&& (2147483647 : Int32)) % (2147483647 : Int32)) := ⟨_, rfl⟩
  have hnz27_1 : ¬ (v9 = (0 : Int32)) := (own_side_0_27 bs full tail idx pick v9 hv9 v18 hv18)
  obtain ⟨v29, hv29⟩ : ∃ z_q : Int32, z_q = ((1 : Int32) + ((tail &&& (2147483647 : Int32)) % v9)) := ⟨_, rfl⟩
  obtain ⟨v42, hv42⟩ : ∃ z_q : Int64, z_q = (((v18.toInt64) * (v9.toInt64)) + (v29.toInt64)) := ⟨_, rfl⟩
  have pre2 : ∀ tq, Steps p.tables e below (s₁.setTop (mkF m 48 #[.val (.int bs), .val (.int full), .val (.int tail), .val (.int idx), .val (.int pick), .val (.int v9), .val (.int v18), .val (.int v29), .val (.long v42), .second, .unset, .unset] [(.int (pick &&& (1 : Int32)))])) tq → Steps p.tables e below (s₁.setTop (entryFrame m #[(.int bs), (.int full), (.int tail), (.int idx), (.int pick)] maxLocals)) tq := by
    intro tq kt
    refine pre0 _ ?_
    show Steps p.tables e below (s₁.setTop (mkF m 0 #[.val (.int bs), .val (.int full), .val (.int tail), .val (.int idx), .val (.int pick), .unset, .unset, .unset, .unset, .unset, .unset, .unset] [])) _
    refine XS.iconst X0.here hx rfl (hb hby at_0) ?_
    show Steps p.tables e below (s₁.setTop (mkF m 1 #[.val (.int bs), .val (.int full), .val (.int tail), .val (.int idx), .val (.int pick), .unset, .unset, .unset, .unset, .unset, .unset, .unset] [(.int (1 : Int32))])) _
    refine XS.iloadN X0.here hx rfl (hb hby at_1) rfl ?_
    show Steps p.tables e below (s₁.setTop (mkF m 2 #[.val (.int bs), .val (.int full), .val (.int tail), .val (.int idx), .val (.int pick), .unset, .unset, .unset, .unset, .unset, .unset, .unset] [(.int bs), (.int (1 : Int32))])) _
    refine X0.ldcInt hx hown (mvT hZ (hw _ (List.mem_of_getElem? (i := 0) rfl))) (g := (mkF m 2 #[.val (.int bs), .val (.int full), .val (.int tail), .val (.int idx), .val (.int pick), .unset, .unset, .unset, .unset, .unset, .unset, .unset] [(.int bs), (.int (1 : Int32))])) rfl (hb hby at_2) _ ?_
    show Steps p.tables e below (s₁.setTop (mkF m 4 #[.val (.int bs), .val (.int full), .val (.int tail), .val (.int idx), .val (.int pick), .unset, .unset, .unset, .unset, .unset, .unset, .unset] [(.int (2147483647 : Int32)), (.int bs), (.int (1 : Int32))])) _
    refine XS.iand X0.here hx rfl (hb hby at_4) rfl ?_
    show Steps p.tables e below (s₁.setTop (mkF m 5 #[.val (.int bs), .val (.int full), .val (.int tail), .val (.int idx), .val (.int pick), .unset, .unset, .unset, .unset, .unset, .unset, .unset] [(.int (bs &&& (2147483647 : Int32))), (.int (1 : Int32))])) _
    refine X0.ldcInt hx hown (mvT hZ (hw _ (List.mem_of_getElem? (i := 0) rfl))) (g := (mkF m 5 #[.val (.int bs), .val (.int full), .val (.int tail), .val (.int idx), .val (.int pick), .unset, .unset, .unset, .unset, .unset, .unset, .unset] [(.int (bs &&& (2147483647 : Int32))), (.int (1 : Int32))])) rfl (hb hby at_5) _ ?_
    show Steps p.tables e below (s₁.setTop (mkF m 7 #[.val (.int bs), .val (.int full), .val (.int tail), .val (.int idx), .val (.int pick), .unset, .unset, .unset, .unset, .unset, .unset, .unset] [(.int (2147483647 : Int32)), (.int (bs &&& (2147483647 : Int32))), (.int (1 : Int32))])) _
    refine iremM X0 hx rfl (hb hby at_7) rfl (by decide : ¬ ((2147483647 : Int32) = (0 : Int32))) ?_
    show Steps p.tables e below (s₁.setTop (mkF m 8 #[.val (.int bs), .val (.int full), .val (.int tail), .val (.int idx), .val (.int pick), .unset, .unset, .unset, .unset, .unset, .unset, .unset] [(.int ((bs &&& (2147483647 : Int32)) % (2147483647 : Int32))), (.int (1 : Int32))])) _
    refine XS.iadd X0.here hx rfl (hb hby at_8) rfl ?_
    show Steps p.tables e below (s₁.setTop (mkF m 9 #[.val (.int bs), .val (.int full), .val (.int tail), .val (.int idx), .val (.int pick), .unset, .unset, .unset, .unset, .unset, .unset, .unset] [(.int ((1 : Int32) + ((bs &&& (2147483647 : Int32)) % (2147483647 : Int32))))])) _
    refine XS.istore X0.here hx rfl (hb hby at_9) rfl (l' := #[.val (.int bs), .val (.int full), .val (.int tail), .val (.int idx), .val (.int pick), .val (.int v9), .unset, .unset, .unset, .unset, .unset, .unset]) (by rw [hv9]; rfl) ?_
    show Steps p.tables e below (s₁.setTop (mkF m 11 #[.val (.int bs), .val (.int full), .val (.int tail), .val (.int idx), .val (.int pick), .val (.int v9), .unset, .unset, .unset, .unset, .unset, .unset] [])) _
    refine XS.iloadN X0.here hx rfl (hb hby at_11) rfl ?_
    show Steps p.tables e below (s₁.setTop (mkF m 12 #[.val (.int bs), .val (.int full), .val (.int tail), .val (.int idx), .val (.int pick), .val (.int v9), .unset, .unset, .unset, .unset, .unset, .unset] [(.int full)])) _
    refine X0.ldcInt hx hown (mvT hZ (hw _ (List.mem_of_getElem? (i := 0) rfl))) (g := (mkF m 12 #[.val (.int bs), .val (.int full), .val (.int tail), .val (.int idx), .val (.int pick), .val (.int v9), .unset, .unset, .unset, .unset, .unset, .unset] [(.int full)])) rfl (hb hby at_12) _ ?_
    show Steps p.tables e below (s₁.setTop (mkF m 14 #[.val (.int bs), .val (.int full), .val (.int tail), .val (.int idx), .val (.int pick), .val (.int v9), .unset, .unset, .unset, .unset, .unset, .unset] [(.int (2147483647 : Int32)), (.int full)])) _
    refine XS.iand X0.here hx rfl (hb hby at_14) rfl ?_
    show Steps p.tables e below (s₁.setTop (mkF m 15 #[.val (.int bs), .val (.int full), .val (.int tail), .val (.int idx), .val (.int pick), .val (.int v9), .unset, .unset, .unset, .unset, .unset, .unset] [(.int (full &&& (2147483647 : Int32)))])) _
    refine X0.ldcInt hx hown (mvT hZ (hw _ (List.mem_of_getElem? (i := 0) rfl))) (g := (mkF m 15 #[.val (.int bs), .val (.int full), .val (.int tail), .val (.int idx), .val (.int pick), .val (.int v9), .unset, .unset, .unset, .unset, .unset, .unset] [(.int (full &&& (2147483647 : Int32)))])) rfl (hb hby at_15) _ ?_
    show Steps p.tables e below (s₁.setTop (mkF m 17 #[.val (.int bs), .val (.int full), .val (.int tail), .val (.int idx), .val (.int pick), .val (.int v9), .unset, .unset, .unset, .unset, .unset, .unset] [(.int (2147483647 : Int32)), (.int (full &&& (2147483647 : Int32)))])) _
    refine iremM X0 hx rfl (hb hby at_17) rfl (by decide : ¬ ((2147483647 : Int32) = (0 : Int32))) ?_
    show Steps p.tables e below (s₁.setTop (mkF m 18 #[.val (.int bs), .val (.int full), .val (.int tail), .val (.int idx), .val (.int pick), .val (.int v9), .unset, .unset, .unset, .unset, .unset, .unset] [(.int ((full &&& (2147483647 : Int32)) % (2147483647 : Int32)))])) _
    refine XS.istore X0.here hx rfl (hb hby at_18) rfl (l' := #[.val (.int bs), .val (.int full), .val (.int tail), .val (.int idx), .val (.int pick), .val (.int v9), .val (.int v18), .unset, .unset, .unset, .unset, .unset]) (by rw [hv18]; rfl) ?_
    show Steps p.tables e below (s₁.setTop (mkF m 20 #[.val (.int bs), .val (.int full), .val (.int tail), .val (.int idx), .val (.int pick), .val (.int v9), .val (.int v18), .unset, .unset, .unset, .unset, .unset] [])) _
    refine XS.iconst X0.here hx rfl (hb hby at_20) ?_
    show Steps p.tables e below (s₁.setTop (mkF m 21 #[.val (.int bs), .val (.int full), .val (.int tail), .val (.int idx), .val (.int pick), .val (.int v9), .val (.int v18), .unset, .unset, .unset, .unset, .unset] [(.int (1 : Int32))])) _
    refine XS.iloadN X0.here hx rfl (hb hby at_21) rfl ?_
    show Steps p.tables e below (s₁.setTop (mkF m 22 #[.val (.int bs), .val (.int full), .val (.int tail), .val (.int idx), .val (.int pick), .val (.int v9), .val (.int v18), .unset, .unset, .unset, .unset, .unset] [(.int tail), (.int (1 : Int32))])) _
    refine X0.ldcInt hx hown (mvT hZ (hw _ (List.mem_of_getElem? (i := 0) rfl))) (g := (mkF m 22 #[.val (.int bs), .val (.int full), .val (.int tail), .val (.int idx), .val (.int pick), .val (.int v9), .val (.int v18), .unset, .unset, .unset, .unset, .unset] [(.int tail), (.int (1 : Int32))])) rfl (hb hby at_22) _ ?_
    show Steps p.tables e below (s₁.setTop (mkF m 24 #[.val (.int bs), .val (.int full), .val (.int tail), .val (.int idx), .val (.int pick), .val (.int v9), .val (.int v18), .unset, .unset, .unset, .unset, .unset] [(.int (2147483647 : Int32)), (.int tail), (.int (1 : Int32))])) _
    refine XS.iand X0.here hx rfl (hb hby at_24) rfl ?_
    show Steps p.tables e below (s₁.setTop (mkF m 25 #[.val (.int bs), .val (.int full), .val (.int tail), .val (.int idx), .val (.int pick), .val (.int v9), .val (.int v18), .unset, .unset, .unset, .unset, .unset] [(.int (tail &&& (2147483647 : Int32))), (.int (1 : Int32))])) _
    refine XS.iload X0.here hx rfl (hb hby at_25) rfl ?_
    show Steps p.tables e below (s₁.setTop (mkF m 27 #[.val (.int bs), .val (.int full), .val (.int tail), .val (.int idx), .val (.int pick), .val (.int v9), .val (.int v18), .unset, .unset, .unset, .unset, .unset] [(.int v9), (.int (tail &&& (2147483647 : Int32))), (.int (1 : Int32))])) _
    refine iremM X0 hx rfl (hb hby at_27) rfl hnz27_1 ?_
    show Steps p.tables e below (s₁.setTop (mkF m 28 #[.val (.int bs), .val (.int full), .val (.int tail), .val (.int idx), .val (.int pick), .val (.int v9), .val (.int v18), .unset, .unset, .unset, .unset, .unset] [(.int ((tail &&& (2147483647 : Int32)) % v9)), (.int (1 : Int32))])) _
    refine XS.iadd X0.here hx rfl (hb hby at_28) rfl ?_
    show Steps p.tables e below (s₁.setTop (mkF m 29 #[.val (.int bs), .val (.int full), .val (.int tail), .val (.int idx), .val (.int pick), .val (.int v9), .val (.int v18), .unset, .unset, .unset, .unset, .unset] [(.int ((1 : Int32) + ((tail &&& (2147483647 : Int32)) % v9)))])) _
    refine XS.istore X0.here hx rfl (hb hby at_29) rfl (l' := #[.val (.int bs), .val (.int full), .val (.int tail), .val (.int idx), .val (.int pick), .val (.int v9), .val (.int v18), .val (.int v29), .unset, .unset, .unset, .unset]) (by rw [hv29]; rfl) ?_
    show Steps p.tables e below (s₁.setTop (mkF m 31 #[.val (.int bs), .val (.int full), .val (.int tail), .val (.int idx), .val (.int pick), .val (.int v9), .val (.int v18), .val (.int v29), .unset, .unset, .unset, .unset] [])) _
    refine XS.iload X0.here hx rfl (hb hby at_31) rfl ?_
    show Steps p.tables e below (s₁.setTop (mkF m 33 #[.val (.int bs), .val (.int full), .val (.int tail), .val (.int idx), .val (.int pick), .val (.int v9), .val (.int v18), .val (.int v29), .unset, .unset, .unset, .unset] [(.int v18)])) _
    refine XS.i2l X0.here hx rfl (hb hby at_33) rfl ?_
    show Steps p.tables e below (s₁.setTop (mkF m 34 #[.val (.int bs), .val (.int full), .val (.int tail), .val (.int idx), .val (.int pick), .val (.int v9), .val (.int v18), .val (.int v29), .unset, .unset, .unset, .unset] [(.long (v18.toInt64))])) _
    refine XS.iload X0.here hx rfl (hb hby at_34) rfl ?_
    show Steps p.tables e below (s₁.setTop (mkF m 36 #[.val (.int bs), .val (.int full), .val (.int tail), .val (.int idx), .val (.int pick), .val (.int v9), .val (.int v18), .val (.int v29), .unset, .unset, .unset, .unset] [(.int v9), (.long (v18.toInt64))])) _
    refine XS.i2l X0.here hx rfl (hb hby at_36) rfl ?_
    show Steps p.tables e below (s₁.setTop (mkF m 37 #[.val (.int bs), .val (.int full), .val (.int tail), .val (.int idx), .val (.int pick), .val (.int v9), .val (.int v18), .val (.int v29), .unset, .unset, .unset, .unset] [(.long (v9.toInt64)), (.long (v18.toInt64))])) _
    refine XS.lmul X0.here hx rfl (hb hby at_37) rfl ?_
    show Steps p.tables e below (s₁.setTop (mkF m 38 #[.val (.int bs), .val (.int full), .val (.int tail), .val (.int idx), .val (.int pick), .val (.int v9), .val (.int v18), .val (.int v29), .unset, .unset, .unset, .unset] [(.long ((v18.toInt64) * (v9.toInt64)))])) _
    refine XS.iload X0.here hx rfl (hb hby at_38) rfl ?_
    show Steps p.tables e below (s₁.setTop (mkF m 40 #[.val (.int bs), .val (.int full), .val (.int tail), .val (.int idx), .val (.int pick), .val (.int v9), .val (.int v18), .val (.int v29), .unset, .unset, .unset, .unset] [(.int v29), (.long ((v18.toInt64) * (v9.toInt64)))])) _
    refine XS.i2l X0.here hx rfl (hb hby at_40) rfl ?_
    show Steps p.tables e below (s₁.setTop (mkF m 41 #[.val (.int bs), .val (.int full), .val (.int tail), .val (.int idx), .val (.int pick), .val (.int v9), .val (.int v18), .val (.int v29), .unset, .unset, .unset, .unset] [(.long (v29.toInt64)), (.long ((v18.toInt64) * (v9.toInt64)))])) _
    refine XS.ladd X0.here hx rfl (hb hby at_41) rfl ?_
    show Steps p.tables e below (s₁.setTop (mkF m 42 #[.val (.int bs), .val (.int full), .val (.int tail), .val (.int idx), .val (.int pick), .val (.int v9), .val (.int v18), .val (.int v29), .unset, .unset, .unset, .unset] [(.long (((v18.toInt64) * (v9.toInt64)) + (v29.toInt64)))])) _
    refine XS.lstore X0.here hx rfl (hb hby at_42) rfl (l' := #[.val (.int bs), .val (.int full), .val (.int tail), .val (.int idx), .val (.int pick), .val (.int v9), .val (.int v18), .val (.int v29), .val (.long v42), .second, .unset, .unset]) (by rw [hv42]; rfl) ?_
    show Steps p.tables e below (s₁.setTop (mkF m 44 #[.val (.int bs), .val (.int full), .val (.int tail), .val (.int idx), .val (.int pick), .val (.int v9), .val (.int v18), .val (.int v29), .val (.long v42), .second, .unset, .unset] [])) _
    refine XS.iload X0.here hx rfl (hb hby at_44) rfl ?_
    show Steps p.tables e below (s₁.setTop (mkF m 46 #[.val (.int bs), .val (.int full), .val (.int tail), .val (.int idx), .val (.int pick), .val (.int v9), .val (.int v18), .val (.int v29), .val (.long v42), .second, .unset, .unset] [(.int pick)])) _
    refine XS.iconst X0.here hx rfl (hb hby at_46) ?_
    show Steps p.tables e below (s₁.setTop (mkF m 47 #[.val (.int bs), .val (.int full), .val (.int tail), .val (.int idx), .val (.int pick), .val (.int v9), .val (.int v18), .val (.int v29), .val (.long v42), .second, .unset, .unset] [(.int (1 : Int32)), (.int pick)])) _
    refine XS.iand X0.here hx rfl (hb hby at_47) rfl ?_
    show Steps p.tables e below (s₁.setTop (mkF m 48 #[.val (.int bs), .val (.int full), .val (.int tail), .val (.int idx), .val (.int pick), .val (.int v9), .val (.int v18), .val (.int v29), .val (.long v42), .second, .unset, .unset] [(.int (pick &&& (1 : Int32)))])) _
    exact kt
  by_cases hc48_3 : (pick &&& (1 : Int32)) = (0 : Int32)
  · skip
    have hnz68_4 : ¬ (((v18.toInt64) + (1 : Int64)) = (0 : Int64)) := (own_side_0_68_t bs full tail idx pick v9 hv9 v18 hv18 v29 hv29 v42 hv42 hc48_3)
    obtain ⟨v70, hv70⟩ : ∃ z_q : Int32, z_q = ((((idx &&& (2147483647 : Int32)).toInt64) % ((v18.toInt64) + (1 : Int64))).toInt32) := ⟨_, rfl⟩
    obtain ⟨m90_l11, hm90_l11⟩ : ∃ z_q : Int32, z_q = (if v70 < v18 then v9 else v29) := ⟨_, rfl⟩
    have pre6 : ∀ tq, Steps p.tables e below (s₁.setTop (mkF m 90 #[.val (.int bs), .val (.int full), .val (.int tail), .val (.int idx), .val (.int pick), .val (.int v9), .val (.int v18), .val (.int v29), .val (.long v42), .second, .val (.int v70), .val (.int m90_l11)] [])) tq → Steps p.tables e below (s₁.setTop (entryFrame m #[(.int bs), (.int full), (.int tail), (.int idx), (.int pick)] maxLocals)) tq := by
      intro tq kt
      refine pre2 _ ?_
      show Steps p.tables e below (s₁.setTop (mkF m 48 #[.val (.int bs), .val (.int full), .val (.int tail), .val (.int idx), .val (.int pick), .val (.int v9), .val (.int v18), .val (.int v29), .val (.long v42), .second, .unset, .unset] [(.int (pick &&& (1 : Int32)))])) _
      refine XS.ifYes X0.here hx rfl (pc0 := 48) (pc' := 58) rfl (hb hby at_48) rfl ((if0 _ _).trans (teq hc48_3).1) (by decide) (by decide) ?_
      show Steps p.tables e below (s₁.setTop (mkF m 58 #[.val (.int bs), .val (.int full), .val (.int tail), .val (.int idx), .val (.int pick), .val (.int v9), .val (.int v18), .val (.int v29), .val (.long v42), .second, .unset, .unset] [])) _
      refine XS.iloadN X0.here hx rfl (hb hby at_58) rfl ?_
      show Steps p.tables e below (s₁.setTop (mkF m 59 #[.val (.int bs), .val (.int full), .val (.int tail), .val (.int idx), .val (.int pick), .val (.int v9), .val (.int v18), .val (.int v29), .val (.long v42), .second, .unset, .unset] [(.int idx)])) _
      refine X0.ldcInt hx hown (mvT hZ (hw _ (List.mem_of_getElem? (i := 0) rfl))) (g := (mkF m 59 #[.val (.int bs), .val (.int full), .val (.int tail), .val (.int idx), .val (.int pick), .val (.int v9), .val (.int v18), .val (.int v29), .val (.long v42), .second, .unset, .unset] [(.int idx)])) rfl (hb hby at_59) _ ?_
      show Steps p.tables e below (s₁.setTop (mkF m 61 #[.val (.int bs), .val (.int full), .val (.int tail), .val (.int idx), .val (.int pick), .val (.int v9), .val (.int v18), .val (.int v29), .val (.long v42), .second, .unset, .unset] [(.int (2147483647 : Int32)), (.int idx)])) _
      refine XS.iand X0.here hx rfl (hb hby at_61) rfl ?_
      show Steps p.tables e below (s₁.setTop (mkF m 62 #[.val (.int bs), .val (.int full), .val (.int tail), .val (.int idx), .val (.int pick), .val (.int v9), .val (.int v18), .val (.int v29), .val (.long v42), .second, .unset, .unset] [(.int (idx &&& (2147483647 : Int32)))])) _
      refine XS.i2l X0.here hx rfl (hb hby at_62) rfl ?_
      show Steps p.tables e below (s₁.setTop (mkF m 63 #[.val (.int bs), .val (.int full), .val (.int tail), .val (.int idx), .val (.int pick), .val (.int v9), .val (.int v18), .val (.int v29), .val (.long v42), .second, .unset, .unset] [(.long ((idx &&& (2147483647 : Int32)).toInt64))])) _
      refine XS.iload X0.here hx rfl (hb hby at_63) rfl ?_
      show Steps p.tables e below (s₁.setTop (mkF m 65 #[.val (.int bs), .val (.int full), .val (.int tail), .val (.int idx), .val (.int pick), .val (.int v9), .val (.int v18), .val (.int v29), .val (.long v42), .second, .unset, .unset] [(.int v18), (.long ((idx &&& (2147483647 : Int32)).toInt64))])) _
      refine XS.i2l X0.here hx rfl (hb hby at_65) rfl ?_
      show Steps p.tables e below (s₁.setTop (mkF m 66 #[.val (.int bs), .val (.int full), .val (.int tail), .val (.int idx), .val (.int pick), .val (.int v9), .val (.int v18), .val (.int v29), .val (.long v42), .second, .unset, .unset] [(.long (v18.toInt64)), (.long ((idx &&& (2147483647 : Int32)).toInt64))])) _
      refine XS.lconst X0.here hx rfl (hb hby at_66) ?_
      show Steps p.tables e below (s₁.setTop (mkF m 67 #[.val (.int bs), .val (.int full), .val (.int tail), .val (.int idx), .val (.int pick), .val (.int v9), .val (.int v18), .val (.int v29), .val (.long v42), .second, .unset, .unset] [(.long (1 : Int64)), (.long (v18.toInt64)), (.long ((idx &&& (2147483647 : Int32)).toInt64))])) _
      refine XS.ladd X0.here hx rfl (hb hby at_67) rfl ?_
      show Steps p.tables e below (s₁.setTop (mkF m 68 #[.val (.int bs), .val (.int full), .val (.int tail), .val (.int idx), .val (.int pick), .val (.int v9), .val (.int v18), .val (.int v29), .val (.long v42), .second, .unset, .unset] [(.long ((v18.toInt64) + (1 : Int64))), (.long ((idx &&& (2147483647 : Int32)).toInt64))])) _
      refine XS.lrem X0.here hx rfl (hb hby at_68) rfl hnz68_4 ?_
      rw [lrem_mod]
      show Steps p.tables e below (s₁.setTop (mkF m 69 #[.val (.int bs), .val (.int full), .val (.int tail), .val (.int idx), .val (.int pick), .val (.int v9), .val (.int v18), .val (.int v29), .val (.long v42), .second, .unset, .unset] [(.long (((idx &&& (2147483647 : Int32)).toInt64) % ((v18.toInt64) + (1 : Int64))))])) _
      refine XS.l2i X0.here hx rfl (hb hby at_69) rfl ?_
      show Steps p.tables e below (s₁.setTop (mkF m 70 #[.val (.int bs), .val (.int full), .val (.int tail), .val (.int idx), .val (.int pick), .val (.int v9), .val (.int v18), .val (.int v29), .val (.long v42), .second, .unset, .unset] [(.int ((((idx &&& (2147483647 : Int32)).toInt64) % ((v18.toInt64) + (1 : Int64))).toInt32))])) _
      refine XS.istore X0.here hx rfl (hb hby at_70) rfl (l' := #[.val (.int bs), .val (.int full), .val (.int tail), .val (.int idx), .val (.int pick), .val (.int v9), .val (.int v18), .val (.int v29), .val (.long v42), .second, .val (.int v70), .unset]) (by rw [hv70]; rfl) ?_
      show Steps p.tables e below (s₁.setTop (mkF m 72 #[.val (.int bs), .val (.int full), .val (.int tail), .val (.int idx), .val (.int pick), .val (.int v9), .val (.int v18), .val (.int v29), .val (.long v42), .second, .val (.int v70), .unset] [])) _
      refine XS.iload X0.here hx rfl (hb hby at_72) rfl ?_
      show Steps p.tables e below (s₁.setTop (mkF m 74 #[.val (.int bs), .val (.int full), .val (.int tail), .val (.int idx), .val (.int pick), .val (.int v9), .val (.int v18), .val (.int v29), .val (.long v42), .second, .val (.int v70), .unset] [(.int v70)])) _
      refine XS.iload X0.here hx rfl (hb hby at_74) rfl ?_
      by_cases d5 : v70 < v18
      · skip
        show Steps p.tables e below (s₁.setTop (mkF m 76 #[.val (.int bs), .val (.int full), .val (.int tail), .val (.int idx), .val (.int pick), .val (.int v9), .val (.int v18), .val (.int v29), .val (.long v42), .second, .val (.int v70), .unset] [(.int v18), (.int v70)])) _
        refine XS.icmpNo X0.here hx rfl (hb hby at_76) rfl (tlt d5).2.1 ?_
        show Steps p.tables e below (s₁.setTop (mkF m 79 #[.val (.int bs), .val (.int full), .val (.int tail), .val (.int idx), .val (.int pick), .val (.int v9), .val (.int v18), .val (.int v29), .val (.long v42), .second, .val (.int v70), .unset] [])) _
        refine XS.iload X0.here hx rfl (hb hby at_79) rfl ?_
        show Steps p.tables e below (s₁.setTop (mkF m 81 #[.val (.int bs), .val (.int full), .val (.int tail), .val (.int idx), .val (.int pick), .val (.int v9), .val (.int v18), .val (.int v29), .val (.long v42), .second, .val (.int v70), .unset] [(.int v9)])) _
        refine XS.istore X0.here hx rfl (hb hby at_81) rfl (l' := #[.val (.int bs), .val (.int full), .val (.int tail), .val (.int idx), .val (.int pick), .val (.int v9), .val (.int v18), .val (.int v29), .val (.long v42), .second, .val (.int v70), .val (.int v9)]) rfl ?_
        show Steps p.tables e below (s₁.setTop (mkF m 83 #[.val (.int bs), .val (.int full), .val (.int tail), .val (.int idx), .val (.int pick), .val (.int v9), .val (.int v18), .val (.int v29), .val (.long v42), .second, .val (.int v70), .val (.int v9)] [])) _
        refine XS.goto X0.here hx rfl (pc0 := 83) (pc' := 90) rfl (hb hby at_83) (by decide) (by decide) ?_
        show Steps p.tables e below (s₁.setTop (mkF m 90 #[.val (.int bs), .val (.int full), .val (.int tail), .val (.int idx), .val (.int pick), .val (.int v9), .val (.int v18), .val (.int v29), .val (.long v42), .second, .val (.int v70), .val (.int v9)] [])) _
        exact castTop (by simp only [hm90_l11, if_pos d5]) kt
      · skip
        show Steps p.tables e below (s₁.setTop (mkF m 76 #[.val (.int bs), .val (.int full), .val (.int tail), .val (.int idx), .val (.int pick), .val (.int v9), .val (.int v18), .val (.int v29), .val (.long v42), .second, .val (.int v70), .unset] [(.int v18), (.int v70)])) _
        refine XS.icmpYes X0.here hx rfl (pc0 := 76) (pc' := 86) rfl (hb hby at_76) rfl (flt d5).2.1 (by decide) (by decide) ?_
        show Steps p.tables e below (s₁.setTop (mkF m 86 #[.val (.int bs), .val (.int full), .val (.int tail), .val (.int idx), .val (.int pick), .val (.int v9), .val (.int v18), .val (.int v29), .val (.long v42), .second, .val (.int v70), .unset] [])) _
        refine XS.iload X0.here hx rfl (hb hby at_86) rfl ?_
        show Steps p.tables e below (s₁.setTop (mkF m 88 #[.val (.int bs), .val (.int full), .val (.int tail), .val (.int idx), .val (.int pick), .val (.int v9), .val (.int v18), .val (.int v29), .val (.long v42), .second, .val (.int v70), .unset] [(.int v29)])) _
        refine XS.istore X0.here hx rfl (hb hby at_88) rfl (l' := #[.val (.int bs), .val (.int full), .val (.int tail), .val (.int idx), .val (.int pick), .val (.int v9), .val (.int v18), .val (.int v29), .val (.long v42), .second, .val (.int v70), .val (.int v29)]) rfl ?_
        show Steps p.tables e below (s₁.setTop (mkF m 90 #[.val (.int bs), .val (.int full), .val (.int tail), .val (.int idx), .val (.int pick), .val (.int v9), .val (.int v18), .val (.int v29), .val (.long v42), .second, .val (.int v70), .val (.int v29)] [])) _
        exact castTop (by simp only [hm90_l11, if_neg d5]) kt
    obtain ⟨_, _, ⟨T7, L7, k7, n7⟩, -, X7, ⟨Lc7, hQ7, l7, y7, z7⟩, st7⟩ := Jvm.LawKit.callS X0 hx (y := (⟨"com/example/talence/talence/model/ObjectLayout", "blockLength", "(JII)I"⟩ : MethodName)) hown (mvT hZ (hw _ (List.mem_of_getElem? (i := 1) rfl))) (mvT hZ (hw _ (List.mem_of_getElem? (i := 2) rfl))) (mvT hZ (hw _ (List.mem_of_getElem? (i := 3) rfl))) (mvT hZ (hw _ (List.mem_of_getElem? (i := 4) rfl))) (by decide) (backOf (W := 0) (rm1 l Z a0 hw [] v42 v9 v70 h0 n0 Z0 ) hZ (hw _ (List.mem_of_getElem? (i := 4) rfl)) (hw _ (List.mem_of_getElem? (i := 3) rfl)) (by decide) (by decide)) (g := (mkF m 96 #[.val (.int bs), .val (.int full), .val (.int tail), .val (.int idx), .val (.int pick), .val (.int v9), .val (.int v18), .val (.int v29), .val (.long v42), .second, .val (.int v70), .val (.int m90_l11)] [(.int v70), (.int v9), (.long v42)])) rfl (by rw [hml]; rfl) (argsL := [(.long v42), (.int v9), (.int v70)]) (rest := []) (lenOf pd_1 rfl) rfl (by show 2 * 0 + _ ≤ _; exact Nat.le_of_eq rfl) (hb hby at_96) (fun _ _ => ⟨rfl, e0, (by decide : 0 + 0 ≤ _), (by decide : 0 + 0 ≤ _)⟩)
    dsimp only [Pt.U, Pt.locs, Pt.cells, Pt.slots] at X7 l7 y7 z7 st7 hQ7
    subst l7 y7 z7
    obtain ⟨rfl, N7q, e7⟩ := hQ7
    have N7 := Fr.app N0 N7q
    obtain ⟨r96, hr96⟩ : ∃ z_q : Int32, z_q = (own_bl v42 v9 v70) := ⟨_, rfl⟩
    obtain ⟨m109, hm109⟩ : ∃ z_q : Int32, z_q = (if r96 = m90_l11 then (1 : Int32) else (0 : Int32)) := ⟨_, rfl⟩
    have pre9 : ∀ tq, Steps p.tables e below (T7.setTop (mkF m 109 #[.val (.int bs), .val (.int full), .val (.int tail), .val (.int idx), .val (.int pick), .val (.int v9), .val (.int v18), .val (.int v29), .val (.long v42), .second, .val (.int v70), .val (.int m90_l11)] [(.int m109)])) tq → Steps p.tables e below (s₁.setTop (entryFrame m #[(.int bs), (.int full), (.int tail), (.int idx), (.int pick)] maxLocals)) tq := by
      intro tq kt
      refine pre6 _ ?_
      show Steps p.tables e below (s₁.setTop (mkF m 90 #[.val (.int bs), .val (.int full), .val (.int tail), .val (.int idx), .val (.int pick), .val (.int v9), .val (.int v18), .val (.int v29), .val (.long v42), .second, .val (.int v70), .val (.int m90_l11)] [])) _
      refine XS.lload X0.here hx rfl (hb hby at_90) rfl ?_
      show Steps p.tables e below (s₁.setTop (mkF m 92 #[.val (.int bs), .val (.int full), .val (.int tail), .val (.int idx), .val (.int pick), .val (.int v9), .val (.int v18), .val (.int v29), .val (.long v42), .second, .val (.int v70), .val (.int m90_l11)] [(.long v42)])) _
      refine XS.iload X0.here hx rfl (hb hby at_92) rfl ?_
      show Steps p.tables e below (s₁.setTop (mkF m 94 #[.val (.int bs), .val (.int full), .val (.int tail), .val (.int idx), .val (.int pick), .val (.int v9), .val (.int v18), .val (.int v29), .val (.long v42), .second, .val (.int v70), .val (.int m90_l11)] [(.int v9), (.long v42)])) _
      refine XS.iload X0.here hx rfl (hb hby at_94) rfl ?_
      show Steps p.tables e below (s₁.setTop (mkF m 96 #[.val (.int bs), .val (.int full), .val (.int tail), .val (.int idx), .val (.int pick), .val (.int v9), .val (.int v18), .val (.int v29), .val (.long v42), .second, .val (.int v70), .val (.int m90_l11)] [(.int v70), (.int v9), (.long v42)])) _
      refine st7 _ ?_
      show Steps p.tables e below (T7.setTop (mkF m 99 #[.val (.int bs), .val (.int full), .val (.int tail), .val (.int idx), .val (.int pick), .val (.int v9), .val (.int v18), .val (.int v29), .val (.long v42), .second, .val (.int v70), .val (.int m90_l11)] [(.int (own_bl v42 v9 v70))])) _
      rw [← hr96]
      show Steps p.tables e below (T7.setTop (mkF m 99 #[.val (.int bs), .val (.int full), .val (.int tail), .val (.int idx), .val (.int pick), .val (.int v9), .val (.int v18), .val (.int v29), .val (.long v42), .second, .val (.int v70), .val (.int m90_l11)] [(.int r96)])) _
      refine XS.iload X7.here hx rfl (hb hby at_99) rfl ?_
      by_cases d8 : r96 = m90_l11
      · skip
        show Steps p.tables e below (T7.setTop (mkF m 101 #[.val (.int bs), .val (.int full), .val (.int tail), .val (.int idx), .val (.int pick), .val (.int v9), .val (.int v18), .val (.int v29), .val (.long v42), .second, .val (.int v70), .val (.int m90_l11)] [(.int m90_l11), (.int r96)])) _
        refine XS.icmpNo X7.here hx rfl (hb hby at_101) rfl (teq d8).2 ?_
        show Steps p.tables e below (T7.setTop (mkF m 104 #[.val (.int bs), .val (.int full), .val (.int tail), .val (.int idx), .val (.int pick), .val (.int v9), .val (.int v18), .val (.int v29), .val (.long v42), .second, .val (.int v70), .val (.int m90_l11)] [])) _
        refine XS.iconst X7.here hx rfl (hb hby at_104) ?_
        show Steps p.tables e below (T7.setTop (mkF m 105 #[.val (.int bs), .val (.int full), .val (.int tail), .val (.int idx), .val (.int pick), .val (.int v9), .val (.int v18), .val (.int v29), .val (.long v42), .second, .val (.int v70), .val (.int m90_l11)] [(.int (1 : Int32))])) _
        refine XS.goto X7.here hx rfl (pc0 := 105) (pc' := 109) rfl (hb hby at_105) (by decide) (by decide) ?_
        show Steps p.tables e below (T7.setTop (mkF m 109 #[.val (.int bs), .val (.int full), .val (.int tail), .val (.int idx), .val (.int pick), .val (.int v9), .val (.int v18), .val (.int v29), .val (.long v42), .second, .val (.int v70), .val (.int m90_l11)] [(.int (1 : Int32))])) _
        exact castTop (by simp only [hm109, if_pos d8]) kt
      · skip
        show Steps p.tables e below (T7.setTop (mkF m 101 #[.val (.int bs), .val (.int full), .val (.int tail), .val (.int idx), .val (.int pick), .val (.int v9), .val (.int v18), .val (.int v29), .val (.long v42), .second, .val (.int v70), .val (.int m90_l11)] [(.int m90_l11), (.int r96)])) _
        refine XS.icmpYes X7.here hx rfl (pc0 := 101) (pc' := 108) rfl (hb hby at_101) rfl (feq d8).2 (by decide) (by decide) ?_
        show Steps p.tables e below (T7.setTop (mkF m 108 #[.val (.int bs), .val (.int full), .val (.int tail), .val (.int idx), .val (.int pick), .val (.int v9), .val (.int v18), .val (.int v29), .val (.long v42), .second, .val (.int v70), .val (.int m90_l11)] [])) _
        refine XS.iconst X7.here hx rfl (hb hby at_108) ?_
        show Steps p.tables e below (T7.setTop (mkF m 109 #[.val (.int bs), .val (.int full), .val (.int tail), .val (.int idx), .val (.int pick), .val (.int v9), .val (.int v18), .val (.int v29), .val (.long v42), .second, .val (.int v70), .val (.int m90_l11)] [(.int (0 : Int32))])) _
        exact castTop (by simp only [hm109, if_neg d8]) kt
    obtain ⟨fs, hr, hrun, hended, hW, hsame⟩ := X7.leave (v := some (Value.int (nar .boolean m109))) (fun h => by rw [Bd.returns] at h; cases h)
    have hres10 : (nar .boolean m109) = (1 : Int32) := (own_leaf_0_109_t bs full tail idx pick v9 hv9 v18 hv18 v29 hv29 v42 hv42 hc48_3 v70 hv70 m90_l11 hm90_l11 r96 hr96 m109 hm109)
    refine ⟨_, _, pre9 _ ?_, hrun, hended, _, _, rfl, ?_, ⟨_, rfl⟩, hW, hsame.mono (by decide) (by decide)⟩
    · skip
      show Steps p.tables e below (T7.setTop (mkF m 109 #[.val (.int bs), .val (.int full), .val (.int tail), .val (.int idx), .val (.int pick), .val (.int v9), .val (.int v18), .val (.int v29), .val (.long v42), .second, .val (.int v70), .val (.int m90_l11)] [(.int m109)])) _
      exact retN X7 hx (t := .boolean) Bd.returns (by simp) (hb hby at_109) hr
    · show Q0 Z bs full tail idx pick h0 n0 _ T7.heap _
      rw [e7]
      exact ⟨congrArg (fun z => some (Value.int z)) hres10, N7⟩
  · skip
    obtain ⟨m90_l11, hm90_l11⟩ : ∃ z_q : Int32, z_q = (if v18 < v18 then v9 else v29) := ⟨_, rfl⟩
    have pre12 : ∀ tq, Steps p.tables e below (s₁.setTop (mkF m 90 #[.val (.int bs), .val (.int full), .val (.int tail), .val (.int idx), .val (.int pick), .val (.int v9), .val (.int v18), .val (.int v29), .val (.long v42), .second, .val (.int v18), .val (.int m90_l11)] [])) tq → Steps p.tables e below (s₁.setTop (entryFrame m #[(.int bs), (.int full), (.int tail), (.int idx), (.int pick)] maxLocals)) tq := by
      intro tq kt
      refine pre2 _ ?_
      show Steps p.tables e below (s₁.setTop (mkF m 48 #[.val (.int bs), .val (.int full), .val (.int tail), .val (.int idx), .val (.int pick), .val (.int v9), .val (.int v18), .val (.int v29), .val (.long v42), .second, .unset, .unset] [(.int (pick &&& (1 : Int32)))])) _
      refine XS.ifNo X0.here hx rfl (hb hby at_48) rfl ((if0 _ _).trans (feq hc48_3).1) ?_
      show Steps p.tables e below (s₁.setTop (mkF m 51 #[.val (.int bs), .val (.int full), .val (.int tail), .val (.int idx), .val (.int pick), .val (.int v9), .val (.int v18), .val (.int v29), .val (.long v42), .second, .unset, .unset] [])) _
      refine XS.iload X0.here hx rfl (hb hby at_51) rfl ?_
      show Steps p.tables e below (s₁.setTop (mkF m 53 #[.val (.int bs), .val (.int full), .val (.int tail), .val (.int idx), .val (.int pick), .val (.int v9), .val (.int v18), .val (.int v29), .val (.long v42), .second, .unset, .unset] [(.int v18)])) _
      refine XS.istore X0.here hx rfl (hb hby at_53) rfl (l' := #[.val (.int bs), .val (.int full), .val (.int tail), .val (.int idx), .val (.int pick), .val (.int v9), .val (.int v18), .val (.int v29), .val (.long v42), .second, .val (.int v18), .unset]) rfl ?_
      show Steps p.tables e below (s₁.setTop (mkF m 55 #[.val (.int bs), .val (.int full), .val (.int tail), .val (.int idx), .val (.int pick), .val (.int v9), .val (.int v18), .val (.int v29), .val (.long v42), .second, .val (.int v18), .unset] [])) _
      refine XS.goto X0.here hx rfl (pc0 := 55) (pc' := 72) rfl (hb hby at_55) (by decide) (by decide) ?_
      show Steps p.tables e below (s₁.setTop (mkF m 72 #[.val (.int bs), .val (.int full), .val (.int tail), .val (.int idx), .val (.int pick), .val (.int v9), .val (.int v18), .val (.int v29), .val (.long v42), .second, .val (.int v18), .unset] [])) _
      refine XS.iload X0.here hx rfl (hb hby at_72) rfl ?_
      show Steps p.tables e below (s₁.setTop (mkF m 74 #[.val (.int bs), .val (.int full), .val (.int tail), .val (.int idx), .val (.int pick), .val (.int v9), .val (.int v18), .val (.int v29), .val (.long v42), .second, .val (.int v18), .unset] [(.int v18)])) _
      refine XS.iload X0.here hx rfl (hb hby at_74) rfl ?_
      by_cases d11 : v18 < v18
      · skip
        show Steps p.tables e below (s₁.setTop (mkF m 76 #[.val (.int bs), .val (.int full), .val (.int tail), .val (.int idx), .val (.int pick), .val (.int v9), .val (.int v18), .val (.int v29), .val (.long v42), .second, .val (.int v18), .unset] [(.int v18), (.int v18)])) _
        refine XS.icmpNo X0.here hx rfl (hb hby at_76) rfl (tlt d11).2.1 ?_
        show Steps p.tables e below (s₁.setTop (mkF m 79 #[.val (.int bs), .val (.int full), .val (.int tail), .val (.int idx), .val (.int pick), .val (.int v9), .val (.int v18), .val (.int v29), .val (.long v42), .second, .val (.int v18), .unset] [])) _
        refine XS.iload X0.here hx rfl (hb hby at_79) rfl ?_
        show Steps p.tables e below (s₁.setTop (mkF m 81 #[.val (.int bs), .val (.int full), .val (.int tail), .val (.int idx), .val (.int pick), .val (.int v9), .val (.int v18), .val (.int v29), .val (.long v42), .second, .val (.int v18), .unset] [(.int v9)])) _
        refine XS.istore X0.here hx rfl (hb hby at_81) rfl (l' := #[.val (.int bs), .val (.int full), .val (.int tail), .val (.int idx), .val (.int pick), .val (.int v9), .val (.int v18), .val (.int v29), .val (.long v42), .second, .val (.int v18), .val (.int v9)]) rfl ?_
        show Steps p.tables e below (s₁.setTop (mkF m 83 #[.val (.int bs), .val (.int full), .val (.int tail), .val (.int idx), .val (.int pick), .val (.int v9), .val (.int v18), .val (.int v29), .val (.long v42), .second, .val (.int v18), .val (.int v9)] [])) _
        refine XS.goto X0.here hx rfl (pc0 := 83) (pc' := 90) rfl (hb hby at_83) (by decide) (by decide) ?_
        show Steps p.tables e below (s₁.setTop (mkF m 90 #[.val (.int bs), .val (.int full), .val (.int tail), .val (.int idx), .val (.int pick), .val (.int v9), .val (.int v18), .val (.int v29), .val (.long v42), .second, .val (.int v18), .val (.int v9)] [])) _
        exact castTop (by simp only [hm90_l11, if_pos d11]) kt
      · skip
        show Steps p.tables e below (s₁.setTop (mkF m 76 #[.val (.int bs), .val (.int full), .val (.int tail), .val (.int idx), .val (.int pick), .val (.int v9), .val (.int v18), .val (.int v29), .val (.long v42), .second, .val (.int v18), .unset] [(.int v18), (.int v18)])) _
        refine XS.icmpYes X0.here hx rfl (pc0 := 76) (pc' := 86) rfl (hb hby at_76) rfl (flt d11).2.1 (by decide) (by decide) ?_
        show Steps p.tables e below (s₁.setTop (mkF m 86 #[.val (.int bs), .val (.int full), .val (.int tail), .val (.int idx), .val (.int pick), .val (.int v9), .val (.int v18), .val (.int v29), .val (.long v42), .second, .val (.int v18), .unset] [])) _
        refine XS.iload X0.here hx rfl (hb hby at_86) rfl ?_
        show Steps p.tables e below (s₁.setTop (mkF m 88 #[.val (.int bs), .val (.int full), .val (.int tail), .val (.int idx), .val (.int pick), .val (.int v9), .val (.int v18), .val (.int v29), .val (.long v42), .second, .val (.int v18), .unset] [(.int v29)])) _
        refine XS.istore X0.here hx rfl (hb hby at_88) rfl (l' := #[.val (.int bs), .val (.int full), .val (.int tail), .val (.int idx), .val (.int pick), .val (.int v9), .val (.int v18), .val (.int v29), .val (.long v42), .second, .val (.int v18), .val (.int v29)]) rfl ?_
        show Steps p.tables e below (s₁.setTop (mkF m 90 #[.val (.int bs), .val (.int full), .val (.int tail), .val (.int idx), .val (.int pick), .val (.int v9), .val (.int v18), .val (.int v29), .val (.long v42), .second, .val (.int v18), .val (.int v29)] [])) _
        exact castTop (by simp only [hm90_l11, if_neg d11]) kt
    obtain ⟨_, _, ⟨T13, L13, k13, n13⟩, -, X13, ⟨Lc13, hQ13, l13, y13, z13⟩, st13⟩ := Jvm.LawKit.callS X0 hx (y := (⟨"com/example/talence/talence/model/ObjectLayout", "blockLength", "(JII)I"⟩ : MethodName)) hown (mvT hZ (hw _ (List.mem_of_getElem? (i := 1) rfl))) (mvT hZ (hw _ (List.mem_of_getElem? (i := 2) rfl))) (mvT hZ (hw _ (List.mem_of_getElem? (i := 3) rfl))) (mvT hZ (hw _ (List.mem_of_getElem? (i := 4) rfl))) (by decide) (backOf (W := 0) (rm1 l Z a0 hw [] v42 v9 v18 h0 n0 Z0 ) hZ (hw _ (List.mem_of_getElem? (i := 4) rfl)) (hw _ (List.mem_of_getElem? (i := 3) rfl)) (by decide) (by decide)) (g := (mkF m 96 #[.val (.int bs), .val (.int full), .val (.int tail), .val (.int idx), .val (.int pick), .val (.int v9), .val (.int v18), .val (.int v29), .val (.long v42), .second, .val (.int v18), .val (.int m90_l11)] [(.int v18), (.int v9), (.long v42)])) rfl (by rw [hml]; rfl) (argsL := [(.long v42), (.int v9), (.int v18)]) (rest := []) (lenOf pd_1 rfl) rfl (by show 2 * 0 + _ ≤ _; exact Nat.le_of_eq rfl) (hb hby at_96) (fun _ _ => ⟨rfl, e0, (by decide : 0 + 0 ≤ _), (by decide : 0 + 0 ≤ _)⟩)
    dsimp only [Pt.U, Pt.locs, Pt.cells, Pt.slots] at X13 l13 y13 z13 st13 hQ13
    subst l13 y13 z13
    obtain ⟨rfl, N13q, e13⟩ := hQ13
    have N13 := Fr.app N0 N13q
    obtain ⟨r96, hr96⟩ : ∃ z_q : Int32, z_q = (own_bl v42 v9 v18) := ⟨_, rfl⟩
    obtain ⟨m109, hm109⟩ : ∃ z_q : Int32, z_q = (if r96 = m90_l11 then (1 : Int32) else (0 : Int32)) := ⟨_, rfl⟩
    have pre15 : ∀ tq, Steps p.tables e below (T13.setTop (mkF m 109 #[.val (.int bs), .val (.int full), .val (.int tail), .val (.int idx), .val (.int pick), .val (.int v9), .val (.int v18), .val (.int v29), .val (.long v42), .second, .val (.int v18), .val (.int m90_l11)] [(.int m109)])) tq → Steps p.tables e below (s₁.setTop (entryFrame m #[(.int bs), (.int full), (.int tail), (.int idx), (.int pick)] maxLocals)) tq := by
      intro tq kt
      refine pre12 _ ?_
      show Steps p.tables e below (s₁.setTop (mkF m 90 #[.val (.int bs), .val (.int full), .val (.int tail), .val (.int idx), .val (.int pick), .val (.int v9), .val (.int v18), .val (.int v29), .val (.long v42), .second, .val (.int v18), .val (.int m90_l11)] [])) _
      refine XS.lload X0.here hx rfl (hb hby at_90) rfl ?_
      show Steps p.tables e below (s₁.setTop (mkF m 92 #[.val (.int bs), .val (.int full), .val (.int tail), .val (.int idx), .val (.int pick), .val (.int v9), .val (.int v18), .val (.int v29), .val (.long v42), .second, .val (.int v18), .val (.int m90_l11)] [(.long v42)])) _
      refine XS.iload X0.here hx rfl (hb hby at_92) rfl ?_
      show Steps p.tables e below (s₁.setTop (mkF m 94 #[.val (.int bs), .val (.int full), .val (.int tail), .val (.int idx), .val (.int pick), .val (.int v9), .val (.int v18), .val (.int v29), .val (.long v42), .second, .val (.int v18), .val (.int m90_l11)] [(.int v9), (.long v42)])) _
      refine XS.iload X0.here hx rfl (hb hby at_94) rfl ?_
      show Steps p.tables e below (s₁.setTop (mkF m 96 #[.val (.int bs), .val (.int full), .val (.int tail), .val (.int idx), .val (.int pick), .val (.int v9), .val (.int v18), .val (.int v29), .val (.long v42), .second, .val (.int v18), .val (.int m90_l11)] [(.int v18), (.int v9), (.long v42)])) _
      refine st13 _ ?_
      show Steps p.tables e below (T13.setTop (mkF m 99 #[.val (.int bs), .val (.int full), .val (.int tail), .val (.int idx), .val (.int pick), .val (.int v9), .val (.int v18), .val (.int v29), .val (.long v42), .second, .val (.int v18), .val (.int m90_l11)] [(.int (own_bl v42 v9 v18))])) _
      rw [← hr96]
      show Steps p.tables e below (T13.setTop (mkF m 99 #[.val (.int bs), .val (.int full), .val (.int tail), .val (.int idx), .val (.int pick), .val (.int v9), .val (.int v18), .val (.int v29), .val (.long v42), .second, .val (.int v18), .val (.int m90_l11)] [(.int r96)])) _
      refine XS.iload X13.here hx rfl (hb hby at_99) rfl ?_
      by_cases d14 : r96 = m90_l11
      · skip
        show Steps p.tables e below (T13.setTop (mkF m 101 #[.val (.int bs), .val (.int full), .val (.int tail), .val (.int idx), .val (.int pick), .val (.int v9), .val (.int v18), .val (.int v29), .val (.long v42), .second, .val (.int v18), .val (.int m90_l11)] [(.int m90_l11), (.int r96)])) _
        refine XS.icmpNo X13.here hx rfl (hb hby at_101) rfl (teq d14).2 ?_
        show Steps p.tables e below (T13.setTop (mkF m 104 #[.val (.int bs), .val (.int full), .val (.int tail), .val (.int idx), .val (.int pick), .val (.int v9), .val (.int v18), .val (.int v29), .val (.long v42), .second, .val (.int v18), .val (.int m90_l11)] [])) _
        refine XS.iconst X13.here hx rfl (hb hby at_104) ?_
        show Steps p.tables e below (T13.setTop (mkF m 105 #[.val (.int bs), .val (.int full), .val (.int tail), .val (.int idx), .val (.int pick), .val (.int v9), .val (.int v18), .val (.int v29), .val (.long v42), .second, .val (.int v18), .val (.int m90_l11)] [(.int (1 : Int32))])) _
        refine XS.goto X13.here hx rfl (pc0 := 105) (pc' := 109) rfl (hb hby at_105) (by decide) (by decide) ?_
        show Steps p.tables e below (T13.setTop (mkF m 109 #[.val (.int bs), .val (.int full), .val (.int tail), .val (.int idx), .val (.int pick), .val (.int v9), .val (.int v18), .val (.int v29), .val (.long v42), .second, .val (.int v18), .val (.int m90_l11)] [(.int (1 : Int32))])) _
        exact castTop (by simp only [hm109, if_pos d14]) kt
      · skip
        show Steps p.tables e below (T13.setTop (mkF m 101 #[.val (.int bs), .val (.int full), .val (.int tail), .val (.int idx), .val (.int pick), .val (.int v9), .val (.int v18), .val (.int v29), .val (.long v42), .second, .val (.int v18), .val (.int m90_l11)] [(.int m90_l11), (.int r96)])) _
        refine XS.icmpYes X13.here hx rfl (pc0 := 101) (pc' := 108) rfl (hb hby at_101) rfl (feq d14).2 (by decide) (by decide) ?_
        show Steps p.tables e below (T13.setTop (mkF m 108 #[.val (.int bs), .val (.int full), .val (.int tail), .val (.int idx), .val (.int pick), .val (.int v9), .val (.int v18), .val (.int v29), .val (.long v42), .second, .val (.int v18), .val (.int m90_l11)] [])) _
        refine XS.iconst X13.here hx rfl (hb hby at_108) ?_
        show Steps p.tables e below (T13.setTop (mkF m 109 #[.val (.int bs), .val (.int full), .val (.int tail), .val (.int idx), .val (.int pick), .val (.int v9), .val (.int v18), .val (.int v29), .val (.long v42), .second, .val (.int v18), .val (.int m90_l11)] [(.int (0 : Int32))])) _
        exact castTop (by simp only [hm109, if_neg d14]) kt
    obtain ⟨fs, hr, hrun, hended, hW, hsame⟩ := X13.leave (v := some (Value.int (nar .boolean m109))) (fun h => by rw [Bd.returns] at h; cases h)
    have hres16 : (nar .boolean m109) = (1 : Int32) := (own_leaf_0_109_f bs full tail idx pick v9 hv9 v18 hv18 v29 hv29 v42 hv42 hc48_3 m90_l11 hm90_l11 r96 hr96 m109 hm109)
    refine ⟨_, _, pre15 _ ?_, hrun, hended, _, _, rfl, ?_, ⟨_, rfl⟩, hW, hsame.mono (by decide) (by decide)⟩
    · skip
      show Steps p.tables e below (T13.setTop (mkF m 109 #[.val (.int bs), .val (.int full), .val (.int tail), .val (.int idx), .val (.int pick), .val (.int v9), .val (.int v18), .val (.int v29), .val (.long v42), .second, .val (.int v18), .val (.int m90_l11)] [(.int m109)])) _
      exact retN X13 hx (t := .boolean) Bd.returns (by simp) (hb hby at_109) hr
    · show Q0 Z bs full tail idx pick h0 n0 _ T13.heap _
      rw [e13]
      exact ⟨congrArg (fun z => some (Value.int z)) hres16, N13⟩
set_option maxRecDepth 65536 in
set_option maxHeartbeats 40000000 in
theorem comes_1 {Post : Tables → Env → Array Value → State → Outcome → State → Prop} (hpost : ∀ tb e args s v u, (limb_1_1.after args s (.returned v) u = true ∧ limb_1_2.after args s (.returned v) u = true ∧ True) → FrameEnd s (.returned v) u (Jvm.fieldLocs frame_1_writes args s ++ Jvm.arrayLocs frame_1_arrays args s ++ Jvm.staticLocs frame_1_statics s) 0 0 → Post tb e args s (.returned v) u) :
    ArmFor flags0 classFile x code maxLocals ret World_1 tables_1 room_1 Calls_1 rest_1 Pre_1 Post := by
  intro l hfl _ _ p e ha hc hk s m args below hf hA hF happ hP
  obtain ⟨hcalls, hrest, hpre⟩ := hP
  obtain ⟨-, -, -, hnamed, -, -, -, hat⟩ := (Spec.applies_iff hf).mp happ
  obtain ⟨hg, hn⟩ := and_e (Cond.before_iff.mp (show (Jvm.Cond.and given_1 narrow_1).before args s = true from hpre))
  obtain ⟨gv1, gv2⟩ := and_e hg
  obtain ⟨gv3, gv4⟩ := and_e gv2
  obtain ⟨gv5, gv6⟩ := and_e gv4
  obtain ⟨gv7, gv8⟩ := and_e gv6
  obtain ⟨gv9, gv10⟩ := and_e gv8
  obtain ⟨w0, w1, w2, w3, w4, rfl⟩ : ∃ w0 w1 w2 w3 w4 : Value, args = #[w0, w1, w2, w3, w4] := by
    have hs : args.size = 5 := by simpa [Cond.value, given_1] using gv1
    obtain ⟨L⟩ := args
    match L, hs with
    | [w0, w1, w2, w3, w4], _ => exact ⟨w0, w1, w2, w3, w4, rfl⟩
  have hw := fun d (hd : d ∈ tables_1) => atoms_spec (ws := Jvm.Cond.code x code maxLocals ret :: tables_1) hat d (List.mem_cons_of_mem _ hd)
  obtain ⟨i0, ei0⟩ := is_v gv3
  obtain rfl : w0 = (.int i0) := Option.some.inj ei0
  obtain ⟨i1, ei1⟩ := is_v gv5
  obtain rfl : w1 = (.int i1) := Option.some.inj ei1
  obtain ⟨i2, ei2⟩ := is_v gv7
  obtain rfl : w2 = (.int i2) := Option.some.inj ei2
  obtain ⟨i3, ei3⟩ := is_v gv9
  obtain rfl : w3 = (.int i3) := Option.some.inj ei3
  obtain ⟨i4, ei4⟩ := is_v gv10
  obtain rfl : w4 = (.int i4) := Option.some.inj ei4
  obtain ⟨n, o, h1, h2, h3, _, L, rfl, ⟨rfl, N⟩, hq⟩ := rm0 l s _ hw tables_1 i0 i1 i2 i3 i4  s.heap s.heap.size (Nat.le_refl _)  p e ha hc hk s m _ below hf ((Spec.applies_iff_loose hf).mp happ).1 ⟨rfl, State.Warmed39.refl s, rfl⟩ trivial
  refine ⟨n, _, h1, h2, h3, hpost _ _ _ _ _ _ ⟨Cond.after_iff.mpr rfl, Cond.after_iff.mpr (eq_i res_at (Term.int_eval (1)) rfl), trivial⟩ ⟨hq.1, hq.2.1, (hq.2.2.sift fun y hy => Or.inr (N y hy)).mono (by decide) (by decide)⟩⟩
theorem main_1_1 : Claimed_1_1 := comes_1 fun _ _ _ _ _ _ h hF => ⟨h.1, hF⟩
theorem main_1_2 : Claimed_1_2 := comes_1 fun _ _ _ _ _ _ h hF => ⟨h.2.1, hF⟩
end Jvm.Pilot.@@N@@
namespace Jvm.Pilot.@@N@@
open Jvm Jvm.ClassFile Sem Op Lib Jvm.Free Jvm.Stand Jvm.Pilot.@@N@@.Jvm.D
/-! MADE BY PROGRAM (witnessworld.py) out of the Statement's table words and the real class files: 10 classes; the members and pool entries that the words name. The judged class is class 1, her method 1. -/
namespace start1
open Jvm.ClassFile
def u (s : String) : CpInfo := .utf8 (stringToUtf16 s)
/-- a pool by its gaps: so many unusable entries, then the entry; so many at the end -/
def gap : Nat → List CpInfo → List CpInfo
  | 0, r => r
  | n + 1, r => .unusable :: gap n r
def poolList (es : List (Nat × CpInfo)) (last : Nat) : List CpInfo := es.foldr (fun e r => gap e.1 (e.2 :: r)) (gap last [])
def pool (es : List (Nat × CpInfo)) (last : Nat) : Array CpInfo := ⟨poolList es last⟩
def fileOf (pool : Array CpInfo) (this : Nat) (attrs : Array Attribute := #[]) (ms : Array MethodInfo := #[]) (fl : Nat := 33) (sup : Nat := 0) (ifs : Array Nat := #[]) (fds : Array FieldInfo := #[]) : ClassFile where
  minorVersion := 0
  majorVersion := 65
  constantPool := pool
  accessFlags := fl
  thisClass := this
  superClass := sup
  interfaces := ifs
  fields := fds
  methods := ms
  attributes := attrs
def plain (name : String) (sup : Option ClassId) : Class where
  name := name
  kind := .ordinary
  loader := none
  accessFlags := 33
  super := sup
  interfaces := #[]
  cf := none
  fields := #[]
  methods := #[]
  instanceTypes := #[]
  staticTypes := #[]
  resolved := #[]
  callSites := []
  init := .initialized
  statics := none
  mirror := none

def pool0 : Array CpInfo := pool [(5, u "<init>"), (0, u "()V"), (1, .class_ 10), (1, u "java/lang/Object")] 113

def k0m0 : Method := { name := "<init>", desc := "()V", sig := { parameters := [], returnType := none }, accessFlags := 1, code := none }
/-- java/lang/Object -/
def k0 : Class := { plain "java/lang/Object" none with
  accessFlags := 33
  interfaces := #[]
  cf := some (fileOf pool0 8 #[] #[{ accessFlags := 1, nameIndex := 5, descriptorIndex := 6, attributes := #[] }] 33 0 #[] #[])
  fields := #[]
  methods := #[k0m0]
  instanceTypes := #[]
  staticTypes := #[]
  resolved := Array.replicate 124 none
  statics := none }

def pool1 : Array CpInfo := pool [(2, .class_ 4), (1, u "java/lang/Object"), (0, u "<init>"), (0, u "()V"), (0, .integer 2147483647), (2, .methodref 11 12), (0, .class_ 13), (0, .nameAndType 14 15), (0, u "com/example/talence/talence/model/ObjectLayout"), (0, u "blockLength"), (0, u "(JII)I"), (0, .class_ 17), (0, u "com/example/talence/talence/model/ObjectLayoutBlockLengthPinLaw"), (2, u "law"), (0, u "(IIIII)Z")] 3

def k1m0 : Method := { name := "<init>", desc := "()V", sig := { parameters := [], returnType := none }, accessFlags := 1, code := none }
def k1c1 : Code := { maxStack := 6, maxLocals := 12, code := code, exceptionTable := #[], attributes := #[] }
def k1m1 : Method := { name := "law", desc := "(IIIII)Z", sig := { parameters := [.int, .int, .int, .int, .int], returnType := some .boolean }, accessFlags := 9, code := some k1c1 }
/-- com/example/talence/talence/model/ObjectLayoutBlockLengthPinLaw -/
def k1 : Class := { plain "com/example/talence/talence/model/ObjectLayoutBlockLengthPinLaw" (some 0) with
  accessFlags := 49
  interfaces := #[]
  cf := some (fileOf pool1 16 #[] #[{ accessFlags := 1, nameIndex := 5, descriptorIndex := 6, attributes := #[] }, { accessFlags := 9, nameIndex := 20, descriptorIndex := 21, attributes := #[] }] 49 2 #[] #[])
  fields := #[]
  methods := #[k1m0, k1m1]
  instanceTypes := #[]
  staticTypes := #[]
  resolved := Array.replicate 25 none
  statics := none }

def pool2 : Array CpInfo := pool [(2, .class_ 4), (1, u "java/lang/Object"), (3, .class_ 10), (1, u "com/example/talence/talence/model/ObjectLayout"), (0, u "mode"), (0, u "Lcom/example/talence/talence/model/ObjectLayout$Mode;"), (2, u "blockSize"), (0, u "I"), (2, u "superBlocks"), (12, .class_ 34), (1, u "com/example/talence/talence/model/ObjectLayout$Mode"), (18, .methodref 54 55), (0, .class_ 56), (0, .nameAndType 57 58), (0, u "java/lang/Math"), (0, u "min"), (0, u "(JJ)J"), (3, u "MIN_BLOCK_SIZE"), (2, u "MAX_BLOCK_SIZE"), (0, u "DEFAULT_BLOCK_SIZE"), (1, u "DEFAULT_SUPER_BLOCKS"), (10, u "blockLength"), (0, u "(JII)I")] 22

def k2c0 : Code := { maxStack := 8, maxLocals := 4, code := prog_39_method_6_code, exceptionTable := #[], attributes := #[] }
def k2m0 : Method := { name := "blockLength", desc := "(JII)I", sig := { parameters := [.long, .int, .int], returnType := some .int }, accessFlags := 9, code := some k2c0 }
/-- com/example/talence/talence/model/ObjectLayout -/
def k2 : Class := { plain "com/example/talence/talence/model/ObjectLayout" (some 0) with
  accessFlags := 33
  interfaces := #[]
  cf := some (fileOf pool2 8 #[.nestMembers #[32]] #[{ accessFlags := 9, nameIndex := 79, descriptorIndex := 80, attributes := #[] }] 33 2 #[] #[{ accessFlags := 25, nameIndex := 62, descriptorIndex := 16, attributes := #[] }, { accessFlags := 25, nameIndex := 65, descriptorIndex := 16, attributes := #[] }, { accessFlags := 25, nameIndex := 66, descriptorIndex := 16, attributes := #[] }, { accessFlags := 25, nameIndex := 68, descriptorIndex := 16, attributes := #[] }, { accessFlags := 18, nameIndex := 11, descriptorIndex := 12, attributes := #[] }, { accessFlags := 18, nameIndex := 15, descriptorIndex := 16, attributes := #[] }, { accessFlags := 18, nameIndex := 19, descriptorIndex := 16, attributes := #[] }])
  fields := #[{ name := "MIN_BLOCK_SIZE", type := .int, accessFlags := 25, slot := 0, constantValue := 0 }, { name := "MAX_BLOCK_SIZE", type := .int, accessFlags := 25, slot := 1, constantValue := 0 }, { name := "DEFAULT_BLOCK_SIZE", type := .int, accessFlags := 25, slot := 2, constantValue := 0 }, { name := "DEFAULT_SUPER_BLOCKS", type := .int, accessFlags := 25, slot := 3, constantValue := 0 }, { name := "mode", type := (.object "com/example/talence/talence/model/ObjectLayout$Mode"), accessFlags := 18, slot := 0, constantValue := 0 }, { name := "blockSize", type := .int, accessFlags := 18, slot := 1, constantValue := 0 }, { name := "superBlocks", type := .int, accessFlags := 18, slot := 2, constantValue := 0 }]
  methods := #[k2m0]
  instanceTypes := #[(.object "com/example/talence/talence/model/ObjectLayout$Mode"), .int, .int]
  staticTypes := #[.int, .int, .int, .int]
  resolved := Array.replicate 103 none
  statics := none }

def pool3 : Array CpInfo := pool [(1, .class_ 2), (0, u "java/lang/Math"), (1, .class_ 6), (1, u "java/lang/Object"), (0, u "<init>"), (0, u "()V"), (89, .class_ 100), (1, u "java/lang/Math$RandomNumberGeneratorHolder"), (20, u "(JJ)J"), (50, u "negativeZeroFloatBits"), (0, u "J"), (2, u "negativeZeroDoubleBits"), (24, u "min"), (43, u "$assertionsDisabled"), (0, u "Z"), (91, u "twoToTheDoubleScaleDown"), (0, u "D"), (4, u "twoToTheDoubleScaleUp"), (9, u "E"), (3, u "PI"), (2, u "TAU"), (2, u "DEGREES_TO_RADIANS"), (0, u "RADIANS_TO_DEGREES")] 94

def k3m0 : Method := { name := "<init>", desc := "()V", sig := { parameters := [], returnType := none }, accessFlags := 2, code := none }
def k3c1 : Code := { maxStack := 4, maxLocals := 4, code := jdk_29_method_70_code, exceptionTable := #[], attributes := #[] }
def k3m1 : Method := { name := "min", desc := "(JJ)J", sig := { parameters := [.long, .long], returnType := some .long }, accessFlags := 9, code := some k3c1 }
/-- java/lang/Math -/
def k3 : Class := { plain "java/lang/Math" (some 0) with
  accessFlags := 49
  interfaces := #[]
  cf := some (fileOf pool3 1 #[.nestMembers #[98]] #[{ accessFlags := 2, nameIndex := 7, descriptorIndex := 8, attributes := #[] }, { accessFlags := 9, nameIndex := 201, descriptorIndex := 121, attributes := #[] }] 49 4 #[] #[{ accessFlags := 25, nameIndex := 354, descriptorIndex := 339, attributes := #[] }, { accessFlags := 25, nameIndex := 358, descriptorIndex := 339, attributes := #[] }, { accessFlags := 25, nameIndex := 361, descriptorIndex := 339, attributes := #[] }, { accessFlags := 26, nameIndex := 364, descriptorIndex := 339, attributes := #[] }, { accessFlags := 26, nameIndex := 365, descriptorIndex := 339, attributes := #[] }, { accessFlags := 26, nameIndex := 172, descriptorIndex := 173, attributes := #[] }, { accessFlags := 26, nameIndex := 176, descriptorIndex := 173, attributes := #[] }, { accessFlags := 8, nameIndex := 344, descriptorIndex := 339, attributes := #[] }, { accessFlags := 8, nameIndex := 338, descriptorIndex := 339, attributes := #[] }, { accessFlags := 4120, nameIndex := 245, descriptorIndex := 246, attributes := #[] }])
  fields := #[{ name := "E", type := .double, accessFlags := 25, slot := 0, constantValue := 0 }, { name := "PI", type := .double, accessFlags := 25, slot := 1, constantValue := 0 }, { name := "TAU", type := .double, accessFlags := 25, slot := 2, constantValue := 0 }, { name := "DEGREES_TO_RADIANS", type := .double, accessFlags := 26, slot := 3, constantValue := 0 }, { name := "RADIANS_TO_DEGREES", type := .double, accessFlags := 26, slot := 4, constantValue := 0 }, { name := "negativeZeroFloatBits", type := .long, accessFlags := 26, slot := 5, constantValue := 0 }, { name := "negativeZeroDoubleBits", type := .long, accessFlags := 26, slot := 6, constantValue := 0 }, { name := "twoToTheDoubleScaleUp", type := .double, accessFlags := 8, slot := 7, constantValue := 0 }, { name := "twoToTheDoubleScaleDown", type := .double, accessFlags := 8, slot := 8, constantValue := 0 }, { name := "$assertionsDisabled", type := .boolean, accessFlags := 4120, slot := 9, constantValue := 0 }]
  methods := #[k3m0, k3m1]
  instanceTypes := #[]
  staticTypes := #[.double, .double, .double, .double, .double, .long, .long, .double, .double, .boolean]
  resolved := Array.replicate 460 none
  statics := none }

def pool4 : Array CpInfo := pool [(1, u "java/lang/Cloneable"), (0, .class_ 1), (0, u "java/lang/Object"), (0, .class_ 3)] 3

/-- java/lang/Cloneable -/
def k4 : Class := { plain "java/lang/Cloneable" (some 0) with
  accessFlags := 1537
  interfaces := #[]
  cf := some (fileOf pool4 2 #[] #[] 1537 4 #[] #[])
  fields := #[]
  methods := #[]
  instanceTypes := #[]
  staticTypes := #[]
  resolved := Array.replicate 8 none
  statics := none }

def pool5 : Array CpInfo := pool [(1, u "java/io/Serializable"), (0, .class_ 1), (0, u "java/lang/Object"), (0, .class_ 3)] 3

/-- java/io/Serializable -/
def k5 : Class := { plain "java/io/Serializable" (some 0) with
  accessFlags := 1537
  interfaces := #[]
  cf := some (fileOf pool5 2 #[] #[] 1537 4 #[] #[])
  fields := #[]
  methods := #[]
  instanceTypes := #[]
  staticTypes := #[]
  resolved := Array.replicate 8 none
  statics := none }

/-- the primitive byte -/
def k6 : Class := { plain "byte" none with kind := .primitive 'B', accessFlags := 0x411 }
/-- [B -/
def k7 : Class := { plain "[B" (some 0) with kind := .array 6 .byte, interfaces := #[4, 5], accessFlags := 1041 }

/-- the primitive int -/
def k8 : Class := { plain "int" none with kind := .primitive 'I', accessFlags := 0x411 }
/-- [I -/
def k9 : Class := { plain "[I" (some 0) with kind := .array 8 .int, interfaces := #[4, 5], accessFlags := 1041 }

def heap : Heap := #[]
def classes : Array Class := #[k0, k1, k2, k3, k4, k5, k6, k7, k8, k9]
def interned : List (Array UInt16 × Addr) := []
def slotsUsed : Nat := 0
def theMethod : MethodId := ⟨1, 1⟩
def args0 : Array Value := #[.int 5, .int 7, .int 3, .int 2, .int 0]
def aboutOver (below : List Frame) : State where
  vm := { classes := classes, interned := interned.toArray }
  heap := heap
  slotsUsed := slotsUsed
  threads := #[{ frames := .invoking theMethod args0 :: below }]
def below0 : List Frame := [.native { method := ⟨0, 0⟩, args := #[] }]
def about1 : State := aboutOver below0
def p0 : Program := .bare "" "" ""
def e0 : Env := launch0.env 0 0 0
theorem w_frames : about1.frames = Frame.invoking theMethod args0 :: below0 := rfl
set_option maxRecDepth 65536 in
theorem w_args : argsFit about1.vm theMethod args0 = true := by decide +kernel
set_option maxRecDepth 65536 in
theorem w_heap : heapFits about1 = true := by decide +kernel
set_option maxRecDepth 65536 in
theorem w_runnable : about1.curStatus? = some .runnable := by decide +kernel
set_option maxRecDepth 65536 in
theorem w_alone : about1.alone = true := by decide +kernel
set_option maxRecDepth 65536 in
theorem w_named : about1.methodNamed? x = some theMethod := by decide +kernel
set_option maxRecDepth 65536 in
theorem w_hears : about1.hears theMethod below0 = true := by decide +kernel
set_option maxRecDepth 65536 in
theorem w_ripe : about1.ripe theMethod args0 below0 = true := by decide +kernel
theorem w_running : about1.status = .running := rfl
set_option maxRecDepth 65536 in
theorem w_room : about1.hasRoom e0.platform room_1 = true :=
  launch0.hasRoom_least _ room_1 (by decide +kernel) (by decide +kernel) (by decide +kernel) (by decide +kernel) (by decide +kernel) (by decide +kernel)
theorem allAtoms_all (ts : List Jvm.Cond) (a : Array Jvm.Value) (st : Jvm.State) : (allAtoms ts).before a st = ts.all (fun c => c.before a st) := by
  induction ts with
  | nil => rfl
  | cons c t ih =>
    show (Jvm.Cond.and c (allAtoms t)).before a st = _
    rw [Jvm.Cond.before_and, ih, List.all_cons]
def words1 : List Jvm.Cond := Jvm.Cond.code x code maxLocals ret :: tables_1
/-- a 'code' word, met by the world's own term for the bytes: nothing is compared byte by byte -/
theorem code_word {y : MethodName} {bytes : ByteArray} {mx : Nat} {rt : Option FieldType} {a : Array Value} {s : State} {m : MethodId} {meth : Method} {c : Code} (h1 : s.methodNamed? y = some m) (h2 : s.vm.method? m = some meth) (h3 : meth.code = some c) (h4 : c.code = bytes)
    (h5 : (c.maxLocals == mx && c.exceptionTable.isEmpty && decide (c.maxStack ≤ mostOperands) && decide (meth.sig.returnType = rt) && !meth.locks && decide (parseMethodDescriptor y.desc = some meth.sig)) = true) : (Jvm.Cond.code y bytes mx rt).before a s = true := by
  simp only [Bool.and_eq_true, beq_iff_eq, Bool.not_eq_true', decide_eq_true_eq] at h5
  obtain ⟨⟨⟨⟨⟨g1, g2⟩, g3⟩, g4⟩, g5⟩, g6⟩ := h5
  simp [Cond.before, Cond.holds, Cond.value, h1, h2, h3, h4, g1, g2, g3, g4, g5, g6]
def isCode : Jvm.Cond → Bool
  | .code _ _ _ _ => true
  | _ => false
theorem all_split {L : List Jvm.Cond} {P : Jvm.Cond → Bool} (h1 : L.all (fun c => isCode c || P c) = true) (h2 : ∀ c ∈ L.filter isCode, P c = true) : L.all P = true := by
  refine List.all_eq_true.mpr fun c hc => ?_
  have h := List.all_eq_true.mp h1 c hc
  rcases Bool.eq_false_or_eq_true (isCode c) with hi | hi
  · exact h2 c (List.mem_filter.mpr ⟨hc, hi⟩)
  · simpa [hi] using h
set_option maxRecDepth 65536 in
theorem w_c0 : (Jvm.Cond.code x code maxLocals ret).before args0 about1 = true := code_word (m := ⟨1, 1⟩) (meth := k1m1) (c := k1c1) (by decide +kernel) rfl rfl rfl (by decide +kernel)
set_option maxRecDepth 65536 in
theorem w_c1 : (Jvm.Cond.code ({ cls := "com/example/talence/talence/model/ObjectLayout", name := "blockLength", desc := "(JII)I" } : Jvm.MethodName) prog_39_method_6_code (4 : Nat) (Option.some Jvm.ClassFile.FieldType.int)).before args0 about1 = true := code_word (m := ⟨2, 0⟩) (meth := k2m0) (c := k2c0) (by decide +kernel) rfl rfl rfl (by decide +kernel)
set_option maxRecDepth 65536 in
theorem w_c2 : (Jvm.Cond.code ({ cls := "java/lang/Math", name := "min", desc := "(JJ)J" } : Jvm.MethodName) jdk_29_method_70_code (4 : Nat) (Option.some Jvm.ClassFile.FieldType.long)).before args0 about1 = true := code_word (m := ⟨3, 1⟩) (meth := k3m1) (c := k3c1) (by decide +kernel) rfl rfl rfl (by decide +kernel)
def codes1 : List Jvm.Cond := [Jvm.Cond.code x code maxLocals ret, Jvm.Cond.code ({ cls := "com/example/talence/talence/model/ObjectLayout", name := "blockLength", desc := "(JII)I" } : Jvm.MethodName) prog_39_method_6_code (4 : Nat) (Option.some Jvm.ClassFile.FieldType.int), Jvm.Cond.code ({ cls := "java/lang/Math", name := "min", desc := "(JJ)J" } : Jvm.MethodName) jdk_29_method_70_code (4 : Nat) (Option.some Jvm.ClassFile.FieldType.long)]
set_option maxRecDepth 65536 in
theorem codes_eq : words1.filter isCode = codes1 := rfl
theorem w_codes : ∀ c ∈ words1.filter isCode, c.before args0 about1 = true := by
  rw [codes_eq]
  intro c hc
  simp only [codes1, List.mem_cons, List.not_mem_nil, or_false] at hc
  rcases hc with rfl | rfl | rfl
  · exact w_c0
  · exact w_c1
  · exact w_c2
set_option maxRecDepth 65536 in
theorem w_t1 : words1.all (fun c => isCode c || c.before args0 about1) = true := by decide +kernel
theorem w_tables : (allAtoms (Jvm.Cond.code x code maxLocals ret :: tables_1)).before args0 about1 = true := by
  rw [allAtoms_all]
  show words1.all (fun c => c.before args0 about1) = true
  refine all_split ?_ w_codes
  rw [w_t1]
set_option maxRecDepth 65536 in
theorem w_case : (Jvm.Cond.and given_1 narrow_1).before args0 about1 = true := by decide +kernel
theorem w_applies : (headSpec (Jvm.Cond.code x code maxLocals ret :: tables_1) room_1).applies x e0.platform about1 = true :=
  (Spec.applies_iff w_frames).mpr ⟨w_running, w_runnable, w_alone, w_named, w_hears, w_ripe, w_room, w_tables⟩
theorem atStart : AtStart classFile x code maxLocals ret World_1 tables_1 room_1 Calls_1 rest_1 Pre_1 launch0 p0 e0 about1 theMethod args0 below0 :=
  ⟨lists_1, trivial, launch0.admits_env _ _ _, launch0.least_env, fairChoices_fair.cas, fairChoices_fair.clock, w_frames, w_args, w_heap, w_applies, trivial, trivial, w_case⟩
end start1
theorem witness_1 : WitnessClaimed_1 := ⟨start1.p0, start1.e0, start1.about1, start1.theMethod, start1.args0, start1.below0, start1.atStart⟩
end Jvm.Pilot.@@N@@
