import JvmDerived
import JvmDerived.Pilot.@@N@@Statement
import JvmDerived.Pilot.@@N@@Code
set_option linter.unusedVariables false
set_option linter.unusedSimpArgs false
namespace Jvm.RoadKit
theorem sta_keep {Z : State} {h h' : Heap} {C n d : String} {w : Value} (F : Sta Z h C n d w) (K : Keep h h' []) : Sta Z h' C n d w := by
  obtain ⟨cf, i, k, f, st, cell, h1, h2, h3, h4, h5, r⟩ := F
  exact ⟨cf, i, k, f, st, cell, h1, h2, h3, h4, K.2.1 _ _ h5 nin0, r⟩
def FrameWide (s : State) (o : Outcome) (t : State) (L : List Loc) (k n : Nat) : Prop := (∃ v, o = .returned v) ∧ s.Warmed39 t.vm ∧ s.Booked t.vm t.heap.size ∧ s.sameButNew ({ t with vm := s.vm } : State) L k n
theorem heq_of {T : State} {h : Heap} {a : Addr} {c : Cell} (e : T.heap = h) (q : h[a]? = some c) : T.heap[a]? = some c := by rw [e]; exact q
open Sem ClassFile Op Lib Jvm.Stand Jvm.Free Jvm.LawKit
section New
variable {p : Program} {l : Launch} {e : Env} {R : Room} {s : State} {m : MethodId} {args : Array Value} {below : List Frame} {meth : Method} {c : Code} {T : State} {locs : List Loc} {cells slots : Nat}
theorem retI (X : Stand p l e R s m args below meth c T locs cells slots) (hx : p.tables.exec = Jvm.exec) {pc : Nat} {Ls : Array Slot} {z : Int32} {rest : List Value} (hret : meth.sig.returnType = some .int) (hd : decode c.code pc = .ok (.ireturn, 1)) {fs : List Frame}
    (hl : ∀ (f : JFrame) (acts : List Action), f.method = m → f.locked = none → f.entered = [] → (doReturn e (T.setTop f) acts (some (.int z))).1 = T.setFrames fs) : Steps p.tables e below (T.setTop (mkF m pc Ls (.int z :: rest))) (T.setFrames fs) := by
  have hm' : T.vm.method? m = some meth := X.method'
  have hn : narrow .int (.int z) = .int z := rfl
  show Steps p.tables e below (T.setTop { method := m, pc := pc, locals := Ls, stack := _ :: rest, locked := none }) _
  jvm_step X.here [X.here.top, hx, hd, hm', hret, hn]
  first | (intro acts; rw [hl _ acts rfl rfl rfl]) | rw [hl _ _ rfl rfl rfl]
  exact Steps.refl _
end New
end Jvm.RoadKit
namespace Jvm.Pilot.@@N@@
open Jvm Jvm.ClassFile Sem Op Lib Jvm.Free Jvm.Stand Jvm.LawKit Jvm.RoadKit Bundle Jvm.Pilot.@@N@@.Jvm.D
theorem own_mask31 (a : Int32) : 0 ≤ (a &&& (2147483647 : Int32)).toInt ∧ (a &&& (2147483647 : Int32)).toInt < 2147483648 := by
  have h : (a &&& (2147483647 : Int32)).toBitVec = a.toBitVec &&& 2147483647#32 := rfl
  have e : (a &&& (2147483647 : Int32)).toInt = (a.toBitVec &&& 2147483647#32).toInt := by rw [← h]; rfl
  have hm : (a.toBitVec &&& 2147483647#32).toNat ≤ 2147483647 := by rw [BitVec.toNat_and]; exact Nat.and_le_right
  rw [e, BitVec.toInt_eq_toNat_of_lt (by omega)]
  omega
theorem own_rem (u s : Int32) (hu : 0 ≤ u.toInt) (hs : 0 < s.toInt) : 0 ≤ (u % s).toInt ∧ (u % s).toInt < s.toInt := by
  have : (u % s).toInt = u.toInt.tmod s.toInt := Int32.toInt_mod ..
  rw [this, Int.tmod_eq_emod_of_nonneg hu]
  exact ⟨Int.emod_nonneg _ (by omega), Int.emod_lt_of_pos _ hs⟩
theorem own_i32_add (x y : Int32) (h1 : -2147483648 ≤ x.toInt + y.toInt) (h2 : x.toInt + y.toInt < 2147483648) : (x + y).toInt = x.toInt + y.toInt := by
  rw [Int32.toInt_add, Int.bmod_eq_of_le (by omega) (by omega)]
theorem own_i32_sub (x y : Int32) (h1 : -2147483648 ≤ x.toInt - y.toInt) (h2 : x.toInt - y.toInt < 2147483648) : (x - y).toInt = x.toInt - y.toInt := by
  rw [Int32.toInt_sub, Int.bmod_eq_of_le (by omega) (by omega)]
theorem own_i64_add (x y : Int64) (h1 : -9223372036854775808 ≤ x.toInt + y.toInt) (h2 : x.toInt + y.toInt < 9223372036854775808) : (x + y).toInt = x.toInt + y.toInt := by
  rw [Int64.toInt_add, Int.bmod_eq_of_le (by omega) (by omega)]
theorem own_i64_sub (x y : Int64) (h1 : -9223372036854775808 ≤ x.toInt - y.toInt) (h2 : x.toInt - y.toInt < 9223372036854775808) : (x - y).toInt = x.toInt - y.toInt := by
  rw [Int64.toInt_sub, Int.bmod_eq_of_le (by omega) (by omega)]
theorem own_i64_mul (x y : Int64) (h1 : -9223372036854775808 ≤ x.toInt * y.toInt) (h2 : x.toInt * y.toInt < 9223372036854775808) : (x * y).toInt = x.toInt * y.toInt := by
  rw [Int64.toInt_mul, Int.bmod_eq_of_le (by omega) (by omega)]
theorem own_i2l (x : Int32) : x.toInt64.toInt = x.toInt := Int32.toInt_toInt64 x
theorem own_l2i (x : Int64) (h1 : -2147483648 ≤ x.toInt) (h2 : x.toInt < 2147483648) : x.toInt32.toInt = x.toInt := by
  rw [Int64.toInt_toInt32, Int.bmod_eq_of_le (by omega) (by omega)]
theorem own_rangeI (x : Int32) : -2147483648 ≤ x.toInt ∧ x.toInt < 2147483648 := by
  have h1 := Int32.le_toInt x; have h2 := Int32.toInt_lt x; omega
theorem own_rangeL (x : Int64) : -9223372036854775808 ≤ x.toInt ∧ x.toInt < 9223372036854775808 := by
  have h1 := Int64.le_toInt x; have h2 := Int64.toInt_lt x; omega
theorem own_mask63 (a : Int64) : 0 ≤ (a &&& (9223372036854775807 : Int64)).toInt ∧ (a &&& (9223372036854775807 : Int64)).toInt < 9223372036854775808 := by
  have h : (a &&& (9223372036854775807 : Int64)).toBitVec = a.toBitVec &&& 9223372036854775807#64 := rfl
  have e : (a &&& (9223372036854775807 : Int64)).toInt = (a.toBitVec &&& 9223372036854775807#64).toInt := by rw [← h]; rfl
  have hm : (a.toBitVec &&& 9223372036854775807#64).toNat ≤ 9223372036854775807 := by rw [BitVec.toNat_and]; exact Nat.and_le_right
  rw [e, BitVec.toInt_eq_toNat_of_lt (by omega)]
  omega
theorem own_remL (u s : Int64) (hu : 0 ≤ u.toInt) (hs : 0 < s.toInt) : 0 ≤ (u % s).toInt ∧ (u % s).toInt < s.toInt := by
  have : (u % s).toInt = u.toInt.tmod s.toInt := Int64.toInt_mod ..
  rw [this, Int.tmod_eq_emod_of_nonneg hu]
  exact ⟨Int.emod_nonneg _ (by omega), Int.emod_lt_of_pos _ hs⟩
def own_inx (xs : List Int32) (j : Int32) : Bool := decide (¬ j < 0) && decide (j.toNatClampNeg < xs.length)
def own_rd (xs : List Int32) (j : Int32) : Int32 := xs.getD j.toNatClampNeg 0
def own_wr (xs : List Int32) (j v : Int32) : List Int32 := xs.set j.toNatClampNeg v
def own_len (xs : List Int32) : Int32 := Int32.ofNat xs.length
def own_zs (n : Int32) : List Int32 := List.replicate n.toNatClampNeg 0
theorem own_inx_e {xs : List Int32} {j : Int32} (h : own_inx xs j = true) : ¬ j < 0 ∧ j.toNatClampNeg < xs.length := by
  simp only [own_inx, Bool.and_eq_true, decide_eq_true_eq] at h; exact h
theorem own_inx_len {xs ys : List Int32} (h : xs.length = ys.length) (j : Int32) : own_inx xs j = own_inx ys j := by
  unfold own_inx; rw [h]
theorem own_getD_map (xs : List Int32) : ∀ i : Nat, (xs.map Value.int).getD i (Value.int 0) = Value.int (xs.getD i 0) := by
  induction xs with
  | nil => intro i; rfl
  | cons x t ih =>
    intro i
    cases i with
    | zero => rfl
    | succ i => exact ih i
def own_ia (Z : State) (h : Heap) (a : Addr) (xs : List Int32) : Prop := ∃ (k : ClassId) (n : Int32), n.toNatClampNeg = xs.length ∧ Arv Z h a k .int n (xs.map Value.int) (.int 0)
section OwnIa
variable {Z : State} {h h' : Heap} {a b : Addr} {xs : List Int32} {j v : Int32}
theorem own_ia.lt (F : own_ia Z h a xs) : a < h.size := by obtain ⟨k, n, -, V⟩ := F; exact V.lt
theorem own_ia.ext (F : own_ia Z h a xs) (E : Ext h h') : own_ia Z h' a xs := by obtain ⟨k, n, q, V⟩ := F; exact ⟨k, n, q, V.ext E⟩
theorem own_ia.other {sl : Nat} {w : Value} (F : own_ia Z h b xs) (W : Wr h h' a sl w) (q : b ≠ a) : own_ia Z h' b xs := by obtain ⟨k, n, r, V⟩ := F; exact ⟨k, n, r, V.other W q⟩
theorem own_ia.keep {ws : List Addr} (F : own_ia Z h a xs) (K : Keep h h' ws) (q : a ∉ ws) : own_ia Z h' a xs := by obtain ⟨k, n, r, V⟩ := F; exact ⟨k, n, r, V.keep K q⟩
theorem own_ia.new {k : ClassId} {z : Int32} (A : Arr Z h a (newA k .int z) .int) (q : ¬ z < 0) : own_ia Z h a (own_zs z) := by
  refine ⟨k, z, by simp [own_zs], ?_⟩
  have V := (Arv.new A q).pad (pad_rep [] (.int 0) z.toNatClampNeg)
  have e : (own_zs z).map Value.int = [] ++ List.replicate z.toNatClampNeg (Value.int 0) := by simp [own_zs]
  rw [e]; exact V
theorem own_ia.get (F : own_ia Z h a xs) (hj : own_inx xs j = true) : ∃ c : Cell, Arr Z h a c .int ∧ ¬ (j < 0 ∨ c.slots.size ≤ j.toNatClampNeg) ∧ c.slots[j.toNatClampNeg]? = some (.int (own_rd xs j)) := by
  obtain ⟨k, n, q, c, A, -, S, -, H, -⟩ := F
  have hi := own_inx_e hj
  have hin : ¬ (j < 0 ∨ c.slots.size ≤ j.toNatClampNeg) := fun y => y.elim hi.1 fun y => by omega
  refine ⟨c, A, hin, ?_⟩
  rw [H _ (by omega), own_getD_map]; rfl
theorem own_ia.put (F : own_ia Z h a xs) (hj : own_inx xs j = true) : ∃ c : Cell, Arr Z h a c .int ∧ ¬ (j < 0 ∨ c.slots.size ≤ j.toNatClampNeg) ∧ ∀ (h' : Heap) (v : Int32), Wr h h' a j.toNatClampNeg (.int v) → own_ia Z h' a (own_wr xs j v) := by
  obtain ⟨k, n, q, c, A, q1, S, M, H, G⟩ := F
  have hi := own_inx_e hj
  refine ⟨c, A, fun y => y.elim hi.1 fun y => by omega, fun h' v W => ⟨k, n, by simp [own_wr, q], ?_⟩⟩
  have V := Arv.set A q1 S M H G rfl W j.toNatClampNeg rfl (by simpa using hi.2)
  have e : (own_wr xs j v).map Value.int = (xs.map Value.int).set j.toNatClampNeg (Value.int v) := by simp [own_wr]
  rw [e]; exact V
theorem own_ia.alen (F : own_ia Z h a xs) : ∃ c : Cell, Arr Z h a c .int ∧ c.slots.size.toInt32 = own_len xs := by
  obtain ⟨k, n, q, c, A, q1, S, M, H, G⟩ := F
  refine ⟨c, A, ?_⟩
  unfold own_len
  rw [← q, ← S]
theorem exa_plain {C : String} (F : Exa Z h a C) : ∀ c : Cell, h[a]? = some c → c.vm.isStatics = false := fun c hc => by
  obtain ⟨cell, k, h1, -, -, h4, -⟩ := F
  cases h1.symm.trans hc; exact h4
theorem sta_keepL {C n d : String} {w : Value} {ws : List Addr} (F : Sta Z h C n d w) (K : Keep h h' ws) (q : ∀ x ∈ ws, ∀ c : Cell, h[x]? = some c → c.vm.isStatics = false) : Sta Z h' C n d w := by
  obtain ⟨cf, i, k, f, st, cell, h1, h2, h3, h4, h5, h6, r⟩ := F
  exact ⟨cf, i, k, f, st, cell, h1, h2, h3, h4, K.2.1 _ _ h5 (fun y => by rw [q st y cell h5] at h6; cases h6), h6, r⟩
def own_rg (lo bd : Nat) : List Addr := List.range' lo (bd - lo)
theorem own_rg_mem {lo bd x : Nat} (h1 : lo ≤ x) (h2 : x < bd) : x ∈ own_rg lo bd := by unfold own_rg; rw [List.mem_range'_1]; omega
theorem own_rg_nin {lo bd x : Nat} (h : x < lo ∨ bd ≤ x) : x ∉ own_rg lo bd := by unfold own_rg; rw [List.mem_range'_1]; omega
end OwnIa
abbrev own_S := List Int32 × List Int32 × Int32 × Int32
def own_opn (S : own_S) : own_S := (own_wr S.1 S.2.2.1 (-1), own_wr S.2.1 S.2.2.2 S.2.2.1, S.2.2.1 + 1, S.2.2.2 + 1)
def own_cls (S : own_S) : own_S := (own_wr S.1 (own_rd S.2.1 (S.2.2.2 - 1)) S.2.2.1, S.2.1, S.2.2.1, S.2.2.2 - 1)
def own_okO (S : own_S) : Bool := own_inx S.1 S.2.2.1 && own_inx S.2.1 S.2.2.2 && decide (¬ S.2.2.1 = own_len S.1) && decide (¬ S.2.2.2 = own_len S.2.1) && decide (S.1.length = 16)
def own_okC (S : own_S) : Bool := own_inx S.2.1 (S.2.2.2 - 1) && own_inx S.1 (own_rd S.2.1 (S.2.2.2 - 1))
def own_S0 : own_S := (own_zs 16, own_zs 16, 0, 0)
def own_il (Z : State) (h : Heap) (o v : Addr) (xs : List Int32) (sz : Int32) : Prop := Exa Z h o "com/example/twigmeter/twigmeter/xml/IntList" ∧ Fld Z h o "com/example/twigmeter/twigmeter/xml/IntList" "values" "[I" (.ref v) ∧ Fld Z h o "com/example/twigmeter/twigmeter/xml/IntList" "size" "I" (.int sz) ∧ own_ia Z h v xs
def own_tr (Z : State) (h : Heap) (t : Nat) (lo bd : Nat) (S : own_S) : Prop := ∃ (nm vn at_ va en ve op vo : Nat) (xn xa : List Int32), xn.length = 16 ∧ xa.length = 16 ∧ lo ≤ (t : Nat) ∧ (t : Nat) < (nm : Nat) ∧ (nm : Nat) < (vn : Nat) ∧ (vn : Nat) < (at_ : Nat) ∧ (at_ : Nat) < (va : Nat) ∧ (va : Nat) < (en : Nat) ∧ (en : Nat) < (ve : Nat) ∧ (ve : Nat) < (op : Nat) ∧ (op : Nat) < (vo : Nat) ∧ (vo : Nat) < bd ∧ bd ≤ h.size ∧
  Exa Z h t "com/example/twigmeter/twigmeter/xml/ElementTree" ∧ Fld Z h t "com/example/twigmeter/twigmeter/xml/ElementTree" "nameNumbers" "Lcom/example/twigmeter/twigmeter/xml/IntList;" (.ref nm) ∧ Fld Z h t "com/example/twigmeter/twigmeter/xml/ElementTree" "attributes" "Lcom/example/twigmeter/twigmeter/xml/IntList;" (.ref at_) ∧ Fld Z h t "com/example/twigmeter/twigmeter/xml/ElementTree" "ends" "Lcom/example/twigmeter/twigmeter/xml/IntList;" (.ref en) ∧ Fld Z h t "com/example/twigmeter/twigmeter/xml/ElementTree" "open" "Lcom/example/twigmeter/twigmeter/xml/IntList;" (.ref op) ∧
  own_il Z h nm vn xn S.2.2.1 ∧ own_il Z h at_ va xa S.2.2.1 ∧ own_il Z h en ve S.1 S.2.2.1 ∧ own_il Z h op vo S.2.1 S.2.2.2
section OwnTr
variable {Z : State} {h h' : Heap} {o v : Addr} {t lo bd : Nat} {S : own_S} {xs : List Int32} {sz : Int32}
theorem own_il.ext (F : own_il Z h o v xs sz) (E : Ext h h') : own_il Z h' o v xs sz := ⟨F.1.ext E, F.2.1.ext E, F.2.2.1.ext E, F.2.2.2.ext E⟩
theorem own_il.keep {ws : List Addr} (F : own_il Z h o v xs sz) (K : Keep h h' ws) (q1 : o ∉ ws) (q2 : v ∉ ws) : own_il Z h' o v xs sz := ⟨F.1.keep K, F.2.1.keep K q1, F.2.2.1.keep K q1, F.2.2.2.keep K q2⟩
theorem own_tr.bdle (F : own_tr Z h t lo bd S) : bd ≤ h.size := by obtain ⟨_, _, _, _, _, _, _, _, _, _, _, _, _, _, _, _, _, _, _, _, _, _, q, _⟩ := F; exact q
theorem own_tr.exa (F : own_tr Z h t lo bd S) : Exa Z h t "com/example/twigmeter/twigmeter/xml/ElementTree" := by
  obtain ⟨nm, vn, at_, va, en, ve, op, vo, xn, xa, l1, l2, o1, o2, o3, o4, o5, o6, o7, o8, o9, o10, q, f1, _⟩ := F; exact f1
theorem own_tr.tlo (F : own_tr Z h t lo bd S) : lo ≤ t ∧ t < bd := by
  obtain ⟨nm, vn, at_, va, en, ve, op, vo, xn, xa, l1, l2, o1, o2, o3, o4, o5, o6, o7, o8, o9, o10, q, f1, _⟩ := F; omega
theorem own_ne {x y : Nat} (h : x < y) : x ≠ y := Nat.ne_of_lt h
theorem own_tr.ext (F : own_tr Z h t lo bd S) (E : Ext h h') : own_tr Z h' t lo bd S := by
  obtain ⟨nm, vn, at_, va, en, ve, op, vo, xn, xa, l1, l2, o1, o2, o3, o4, o5, o6, o7, o8, o9, o10, q, f1, f2, f3, f4, f5, i1, i2, i3, i4⟩ := F
  exact ⟨nm, vn, at_, va, en, ve, op, vo, xn, xa, l1, l2, o1, o2, o3, o4, o5, o6, o7, o8, o9, o10, Nat.le_trans q E.1, f1.ext E, f2.ext E, f3.ext E, f4.ext E, f5.ext E, i1.ext E, i2.ext E, i3.ext E, i4.ext E⟩
theorem own_tr.keep {ws : List Addr} (F : own_tr Z h t lo bd S) (K : Keep h h' ws) (w : ∀ x ∈ ws, bd ≤ x) : own_tr Z h' t lo bd S := by
  obtain ⟨nm, vn, at_, va, en, ve, op, vo, xn, xa, l1, l2, o1, o2, o3, o4, o5, o6, o7, o8, o9, o10, q, f1, f2, f3, f4, f5, i1, i2, i3, i4⟩ := F
  have nin : ∀ x : Nat, x < bd → x ∉ ws := fun x hx y => absurd hx (Nat.not_lt.2 (w x y))
  exact ⟨nm, vn, at_, va, en, ve, op, vo, xn, xa, l1, l2, o1, o2, o3, o4, o5, o6, o7, o8, o9, o10, Nat.le_trans q K.1, f1.keep K, f2.keep K (nin _ (by omega)), f3.keep K (nin _ (by omega)), f4.keep K (nin _ (by omega)), f5.keep K (nin _ (by omega)), i1.keep K (nin _ (by omega)) (nin _ (by omega)), i2.keep K (nin _ (by omega)) (nin _ (by omega)), i3.keep K (nin _ (by omega)) (nin _ (by omega)), i4.keep K (nin _ (by omega)) (nin _ (by omega))⟩
end OwnTr
def own_pop (en st : List Int32) (i : Int32) : Nat → Int32 → Option Int32
  | 0, _ => none
  | k + 1, sz => if sz = (0 : Int32) then some sz else if own_inx st (sz - 1) = true ∧ own_inx en (own_rd st (sz - 1)) = true then (if i < own_rd en (own_rd st (sz - 1)) then some sz else own_pop en st i k (sz - 1)) else none
theorem own_pop_0 {en st : List Int32} {i : Int32} {k : Nat} {sz fin : Int32} (h : own_pop en st i k sz = some fin) (h0 : sz = (0 : Int32)) : sz = fin := by
  cases k with
  | zero => cases h
  | succ k => simp only [own_pop, if_pos h0, Option.some.injEq] at h; exact h
theorem own_pop_s {en st : List Int32} {i : Int32} {k : Nat} {sz fin : Int32} (h : own_pop en st i k sz = some fin) (h0 : ¬ sz = (0 : Int32)) : own_inx st (sz - 1) = true ∧ own_inx en (own_rd st (sz - 1)) = true ∧ (i < own_rd en (own_rd st (sz - 1)) → sz = fin) ∧ (¬ i < own_rd en (own_rd st (sz - 1)) → ∃ k' : Nat, k' < k ∧ own_pop en st i k' (sz - 1) = some fin) := by
  cases k with
  | zero => cases h
  | succ k =>
    simp only [own_pop, if_neg h0] at h
    by_cases c : own_inx st (sz - 1) = true ∧ own_inx en (own_rd st (sz - 1)) = true
    · rw [if_pos c] at h
      refine ⟨c.1, c.2, fun q => ?_, fun q => ⟨k, Nat.lt_succ_self k, ?_⟩⟩
      · rw [if_pos q] at h; exact Option.some.inj h
      · rw [if_neg q] at h; exact h
    · rw [if_neg c] at h; cases h
def own_A (en : List Int32) : Nat → Int32 → List Int32 → List Int32 → Int32 → Option (List Int32)
  | 0, _, _, _, _ => none
  | k + 1, i, par, st, sz => if i < (4 : Int32) then (match own_pop en st i 6 sz with
      | none => none
      | some s1 => if own_inx par i = true ∧ (¬ s1 = (0 : Int32) → own_inx st (s1 - 1) = true) ∧ own_inx st s1 = true ∧ ¬ s1 = own_len st then own_A en k (i + 1) (own_wr par i (if s1 = (0 : Int32) then (-1 : Int32) else own_rd st (s1 - 1))) (own_wr st s1 i) (s1 + 1) else none) else some par
theorem own_A_out {en : List Int32} {k : Nat} {i : Int32} {par st : List Int32} {sz : Int32} {F : List Int32} (h : own_A en k i par st sz = some F) (hc : ¬ i < (4 : Int32)) : par = F := by
  cases k with
  | zero => cases h
  | succ k => simp only [own_A, if_neg hc, Option.some.injEq] at h; exact h
theorem own_A_in {en : List Int32} {k : Nat} {i : Int32} {par st : List Int32} {sz : Int32} {F : List Int32} (h : own_A en k i par st sz = some F) (hc : i < (4 : Int32)) :
    ∃ s1, own_pop en st i 6 sz = some s1 ∧ own_inx par i = true ∧ (¬ s1 = (0 : Int32) → own_inx st (s1 - 1) = true) ∧ own_inx st s1 = true ∧ ¬ s1 = own_len st ∧ ∃ k' : Nat, k' < k ∧ own_A en k' (i + 1) (own_wr par i (if s1 = (0 : Int32) then (-1 : Int32) else own_rd st (s1 - 1))) (own_wr st s1 i) (s1 + 1) = some F := by
  cases k with
  | zero => cases h
  | succ k =>
    simp only [own_A, if_pos hc] at h
    cases hp : own_pop en st i 6 sz with
    | none => rw [hp] at h; cases h
    | some s1 =>
      rw [hp] at h
      dsimp only at h
      by_cases c : own_inx par i = true ∧ (¬ s1 = (0 : Int32) → own_inx st (s1 - 1) = true) ∧ own_inx st s1 = true ∧ ¬ s1 = own_len st
      · rw [if_pos c] at h; exact ⟨s1, rfl, c.1, c.2.1, c.2.2.1, c.2.2.2, k, Nat.lt_succ_self k, h⟩
      · rw [if_neg c] at h; cases h
def own_C (par : List Int32) : Nat → Int32 → List Int32 → Option (List Int32)
  | 0, _, _ => none
  | k + 1, i, xs => if i < (4 : Int32) then (if own_inx par i = true then (if own_rd par i = (-1 : Int32) then own_C par k (i + 1) xs else if own_inx xs (own_rd par i + 1) = true then own_C par k (i + 1) (own_wr xs (own_rd par i + 1) (own_rd xs (own_rd par i + 1) + 1)) else none) else none) else some xs
theorem own_C_out {par : List Int32} {k : Nat} {i : Int32} {xs F : List Int32} (h : own_C par k i xs = some F) (hc : ¬ i < (4 : Int32)) : xs = F := by
  cases k with
  | zero => cases h
  | succ k => simp only [own_C, if_neg hc, Option.some.injEq] at h; exact h
theorem own_C_in {par : List Int32} {k : Nat} {i : Int32} {xs F : List Int32} (h : own_C par k i xs = some F) (hc : i < (4 : Int32)) :
    own_inx par i = true ∧ (own_rd par i = (-1 : Int32) → ∃ k' : Nat, k' < k ∧ own_C par k' (i + 1) xs = some F) ∧ (¬ own_rd par i = (-1 : Int32) → own_inx xs (own_rd par i + 1) = true ∧ ∃ k' : Nat, k' < k ∧ own_C par k' (i + 1) (own_wr xs (own_rd par i + 1) (own_rd xs (own_rd par i + 1) + 1)) = some F) := by
  cases k with
  | zero => cases h
  | succ k =>
    simp only [own_C, if_pos hc] at h
    by_cases c : own_inx par i = true
    · rw [if_pos c] at h
      refine ⟨c, fun q => ⟨k, Nat.lt_succ_self k, by rw [if_pos q] at h; exact h⟩, fun q => ?_⟩
      rw [if_neg q] at h
      by_cases c2 : own_inx xs (own_rd par i + 1) = true
      · rw [if_pos c2] at h; exact ⟨c2, k, Nat.lt_succ_self k, h⟩
      · rw [if_neg c2] at h; cases h
    · rw [if_neg c] at h; cases h
def own_D : Nat → Int32 → List Int32 → Option (List Int32)
  | 0, _, _ => none
  | k + 1, i, xs => if i < (4 : Int32) then (if own_inx xs (i + 1) = true ∧ own_inx xs i = true then own_D k (i + 1) (own_wr xs (i + 1) (own_rd xs (i + 1) + own_rd xs i)) else none) else some xs
theorem own_D_out {k : Nat} {i : Int32} {xs F : List Int32} (h : own_D k i xs = some F) (hc : ¬ i < (4 : Int32)) : xs = F := by
  cases k with
  | zero => cases h
  | succ k => simp only [own_D, if_neg hc, Option.some.injEq] at h; exact h
theorem own_D_in {k : Nat} {i : Int32} {xs F : List Int32} (h : own_D k i xs = some F) (hc : i < (4 : Int32)) : own_inx xs (i + 1) = true ∧ own_inx xs i = true ∧ ∃ k' : Nat, k' < k ∧ own_D k' (i + 1) (own_wr xs (i + 1) (own_rd xs (i + 1) + own_rd xs i)) = some F := by
  cases k with
  | zero => cases h
  | succ k =>
    simp only [own_D, if_pos hc] at h
    by_cases c : own_inx xs (i + 1) = true ∧ own_inx xs i = true
    · rw [if_pos c] at h; exact ⟨c.1, c.2, k, Nat.lt_succ_self k, h⟩
    · rw [if_neg c] at h; cases h
def own_E (par fc : List Int32) : Nat → Int32 → List Int32 → List Int32 → Option (List Int32)
  | 0, _, _, _ => none
  | k + 1, i, ch, nx => if i < (4 : Int32) then (if own_inx par i = true then (if own_rd par i = (-1 : Int32) then own_E par fc k (i + 1) ch nx else if own_inx fc (own_rd par i) = true ∧ own_inx nx (own_rd par i) = true ∧ own_inx ch (own_rd fc (own_rd par i) + own_rd nx (own_rd par i)) = true then own_E par fc k (i + 1) (own_wr ch (own_rd fc (own_rd par i) + own_rd nx (own_rd par i)) i) (own_wr nx (own_rd par i) (own_rd nx (own_rd par i) + 1)) else none) else none) else some ch
theorem own_E_out {par fc : List Int32} {k : Nat} {i : Int32} {ch nx F : List Int32} (h : own_E par fc k i ch nx = some F) (hc : ¬ i < (4 : Int32)) : ch = F := by
  cases k with
  | zero => cases h
  | succ k => simp only [own_E, if_neg hc, Option.some.injEq] at h; exact h
theorem own_E_in {par fc : List Int32} {k : Nat} {i : Int32} {ch nx F : List Int32} (h : own_E par fc k i ch nx = some F) (hc : i < (4 : Int32)) :
    own_inx par i = true ∧ (own_rd par i = (-1 : Int32) → ∃ k' : Nat, k' < k ∧ own_E par fc k' (i + 1) ch nx = some F) ∧ (¬ own_rd par i = (-1 : Int32) → own_inx fc (own_rd par i) = true ∧ own_inx nx (own_rd par i) = true ∧ own_inx ch (own_rd fc (own_rd par i) + own_rd nx (own_rd par i)) = true ∧ ∃ k' : Nat, k' < k ∧ own_E par fc k' (i + 1) (own_wr ch (own_rd fc (own_rd par i) + own_rd nx (own_rd par i)) i) (own_wr nx (own_rd par i) (own_rd nx (own_rd par i) + 1)) = some F) := by
  cases k with
  | zero => cases h
  | succ k =>
    simp only [own_E, if_pos hc] at h
    by_cases c : own_inx par i = true
    · rw [if_pos c] at h
      refine ⟨c, fun q => ⟨k, Nat.lt_succ_self k, by rw [if_pos q] at h; exact h⟩, fun q => ?_⟩
      rw [if_neg q] at h
      by_cases c2 : own_inx fc (own_rd par i) = true ∧ own_inx nx (own_rd par i) = true ∧ own_inx ch (own_rd fc (own_rd par i) + own_rd nx (own_rd par i)) = true
      · rw [if_pos c2] at h; exact ⟨c2.1, c2.2.1, c2.2.2, k, Nat.lt_succ_self k, h⟩
      · rw [if_neg c2] at h; cases h
    · rw [if_neg c] at h; cases h
def own_cts (nn : Int32) (S : own_S) : own_S := if nn = (0 : Int32) then S else if nn = (1 : Int32) then own_cls S else if nn = (2 : Int32) then own_cls (own_cls S) else if nn = (3 : Int32) then own_cls (own_cls (own_cls S)) else own_cls (own_cls (own_cls (own_cls S)))
def own_okCs (nn : Int32) (S : own_S) : Bool := if nn = (0 : Int32) then true else own_okC S && (if nn = (1 : Int32) then true else own_okC (own_cls S) && (if nn = (2 : Int32) then true else own_okC (own_cls (own_cls S)) && (if nn = (3 : Int32) then true else own_okC (own_cls (own_cls (own_cls S))))))
def own_stp (nn : Int32) (S : own_S) : own_S := own_opn (own_cts nn S)
theorem own_cts_0 (S : own_S) : own_cts 0 S = S := by simp [own_cts]
theorem own_cts_1 (S : own_S) : own_cts 1 S = own_cls S := by simp [own_cts]
theorem own_cts_2 (S : own_S) : own_cts 2 S = own_cls (own_cls S) := by simp [own_cts]
theorem own_cts_3 (S : own_S) : own_cts 3 S = own_cls (own_cls (own_cls S)) := by simp [own_cts]
theorem own_cts_4 (S : own_S) : own_cts 4 S = own_cls (own_cls (own_cls (own_cls S))) := by simp [own_cts]
theorem own_okCs_1 {S : own_S} (h : own_okCs 1 S = true) : own_okC S = true := by simpa [own_okCs] using h
theorem own_okCs_2 {S : own_S} (h : own_okCs 2 S = true) : own_okC S = true ∧ own_okC (own_cls S) = true := by simpa [own_okCs] using h
theorem own_okCs_3 {S : own_S} (h : own_okCs 3 S = true) : own_okC S = true ∧ own_okC (own_cls S) = true ∧ own_okC (own_cls (own_cls S)) = true := by simpa [own_okCs] using h
theorem own_okCs_4 {S : own_S} (h : own_okCs 4 S = true) : own_okC S = true ∧ own_okC (own_cls S) = true ∧ own_okC (own_cls (own_cls S)) = true ∧ own_okC (own_cls (own_cls (own_cls S))) = true := by simpa [own_okCs] using h
theorem own_okO_e {S : own_S} (h : own_okO S = true) : own_inx S.1 S.2.2.1 = true ∧ own_inx S.2.1 S.2.2.2 = true ∧ ¬ (S.2.2.1 = own_len S.1) ∧ ¬ (S.2.2.2 = own_len S.2.1) ∧ S.1.length = 16 := by
  simp only [own_okO, Bool.and_eq_true, decide_eq_true_eq] at h
  exact ⟨h.1.1.1.1, h.1.1.1.2, h.1.1.2, h.1.2, h.2⟩
theorem own_okC_e {S : own_S} (h : own_okC S = true) : own_inx S.2.1 (S.2.2.2 - 1) = true ∧ own_inx S.1 (own_rd S.2.1 (S.2.2.2 - 1)) = true := by
  simp only [own_okC, Bool.and_eq_true] at h; exact h
theorem own_x16 {S : own_S} (h : own_okO S = true) {xs : List Int32} (l : xs.length = 16) : own_inx xs S.2.2.1 = true ∧ ¬ (S.2.2.1 = own_len xs) := by
  have e := own_okO_e h
  have l2 : xs.length = S.1.length := l.trans e.2.2.2.2.symm
  refine ⟨by rw [own_inx_len l2]; exact e.1, ?_⟩
  have : own_len xs = own_len S.1 := by unfold own_len; rw [l2]
  rw [this]; exact e.2.2.1
theorem own_e1 {p : Prop} [Decidable p] {x : Int32} (h : x = (if p then (1 : Int32) else (0 : Int32))) (c : ¬ (x = (0 : Int32))) : p := by
  by_cases q : p
  · exact q
  · rw [if_neg q] at h; exact absurd h c
theorem own_e0 {p : Prop} [Decidable p] {x : Int32} (h : x = (if p then (1 : Int32) else (0 : Int32))) (c : x = (0 : Int32)) : ¬ p := by
  intro q; rw [if_pos q, c] at h; exact absurd h (by decide)
def own_bel (dz : Int32) (F2 CH : List Int32) (e pl : Int32) : Int32 := if dz = (0 : Int32) then own_rd CH (own_rd F2 e + pl) else e + 1 + pl
def own_insub (xs : List Int32) (e j : Int32) : Int32 := if e < j then (if j < e + 1 ∨ own_rd xs e < own_rd xs (e + 1) then (if j < e + 2 ∨ own_rd xs e < own_rd xs (e + 2) then (if j < e + 3 ∨ own_rd xs e < own_rd xs (e + 3) then (1 : Int32) else 0) else 0) else 0) else 0
def own_par (xs : List Int32) (j : Int32) : Int32 := if own_rd xs j = (0 : Int32) then (-1 : Int32) else if ¬ (j < 1) ∧ own_rd xs (j - 1) = own_rd xs j - 1 then j - 1 else if ¬ (j < 2) ∧ own_rd xs (j - 2) = own_rd xs j - 1 then j - 2 else if ¬ (j < 3) ∧ own_rd xs (j - 3) = own_rd xs j - 1 then j - 3 else (-1 : Int32)
def own_wn (xs : List Int32) (ds e j : Int32) : Int32 := if ds = (0 : Int32) then (if own_par xs j = e then (1 : Int32) else 0) else own_insub xs e j
theorem own_insub_b (xs : List Int32) (e j : Int32) : nar .boolean (own_insub xs e j) = own_insub xs e j := by
  unfold own_insub
  repeat' split
  all_goals rfl
theorem d2_0 : decode method_7_code 0 = .ok (.iload_n 2, 1) := by decide +kernel
theorem d2_1 : decode method_7_code 1 = .ok (.iload_n 1, 1) := by decide +kernel
theorem d2_2 : decode method_7_code 2 = .ok (.if_icmp .gt 5, 3) := by decide +kernel
theorem d2_5 : decode method_7_code 5 = .ok (.iconst 0, 1) := by decide +kernel
theorem d2_6 : decode method_7_code 6 = .ok (.ireturn, 1) := by decide +kernel
theorem pn_2 : plainName "com/example/twigmeter/twigmeter/workload/ReachBelowPinLaw" = true := by first | (simp [plainName, overriddenIn]; done) | decide +kernel
theorem ef_2 (m : MethodId) (x0 : Addr) (x1 : Int32) (x2 : Int32) : entryFrame m #[(.ref x0), (.int x1), (.int x2)] 3 = mkF m 0 #[.val (.ref x0), .val (.int x1), .val (.int x2)] [] := by first | (simp [entryFrame, mkF, argsToLocals, Value.category]; done) | rfl
theorem own_split_2_0 (el : Int32) (d1 : Int32) (d2 : Int32) (d3 : Int32) (he : el = (0 : Int32) ∨ el = (1 : Int32) ∨ el = (2 : Int32) ∨ el = (3 : Int32)) (e1 : Int32) (he1 : e1 = el) : e1 = (0 : Int32) ∨ e1 = (1 : Int32) ∨ e1 = (2 : Int32) ∨ e1 = (3 : Int32) := by subst he1; exact he
theorem own_leaf_2_6_s0 (el : Int32) (d1 : Int32) (d2 : Int32) (d3 : Int32) (he : el = (0 : Int32) ∨ el = (1 : Int32) ∨ el = (2 : Int32) ∨ el = (3 : Int32)) (he1 : (0 : Int32) = el) : (0 : Int32) = (own_insub [(0 : Int32), d1, d2, d3] el (0 : Int32)) := by subst he1; simp [own_insub, own_rd, *]
theorem own_leaf_2_6_s1 (el : Int32) (d1 : Int32) (d2 : Int32) (d3 : Int32) (he : el = (0 : Int32) ∨ el = (1 : Int32) ∨ el = (2 : Int32) ∨ el = (3 : Int32)) (he1 : (1 : Int32) = el) : (0 : Int32) = (own_insub [(0 : Int32), d1, d2, d3] el (0 : Int32)) := by subst he1; simp [own_insub, own_rd, *]
theorem own_leaf_2_6_s2 (el : Int32) (d1 : Int32) (d2 : Int32) (d3 : Int32) (he : el = (0 : Int32) ∨ el = (1 : Int32) ∨ el = (2 : Int32) ∨ el = (3 : Int32)) (he1 : (2 : Int32) = el) : (0 : Int32) = (own_insub [(0 : Int32), d1, d2, d3] el (0 : Int32)) := by subst he1; simp [own_insub, own_rd, *]
theorem own_leaf_2_6_s3 (el : Int32) (d1 : Int32) (d2 : Int32) (d3 : Int32) (he : el = (0 : Int32) ∨ el = (1 : Int32) ∨ el = (2 : Int32) ∨ el = (3 : Int32)) (he1 : (3 : Int32) = el) : (0 : Int32) = (own_insub [(0 : Int32), d1, d2, d3] el (0 : Int32)) := by subst he1; simp [own_insub, own_rd, *]
def Q2 (Z : State) (dr : Addr) (el : Int32) (jj : Int32) (d1 : Int32) (d2 : Int32) (d3 : Int32) (h0 : Heap) (n0 : Nat) (v : Option Value) (h : Heap) (L : List Loc) : Prop := v = some (.int (own_insub [(0 : Int32), d1, d2, d3] el jj)) ∧ Fr n0 L ∧ h = h0
set_option maxRecDepth 65536 in
set_option maxHeartbeats 40000000 in
theorem rm2 (l : Launch) (Z : State) (a0 : Array Value) (hw : ∀ d ∈ tables_1, d.before a0 Z = true) (ws : List Jvm.Cond) (dr : Addr) (el : Int32) (jj : Int32) (d1 : Int32) (d2 : Int32) (d3 : Int32) (h0 : Heap) (n0 : Nat) (Z0 : n0 ≤ h0.size) (I0 : own_ia Z h0 dr [(0 : Int32), d1, d2, d3]) (he : el = (0 : Int32) ∨ el = (1 : Int32) ∨ el = (2 : Int32) ∨ el = (3 : Int32)) (hlit_jj : jj = (0 : Int32)) :
    MetFree l (⟨"com/example/twigmeter/twigmeter/workload/ReachBelowPinLaw", "inSub", "([III)Z"⟩ : MethodName) (head1 (Jvm.Cond.code (⟨"com/example/twigmeter/twigmeter/workload/ReachBelowPinLaw", "inSub", "([III)Z"⟩ : MethodName) method_7_code 3 (some .boolean) :: ws) ({ frames := 0, cells := 0, slots := 0, locals := 0 } : Room)) (fun a U => a = #[(.ref dr), (.int el), (.int jj)] ∧ Z.Warmed39 U.vm ∧ U.heap = h0) (fun _ _ _ _ _ => True) (fun _ U o U' => ∃ v L, o = .returned v ∧ Q2 Z dr el jj d1 d2 d3 h0 n0 v U'.heap L ∧ FrameEnd U o U' L ({ frames := 0, cells := 0, slots := 0, locals := 0 } : Room).cells ({ frames := 0, cells := 0, slots := 0, locals := 0 } : Room).slots) := by
  refine MetFree.of_bodySF (plainFor_of_name pn_2) hisR ?_
  intro p e s m args below meth c s₁ Bd hml0 hP hK
  obtain ⟨rfl, hZ, hh⟩ := hP
  have hx := Bd.exec
  have hby := Bd.bytes
  have hml : c.maxLocals = 3 := hml0
  have hown : s.vm.findClass "com/example/twigmeter/twigmeter/workload/ReachBelowPinLaw" = some m.cls := findClass_of_methodNamed Bd.named
  have hnm := (name_of_methodNamed Bd.named Bd.method).1
  have X0 : Stand p l e ({ frames := 0, cells := 0, slots := 0, locals := 0 } : Room) s m #[(.ref dr), (.int el), (.int jj)] below meth c s₁ [] 0 0 := Stand.of_body Bd
  have e0 : s₁.heap = h0 := by rw [← hh, Bd.state]; rfl
  have N0 := Fr.nil n0
  have K0 : Keep h0 h0 [] := Keep.refl h0 _
  have pre0 : ∀ tq, Steps p.tables e below (s₁.setTop (mkF m 0 #[.val (.ref dr), .val (.int el), .val (.int jj)] [])) tq → Steps p.tables e below (s₁.setTop (entryFrame m #[(.ref dr), (.int el), (.int jj)] 3)) tq := fun tq kq => castTop (ef_2 m dr el jj) kq
  subst hlit_jj
  obtain ⟨e1, he1⟩ : ∃ z_q : Int32, z_q = el := ⟨_, rfl⟩
  have pre1 : ∀ tq, Steps p.tables e below (s₁.setTop (mkF m 0 #[.val (.ref dr), .val (.int e1), .val (.int (0 : Int32))] [])) tq → Steps p.tables e below (s₁.setTop (entryFrame m #[(.ref dr), (.int el), (.int (0 : Int32))] 3)) tq := by
    intro tq kt
    refine pre0 _ ?_
    show Steps p.tables e below (s₁.setTop (mkF m 0 #[.val (.ref dr), .val (.int el), .val (.int (0 : Int32))] [])) _
    rw [← he1]
    show Steps p.tables e below (s₁.setTop (mkF m 0 #[.val (.ref dr), .val (.int e1), .val (.int (0 : Int32))] [])) _
    exact kt
  rcases (own_split_2_0 el d1 d2 d3 he e1 he1) with hs2 | hs2 | hs2 | hs2
  · subst hs2
    obtain ⟨fs, hr, hrun, hended, hW, hsame⟩ := X0.leave (v := some (Value.int (0 : Int32))) (fun h => by rw [Bd.returns] at h; cases h)
    have hres3 : (0 : Int32) = (own_insub [(0 : Int32), d1, d2, d3] el (0 : Int32)) := (own_leaf_2_6_s0 el d1 d2 d3 he he1)
    refine ⟨_, _, pre1 _ ?_, hrun, hended, _, _, rfl, ?_, ⟨_, rfl⟩, hW, hsame.mono (by decide) (by decide)⟩
    · skip
      show Steps p.tables e below (s₁.setTop (mkF m 0 #[.val (.ref dr), .val (.int (0 : Int32)), .val (.int (0 : Int32))] [])) _
      refine XS.iloadN X0.here hx rfl (hb hby d2_0) rfl ?_
      refine XS.iloadN X0.here hx rfl (hb hby d2_1) rfl ?_
      refine XS.icmpNo X0.here hx rfl (hb hby d2_2) rfl (flt (by decide)).2.2.1 ?_
      refine XS.iconst X0.here hx rfl (hb hby d2_5) ?_
      show Steps p.tables e below (s₁.setTop (mkF m 6 #[.val (.ref dr), .val (.int (0 : Int32)), .val (.int (0 : Int32))] [(.int (0 : Int32))])) _
      exact retN X0 hx (t := .boolean) Bd.returns (by simp) (hb hby d2_6) hr
    · show Q2 Z dr el (0 : Int32) d1 d2 d3 h0 n0 _ s₁.heap _
      rw [e0]
      exact ⟨congrArg (fun z => some (Value.int z)) hres3, N0, rfl⟩
  · subst hs2
    obtain ⟨fs, hr, hrun, hended, hW, hsame⟩ := X0.leave (v := some (Value.int (0 : Int32))) (fun h => by rw [Bd.returns] at h; cases h)
    have hres4 : (0 : Int32) = (own_insub [(0 : Int32), d1, d2, d3] el (0 : Int32)) := (own_leaf_2_6_s1 el d1 d2 d3 he he1)
    refine ⟨_, _, pre1 _ ?_, hrun, hended, _, _, rfl, ?_, ⟨_, rfl⟩, hW, hsame.mono (by decide) (by decide)⟩
    · skip
      show Steps p.tables e below (s₁.setTop (mkF m 0 #[.val (.ref dr), .val (.int (1 : Int32)), .val (.int (0 : Int32))] [])) _
      refine XS.iloadN X0.here hx rfl (hb hby d2_0) rfl ?_
      refine XS.iloadN X0.here hx rfl (hb hby d2_1) rfl ?_
      refine XS.icmpNo X0.here hx rfl (hb hby d2_2) rfl (flt (by decide)).2.2.1 ?_
      refine XS.iconst X0.here hx rfl (hb hby d2_5) ?_
      show Steps p.tables e below (s₁.setTop (mkF m 6 #[.val (.ref dr), .val (.int (1 : Int32)), .val (.int (0 : Int32))] [(.int (0 : Int32))])) _
      exact retN X0 hx (t := .boolean) Bd.returns (by simp) (hb hby d2_6) hr
    · show Q2 Z dr el (0 : Int32) d1 d2 d3 h0 n0 _ s₁.heap _
      rw [e0]
      exact ⟨congrArg (fun z => some (Value.int z)) hres4, N0, rfl⟩
  · subst hs2
    obtain ⟨fs, hr, hrun, hended, hW, hsame⟩ := X0.leave (v := some (Value.int (0 : Int32))) (fun h => by rw [Bd.returns] at h; cases h)
    have hres5 : (0 : Int32) = (own_insub [(0 : Int32), d1, d2, d3] el (0 : Int32)) := (own_leaf_2_6_s2 el d1 d2 d3 he he1)
    refine ⟨_, _, pre1 _ ?_, hrun, hended, _, _, rfl, ?_, ⟨_, rfl⟩, hW, hsame.mono (by decide) (by decide)⟩
    · skip
      show Steps p.tables e below (s₁.setTop (mkF m 0 #[.val (.ref dr), .val (.int (2 : Int32)), .val (.int (0 : Int32))] [])) _
      refine XS.iloadN X0.here hx rfl (hb hby d2_0) rfl ?_
      refine XS.iloadN X0.here hx rfl (hb hby d2_1) rfl ?_
      refine XS.icmpNo X0.here hx rfl (hb hby d2_2) rfl (flt (by decide)).2.2.1 ?_
      refine XS.iconst X0.here hx rfl (hb hby d2_5) ?_
      show Steps p.tables e below (s₁.setTop (mkF m 6 #[.val (.ref dr), .val (.int (2 : Int32)), .val (.int (0 : Int32))] [(.int (0 : Int32))])) _
      exact retN X0 hx (t := .boolean) Bd.returns (by simp) (hb hby d2_6) hr
    · show Q2 Z dr el (0 : Int32) d1 d2 d3 h0 n0 _ s₁.heap _
      rw [e0]
      exact ⟨congrArg (fun z => some (Value.int z)) hres5, N0, rfl⟩
  · subst hs2
    obtain ⟨fs, hr, hrun, hended, hW, hsame⟩ := X0.leave (v := some (Value.int (0 : Int32))) (fun h => by rw [Bd.returns] at h; cases h)
    have hres6 : (0 : Int32) = (own_insub [(0 : Int32), d1, d2, d3] el (0 : Int32)) := (own_leaf_2_6_s3 el d1 d2 d3 he he1)
    refine ⟨_, _, pre1 _ ?_, hrun, hended, _, _, rfl, ?_, ⟨_, rfl⟩, hW, hsame.mono (by decide) (by decide)⟩
    · skip
      show Steps p.tables e below (s₁.setTop (mkF m 0 #[.val (.ref dr), .val (.int (3 : Int32)), .val (.int (0 : Int32))] [])) _
      refine XS.iloadN X0.here hx rfl (hb hby d2_0) rfl ?_
      refine XS.iloadN X0.here hx rfl (hb hby d2_1) rfl ?_
      refine XS.icmpNo X0.here hx rfl (hb hby d2_2) rfl (flt (by decide)).2.2.1 ?_
      refine XS.iconst X0.here hx rfl (hb hby d2_5) ?_
      show Steps p.tables e below (s₁.setTop (mkF m 6 #[.val (.ref dr), .val (.int (3 : Int32)), .val (.int (0 : Int32))] [(.int (0 : Int32))])) _
      exact retN X0 hx (t := .boolean) Bd.returns (by simp) (hb hby d2_6) hr
    · show Q2 Z dr el (0 : Int32) d1 d2 d3 h0 n0 _ s₁.heap _
      rw [e0]
      exact ⟨congrArg (fun z => some (Value.int z)) hres6, N0, rfl⟩
theorem d2_7 : decode method_7_code 7 = .ok (.iload_n 1, 1) := by decide +kernel
theorem d2_8 : decode method_7_code 8 = .ok (.iconst 1, 1) := by decide +kernel
theorem d2_9 : decode method_7_code 9 = .ok (.iadd, 1) := by decide +kernel
theorem d2_10 : decode method_7_code 10 = .ok (.iload_n 2, 1) := by decide +kernel
theorem d2_11 : decode method_7_code 11 = .ok (.if_icmp .gt 16, 3) := by decide +kernel
theorem d2_14 : decode method_7_code 14 = .ok (.aload_n 0, 1) := by decide +kernel
theorem d2_15 : decode method_7_code 15 = .ok (.iload_n 1, 1) := by decide +kernel
theorem d2_16 : decode method_7_code 16 = .ok (.iconst 1, 1) := by decide +kernel
theorem d2_17 : decode method_7_code 17 = .ok (.iadd, 1) := by decide +kernel
theorem d2_18 : decode method_7_code 18 = .ok (.iaload, 1) := by decide +kernel
theorem d2_19 : decode method_7_code 19 = .ok (.aload_n 0, 1) := by decide +kernel
theorem d2_20 : decode method_7_code 20 = .ok (.iload_n 1, 1) := by decide +kernel
theorem d2_21 : decode method_7_code 21 = .ok (.iaload, 1) := by decide +kernel
theorem d2_22 : decode method_7_code 22 = .ok (.if_icmp .gt 5, 3) := by decide +kernel
theorem d2_25 : decode method_7_code 25 = .ok (.iconst 0, 1) := by decide +kernel
theorem d2_26 : decode method_7_code 26 = .ok (.ireturn, 1) := by decide +kernel
theorem d2_27 : decode method_7_code 27 = .ok (.iload_n 1, 1) := by decide +kernel
theorem d2_28 : decode method_7_code 28 = .ok (.iconst 2, 1) := by decide +kernel
theorem d2_29 : decode method_7_code 29 = .ok (.iadd, 1) := by decide +kernel
theorem d2_30 : decode method_7_code 30 = .ok (.iload_n 2, 1) := by decide +kernel
theorem d2_31 : decode method_7_code 31 = .ok (.if_icmp .gt 16, 3) := by decide +kernel
theorem d2_47 : decode method_7_code 47 = .ok (.iload_n 1, 1) := by decide +kernel
theorem d2_48 : decode method_7_code 48 = .ok (.iconst 3, 1) := by decide +kernel
theorem d2_49 : decode method_7_code 49 = .ok (.iadd, 1) := by decide +kernel
theorem d2_50 : decode method_7_code 50 = .ok (.iload_n 2, 1) := by decide +kernel
theorem d2_51 : decode method_7_code 51 = .ok (.if_icmp .gt 16, 3) := by decide +kernel
theorem d2_67 : decode method_7_code 67 = .ok (.iconst 1, 1) := by decide +kernel
theorem d2_68 : decode method_7_code 68 = .ok (.ireturn, 1) := by decide +kernel
theorem ef_2_1 (m : MethodId) (x0 : Addr) (x1 : Int32) (x2 : Int32) : entryFrame m #[(.ref x0), (.int x1), (.int x2)] 3 = mkF m 0 #[.val (.ref x0), .val (.int x1), .val (.int x2)] [] := by first | (simp [entryFrame, mkF, argsToLocals, Value.category]; done) | rfl
theorem own_split_2_1_0 (el : Int32) (d1 : Int32) (d2 : Int32) (d3 : Int32) (he : el = (0 : Int32) ∨ el = (1 : Int32) ∨ el = (2 : Int32) ∨ el = (3 : Int32)) (e1 : Int32) (he1 : e1 = el) : e1 = (0 : Int32) ∨ e1 = (1 : Int32) ∨ e1 = (2 : Int32) ∨ e1 = (3 : Int32) := by subst he1; exact he
theorem own_leaf_2_1_68_s0t (el : Int32) (d1 : Int32) (d2 : Int32) (d3 : Int32) (he : el = (0 : Int32) ∨ el = (1 : Int32) ∨ el = (2 : Int32) ∨ el = (3 : Int32)) (he1 : (0 : Int32) = el) (hc22_6 : (0 : Int32) < d1) : (1 : Int32) = (own_insub [(0 : Int32), d1, d2, d3] el (1 : Int32)) := by subst he1; simp [own_insub, own_rd, *]
theorem own_leaf_2_1_26_s0f (el : Int32) (d1 : Int32) (d2 : Int32) (d3 : Int32) (he : el = (0 : Int32) ∨ el = (1 : Int32) ∨ el = (2 : Int32) ∨ el = (3 : Int32)) (he1 : (0 : Int32) = el) (hc22_6 : ¬ ((0 : Int32) < d1)) : (0 : Int32) = (own_insub [(0 : Int32), d1, d2, d3] el (1 : Int32)) := by subst he1; simp [own_insub, own_rd, *]
theorem own_leaf_2_1_6_s1 (el : Int32) (d1 : Int32) (d2 : Int32) (d3 : Int32) (he : el = (0 : Int32) ∨ el = (1 : Int32) ∨ el = (2 : Int32) ∨ el = (3 : Int32)) (he1 : (1 : Int32) = el) : (0 : Int32) = (own_insub [(0 : Int32), d1, d2, d3] el (1 : Int32)) := by subst he1; simp [own_insub, own_rd, *]
theorem own_leaf_2_1_6_s2 (el : Int32) (d1 : Int32) (d2 : Int32) (d3 : Int32) (he : el = (0 : Int32) ∨ el = (1 : Int32) ∨ el = (2 : Int32) ∨ el = (3 : Int32)) (he1 : (2 : Int32) = el) : (0 : Int32) = (own_insub [(0 : Int32), d1, d2, d3] el (1 : Int32)) := by subst he1; simp [own_insub, own_rd, *]
theorem own_leaf_2_1_6_s3 (el : Int32) (d1 : Int32) (d2 : Int32) (d3 : Int32) (he : el = (0 : Int32) ∨ el = (1 : Int32) ∨ el = (2 : Int32) ∨ el = (3 : Int32)) (he1 : (3 : Int32) = el) : (0 : Int32) = (own_insub [(0 : Int32), d1, d2, d3] el (1 : Int32)) := by subst he1; simp [own_insub, own_rd, *]
def Q2_1 (Z : State) (dr : Addr) (el : Int32) (jj : Int32) (d1 : Int32) (d2 : Int32) (d3 : Int32) (h0 : Heap) (n0 : Nat) (v : Option Value) (h : Heap) (L : List Loc) : Prop := v = some (.int (own_insub [(0 : Int32), d1, d2, d3] el jj)) ∧ Fr n0 L ∧ h = h0
set_option maxRecDepth 65536 in
set_option maxHeartbeats 40000000 in
theorem rm2_1 (l : Launch) (Z : State) (a0 : Array Value) (hw : ∀ d ∈ tables_1, d.before a0 Z = true) (ws : List Jvm.Cond) (dr : Addr) (el : Int32) (jj : Int32) (d1 : Int32) (d2 : Int32) (d3 : Int32) (h0 : Heap) (n0 : Nat) (Z0 : n0 ≤ h0.size) (I0 : own_ia Z h0 dr [(0 : Int32), d1, d2, d3]) (he : el = (0 : Int32) ∨ el = (1 : Int32) ∨ el = (2 : Int32) ∨ el = (3 : Int32)) (hlit_jj : jj = (1 : Int32)) :
    MetFree l (⟨"com/example/twigmeter/twigmeter/workload/ReachBelowPinLaw", "inSub", "([III)Z"⟩ : MethodName) (head1 (Jvm.Cond.code (⟨"com/example/twigmeter/twigmeter/workload/ReachBelowPinLaw", "inSub", "([III)Z"⟩ : MethodName) method_7_code 3 (some .boolean) :: ws) ({ frames := 0, cells := 0, slots := 0, locals := 0 } : Room)) (fun a U => a = #[(.ref dr), (.int el), (.int jj)] ∧ Z.Warmed39 U.vm ∧ U.heap = h0) (fun _ _ _ _ _ => True) (fun _ U o U' => ∃ v L, o = .returned v ∧ Q2_1 Z dr el jj d1 d2 d3 h0 n0 v U'.heap L ∧ FrameEnd U o U' L ({ frames := 0, cells := 0, slots := 0, locals := 0 } : Room).cells ({ frames := 0, cells := 0, slots := 0, locals := 0 } : Room).slots) := by
  refine MetFree.of_bodySF (plainFor_of_name pn_2) hisR ?_
  intro p e s m args below meth c s₁ Bd hml0 hP hK
  obtain ⟨rfl, hZ, hh⟩ := hP
  have hx := Bd.exec
  have hby := Bd.bytes
  have hml : c.maxLocals = 3 := hml0
  have hown : s.vm.findClass "com/example/twigmeter/twigmeter/workload/ReachBelowPinLaw" = some m.cls := findClass_of_methodNamed Bd.named
  have hnm := (name_of_methodNamed Bd.named Bd.method).1
  have X0 : Stand p l e ({ frames := 0, cells := 0, slots := 0, locals := 0 } : Room) s m #[(.ref dr), (.int el), (.int jj)] below meth c s₁ [] 0 0 := Stand.of_body Bd
  have e0 : s₁.heap = h0 := by rw [← hh, Bd.state]; rfl
  have N0 := Fr.nil n0
  have K0 : Keep h0 h0 [] := Keep.refl h0 _
  have pre0 : ∀ tq, Steps p.tables e below (s₁.setTop (mkF m 0 #[.val (.ref dr), .val (.int el), .val (.int jj)] [])) tq → Steps p.tables e below (s₁.setTop (entryFrame m #[(.ref dr), (.int el), (.int jj)] 3)) tq := fun tq kq => castTop (ef_2_1 m dr el jj) kq
  subst hlit_jj
  obtain ⟨e1, he1⟩ : ∃ z_q : Int32, z_q = el := ⟨_, rfl⟩
  have pre1 : ∀ tq, Steps p.tables e below (s₁.setTop (mkF m 0 #[.val (.ref dr), .val (.int e1), .val (.int (1 : Int32))] [])) tq → Steps p.tables e below (s₁.setTop (entryFrame m #[(.ref dr), (.int el), (.int (1 : Int32))] 3)) tq := by
    intro tq kt
    refine pre0 _ ?_
    show Steps p.tables e below (s₁.setTop (mkF m 0 #[.val (.ref dr), .val (.int el), .val (.int (1 : Int32))] [])) _
    rw [← he1]
    show Steps p.tables e below (s₁.setTop (mkF m 0 #[.val (.ref dr), .val (.int e1), .val (.int (1 : Int32))] [])) _
    exact kt
  rcases (own_split_2_1_0 el d1 d2 d3 he e1 he1) with hs2 | hs2 | hs2 | hs2
  · subst hs2
    obtain ⟨cl3, Ar3, hin3, hat3⟩ := I0.get (j := (1 : Int32)) rfl
    obtain ⟨cl4, Ar4, hin4, hat4⟩ := I0.get (j := (0 : Int32)) rfl
    have pre5 : ∀ tq, Steps p.tables e below (s₁.setTop (mkF m 22 #[.val (.ref dr), .val (.int (0 : Int32)), .val (.int (1 : Int32))] [(.int (0 : Int32)), (.int d1)])) tq → Steps p.tables e below (s₁.setTop (entryFrame m #[(.ref dr), (.int el), (.int (1 : Int32))] 3)) tq := by
      intro tq kt
      refine pre1 _ ?_
      show Steps p.tables e below (s₁.setTop (mkF m 0 #[.val (.ref dr), .val (.int (0 : Int32)), .val (.int (1 : Int32))] [])) _
      refine XS.iloadN X0.here hx rfl (hb hby d2_0) rfl ?_
      refine XS.iloadN X0.here hx rfl (hb hby d2_1) rfl ?_
      refine XS.icmpYes X0.here hx rfl (pc0 := 2) (pc' := 7) rfl (hb hby d2_2) rfl (tlt (by decide)).2.2.1 (by decide) (by decide) ?_
      refine XS.iloadN X0.here hx rfl (hb hby d2_7) rfl ?_
      refine XS.iconst X0.here hx rfl (hb hby d2_8) ?_
      refine XS.iadd X0.here hx rfl (hb hby d2_9) rfl ?_
      show Steps p.tables e below (s₁.setTop (mkF m 10 #[.val (.ref dr), .val (.int (0 : Int32)), .val (.int (1 : Int32))] [(.int (1 : Int32))])) _
      refine XS.iloadN X0.here hx rfl (hb hby d2_10) rfl ?_
      refine XS.icmpNo X0.here hx rfl (hb hby d2_11) rfl (flt (by decide)).2.2.1 ?_
      refine XS.aloadN X0.here hx rfl (hb hby d2_14) rfl rfl ?_
      refine XS.iloadN X0.here hx rfl (hb hby d2_15) rfl ?_
      refine XS.iconst X0.here hx rfl (hb hby d2_16) ?_
      refine XS.iadd X0.here hx rfl (hb hby d2_17) rfl ?_
      show Steps p.tables e below (s₁.setTop (mkF m 18 #[.val (.ref dr), .val (.int (0 : Int32)), .val (.int (1 : Int32))] [(.int (1 : Int32)), (.ref dr)])) _
      refine X0.iaload hx (j := (1 : Int32)) (v := (.int d1)) (heq_of e0 Ar3.1) (State.isArrayOf_alike hZ.alike Ar3.2.1) Ar3.2.2 hin3 hat3 (g := (mkF m 18 #[.val (.ref dr), .val (.int (0 : Int32)), .val (.int (1 : Int32))] [(.int (1 : Int32)), (.ref dr)])) rfl rfl (hb hby d2_18) _ ?_
      show Steps p.tables e below (s₁.setTop (mkF m 19 #[.val (.ref dr), .val (.int (0 : Int32)), .val (.int (1 : Int32))] [(.int d1)])) _
      refine XS.aloadN X0.here hx rfl (hb hby d2_19) rfl rfl ?_
      refine XS.iloadN X0.here hx rfl (hb hby d2_20) rfl ?_
      refine X0.iaload hx (j := (0 : Int32)) (v := (.int (0 : Int32))) (heq_of e0 Ar4.1) (State.isArrayOf_alike hZ.alike Ar4.2.1) Ar4.2.2 hin4 hat4 (g := (mkF m 21 #[.val (.ref dr), .val (.int (0 : Int32)), .val (.int (1 : Int32))] [(.int (0 : Int32)), (.ref dr), (.int d1)])) rfl rfl (hb hby d2_21) _ ?_
      show Steps p.tables e below (s₁.setTop (mkF m 22 #[.val (.ref dr), .val (.int (0 : Int32)), .val (.int (1 : Int32))] [(.int (0 : Int32)), (.int d1)])) _
      exact kt
    by_cases hc22_6 : (0 : Int32) < d1
    · skip
      obtain ⟨fs, hr, hrun, hended, hW, hsame⟩ := X0.leave (v := some (Value.int (1 : Int32))) (fun h => by rw [Bd.returns] at h; cases h)
      have hres7 : (1 : Int32) = (own_insub [(0 : Int32), d1, d2, d3] el (1 : Int32)) := (own_leaf_2_1_68_s0t el d1 d2 d3 he he1 hc22_6)
      refine ⟨_, _, pre5 _ ?_, hrun, hended, _, _, rfl, ?_, ⟨_, rfl⟩, hW, hsame.mono (by decide) (by decide)⟩
      · skip
        show Steps p.tables e below (s₁.setTop (mkF m 22 #[.val (.ref dr), .val (.int (0 : Int32)), .val (.int (1 : Int32))] [(.int (0 : Int32)), (.int d1)])) _
        refine XS.icmpYes X0.here hx rfl (pc0 := 22) (pc' := 27) rfl (hb hby d2_22) rfl (tlt hc22_6).2.2.1 (by decide) (by decide) ?_
        refine XS.iloadN X0.here hx rfl (hb hby d2_27) rfl ?_
        refine XS.iconst X0.here hx rfl (hb hby d2_28) ?_
        refine XS.iadd X0.here hx rfl (hb hby d2_29) rfl ?_
        refine XS.iloadN X0.here hx rfl (hb hby d2_30) rfl ?_
        refine XS.icmpYes X0.here hx rfl (pc0 := 31) (pc' := 47) rfl (hb hby d2_31) rfl (tlt (by decide)).2.2.1 (by decide) (by decide) ?_
        show Steps p.tables e below (s₁.setTop (mkF m 47 #[.val (.ref dr), .val (.int (0 : Int32)), .val (.int (1 : Int32))] [])) _
        refine XS.iloadN X0.here hx rfl (hb hby d2_47) rfl ?_
        refine XS.iconst X0.here hx rfl (hb hby d2_48) ?_
        refine XS.iadd X0.here hx rfl (hb hby d2_49) rfl ?_
        refine XS.iloadN X0.here hx rfl (hb hby d2_50) rfl ?_
        refine XS.icmpYes X0.here hx rfl (pc0 := 51) (pc' := 67) rfl (hb hby d2_51) rfl (tlt (by decide)).2.2.1 (by decide) (by decide) ?_
        refine XS.iconst X0.here hx rfl (hb hby d2_67) ?_
        show Steps p.tables e below (s₁.setTop (mkF m 68 #[.val (.ref dr), .val (.int (0 : Int32)), .val (.int (1 : Int32))] [(.int (1 : Int32))])) _
        exact retN X0 hx (t := .boolean) Bd.returns (by simp) (hb hby d2_68) hr
      · show Q2_1 Z dr el (1 : Int32) d1 d2 d3 h0 n0 _ s₁.heap _
        rw [e0]
        exact ⟨congrArg (fun z => some (Value.int z)) hres7, N0, rfl⟩
    · skip
      obtain ⟨fs, hr, hrun, hended, hW, hsame⟩ := X0.leave (v := some (Value.int (0 : Int32))) (fun h => by rw [Bd.returns] at h; cases h)
      have hres8 : (0 : Int32) = (own_insub [(0 : Int32), d1, d2, d3] el (1 : Int32)) := (own_leaf_2_1_26_s0f el d1 d2 d3 he he1 hc22_6)
      refine ⟨_, _, pre5 _ ?_, hrun, hended, _, _, rfl, ?_, ⟨_, rfl⟩, hW, hsame.mono (by decide) (by decide)⟩
      · skip
        show Steps p.tables e below (s₁.setTop (mkF m 22 #[.val (.ref dr), .val (.int (0 : Int32)), .val (.int (1 : Int32))] [(.int (0 : Int32)), (.int d1)])) _
        refine XS.icmpNo X0.here hx rfl (hb hby d2_22) rfl (flt hc22_6).2.2.1 ?_
        refine XS.iconst X0.here hx rfl (hb hby d2_25) ?_
        show Steps p.tables e below (s₁.setTop (mkF m 26 #[.val (.ref dr), .val (.int (0 : Int32)), .val (.int (1 : Int32))] [(.int (0 : Int32))])) _
        exact retN X0 hx (t := .boolean) Bd.returns (by simp) (hb hby d2_26) hr
      · show Q2_1 Z dr el (1 : Int32) d1 d2 d3 h0 n0 _ s₁.heap _
        rw [e0]
        exact ⟨congrArg (fun z => some (Value.int z)) hres8, N0, rfl⟩
  · subst hs2
    obtain ⟨fs, hr, hrun, hended, hW, hsame⟩ := X0.leave (v := some (Value.int (0 : Int32))) (fun h => by rw [Bd.returns] at h; cases h)
    have hres9 : (0 : Int32) = (own_insub [(0 : Int32), d1, d2, d3] el (1 : Int32)) := (own_leaf_2_1_6_s1 el d1 d2 d3 he he1)
    refine ⟨_, _, pre1 _ ?_, hrun, hended, _, _, rfl, ?_, ⟨_, rfl⟩, hW, hsame.mono (by decide) (by decide)⟩
    · skip
      show Steps p.tables e below (s₁.setTop (mkF m 0 #[.val (.ref dr), .val (.int (1 : Int32)), .val (.int (1 : Int32))] [])) _
      refine XS.iloadN X0.here hx rfl (hb hby d2_0) rfl ?_
      refine XS.iloadN X0.here hx rfl (hb hby d2_1) rfl ?_
      refine XS.icmpNo X0.here hx rfl (hb hby d2_2) rfl (flt (by decide)).2.2.1 ?_
      refine XS.iconst X0.here hx rfl (hb hby d2_5) ?_
      show Steps p.tables e below (s₁.setTop (mkF m 6 #[.val (.ref dr), .val (.int (1 : Int32)), .val (.int (1 : Int32))] [(.int (0 : Int32))])) _
      exact retN X0 hx (t := .boolean) Bd.returns (by simp) (hb hby d2_6) hr
    · show Q2_1 Z dr el (1 : Int32) d1 d2 d3 h0 n0 _ s₁.heap _
      rw [e0]
      exact ⟨congrArg (fun z => some (Value.int z)) hres9, N0, rfl⟩
  · subst hs2
    obtain ⟨fs, hr, hrun, hended, hW, hsame⟩ := X0.leave (v := some (Value.int (0 : Int32))) (fun h => by rw [Bd.returns] at h; cases h)
    have hres10 : (0 : Int32) = (own_insub [(0 : Int32), d1, d2, d3] el (1 : Int32)) := (own_leaf_2_1_6_s2 el d1 d2 d3 he he1)
    refine ⟨_, _, pre1 _ ?_, hrun, hended, _, _, rfl, ?_, ⟨_, rfl⟩, hW, hsame.mono (by decide) (by decide)⟩
    · skip
      show Steps p.tables e below (s₁.setTop (mkF m 0 #[.val (.ref dr), .val (.int (2 : Int32)), .val (.int (1 : Int32))] [])) _
      refine XS.iloadN X0.here hx rfl (hb hby d2_0) rfl ?_
      refine XS.iloadN X0.here hx rfl (hb hby d2_1) rfl ?_
      refine XS.icmpNo X0.here hx rfl (hb hby d2_2) rfl (flt (by decide)).2.2.1 ?_
      refine XS.iconst X0.here hx rfl (hb hby d2_5) ?_
      show Steps p.tables e below (s₁.setTop (mkF m 6 #[.val (.ref dr), .val (.int (2 : Int32)), .val (.int (1 : Int32))] [(.int (0 : Int32))])) _
      exact retN X0 hx (t := .boolean) Bd.returns (by simp) (hb hby d2_6) hr
    · show Q2_1 Z dr el (1 : Int32) d1 d2 d3 h0 n0 _ s₁.heap _
      rw [e0]
      exact ⟨congrArg (fun z => some (Value.int z)) hres10, N0, rfl⟩
  · subst hs2
    obtain ⟨fs, hr, hrun, hended, hW, hsame⟩ := X0.leave (v := some (Value.int (0 : Int32))) (fun h => by rw [Bd.returns] at h; cases h)
    have hres11 : (0 : Int32) = (own_insub [(0 : Int32), d1, d2, d3] el (1 : Int32)) := (own_leaf_2_1_6_s3 el d1 d2 d3 he he1)
    refine ⟨_, _, pre1 _ ?_, hrun, hended, _, _, rfl, ?_, ⟨_, rfl⟩, hW, hsame.mono (by decide) (by decide)⟩
    · skip
      show Steps p.tables e below (s₁.setTop (mkF m 0 #[.val (.ref dr), .val (.int (3 : Int32)), .val (.int (1 : Int32))] [])) _
      refine XS.iloadN X0.here hx rfl (hb hby d2_0) rfl ?_
      refine XS.iloadN X0.here hx rfl (hb hby d2_1) rfl ?_
      refine XS.icmpNo X0.here hx rfl (hb hby d2_2) rfl (flt (by decide)).2.2.1 ?_
      refine XS.iconst X0.here hx rfl (hb hby d2_5) ?_
      show Steps p.tables e below (s₁.setTop (mkF m 6 #[.val (.ref dr), .val (.int (3 : Int32)), .val (.int (1 : Int32))] [(.int (0 : Int32))])) _
      exact retN X0 hx (t := .boolean) Bd.returns (by simp) (hb hby d2_6) hr
    · show Q2_1 Z dr el (1 : Int32) d1 d2 d3 h0 n0 _ s₁.heap _
      rw [e0]
      exact ⟨congrArg (fun z => some (Value.int z)) hres11, N0, rfl⟩
theorem d2_34 : decode method_7_code 34 = .ok (.aload_n 0, 1) := by decide +kernel
theorem d2_35 : decode method_7_code 35 = .ok (.iload_n 1, 1) := by decide +kernel
theorem d2_36 : decode method_7_code 36 = .ok (.iconst 2, 1) := by decide +kernel
theorem d2_37 : decode method_7_code 37 = .ok (.iadd, 1) := by decide +kernel
theorem d2_38 : decode method_7_code 38 = .ok (.iaload, 1) := by decide +kernel
theorem d2_39 : decode method_7_code 39 = .ok (.aload_n 0, 1) := by decide +kernel
theorem d2_40 : decode method_7_code 40 = .ok (.iload_n 1, 1) := by decide +kernel
theorem d2_41 : decode method_7_code 41 = .ok (.iaload, 1) := by decide +kernel
theorem d2_42 : decode method_7_code 42 = .ok (.if_icmp .gt 5, 3) := by decide +kernel
theorem d2_45 : decode method_7_code 45 = .ok (.iconst 0, 1) := by decide +kernel
theorem d2_46 : decode method_7_code 46 = .ok (.ireturn, 1) := by decide +kernel
theorem ef_2_2 (m : MethodId) (x0 : Addr) (x1 : Int32) (x2 : Int32) : entryFrame m #[(.ref x0), (.int x1), (.int x2)] 3 = mkF m 0 #[.val (.ref x0), .val (.int x1), .val (.int x2)] [] := by first | (simp [entryFrame, mkF, argsToLocals, Value.category]; done) | rfl
theorem own_split_2_2_0 (el : Int32) (d1 : Int32) (d2 : Int32) (d3 : Int32) (he : el = (0 : Int32) ∨ el = (1 : Int32) ∨ el = (2 : Int32) ∨ el = (3 : Int32)) (e1 : Int32) (he1 : e1 = el) : e1 = (0 : Int32) ∨ e1 = (1 : Int32) ∨ e1 = (2 : Int32) ∨ e1 = (3 : Int32) := by subst he1; exact he
theorem own_leaf_2_2_68_s0tt (el : Int32) (d1 : Int32) (d2 : Int32) (d3 : Int32) (he : el = (0 : Int32) ∨ el = (1 : Int32) ∨ el = (2 : Int32) ∨ el = (3 : Int32)) (he1 : (0 : Int32) = el) (hc22_6 : (0 : Int32) < d1) (hc42_10 : (0 : Int32) < d2) : (1 : Int32) = (own_insub [(0 : Int32), d1, d2, d3] el (2 : Int32)) := by subst he1; simp [own_insub, own_rd, *]
theorem own_leaf_2_2_46_s0tf (el : Int32) (d1 : Int32) (d2 : Int32) (d3 : Int32) (he : el = (0 : Int32) ∨ el = (1 : Int32) ∨ el = (2 : Int32) ∨ el = (3 : Int32)) (he1 : (0 : Int32) = el) (hc22_6 : (0 : Int32) < d1) (hc42_10 : ¬ ((0 : Int32) < d2)) : (0 : Int32) = (own_insub [(0 : Int32), d1, d2, d3] el (2 : Int32)) := by subst he1; simp [own_insub, own_rd, *]
theorem own_leaf_2_2_26_s0f (el : Int32) (d1 : Int32) (d2 : Int32) (d3 : Int32) (he : el = (0 : Int32) ∨ el = (1 : Int32) ∨ el = (2 : Int32) ∨ el = (3 : Int32)) (he1 : (0 : Int32) = el) (hc22_6 : ¬ ((0 : Int32) < d1)) : (0 : Int32) = (own_insub [(0 : Int32), d1, d2, d3] el (2 : Int32)) := by subst he1; simp [own_insub, own_rd, *]
theorem own_leaf_2_2_68_s1t (el : Int32) (d1 : Int32) (d2 : Int32) (d3 : Int32) (he : el = (0 : Int32) ∨ el = (1 : Int32) ∨ el = (2 : Int32) ∨ el = (3 : Int32)) (he1 : (1 : Int32) = el) (hc22_17 : d1 < d2) : (1 : Int32) = (own_insub [(0 : Int32), d1, d2, d3] el (2 : Int32)) := by subst he1; simp [own_insub, own_rd, *]
theorem own_leaf_2_2_26_s1f (el : Int32) (d1 : Int32) (d2 : Int32) (d3 : Int32) (he : el = (0 : Int32) ∨ el = (1 : Int32) ∨ el = (2 : Int32) ∨ el = (3 : Int32)) (he1 : (1 : Int32) = el) (hc22_17 : ¬ (d1 < d2)) : (0 : Int32) = (own_insub [(0 : Int32), d1, d2, d3] el (2 : Int32)) := by subst he1; simp [own_insub, own_rd, *]
theorem own_leaf_2_2_6_s2 (el : Int32) (d1 : Int32) (d2 : Int32) (d3 : Int32) (he : el = (0 : Int32) ∨ el = (1 : Int32) ∨ el = (2 : Int32) ∨ el = (3 : Int32)) (he1 : (2 : Int32) = el) : (0 : Int32) = (own_insub [(0 : Int32), d1, d2, d3] el (2 : Int32)) := by subst he1; simp [own_insub, own_rd, *]
theorem own_leaf_2_2_6_s3 (el : Int32) (d1 : Int32) (d2 : Int32) (d3 : Int32) (he : el = (0 : Int32) ∨ el = (1 : Int32) ∨ el = (2 : Int32) ∨ el = (3 : Int32)) (he1 : (3 : Int32) = el) : (0 : Int32) = (own_insub [(0 : Int32), d1, d2, d3] el (2 : Int32)) := by subst he1; simp [own_insub, own_rd, *]
def Q2_2 (Z : State) (dr : Addr) (el : Int32) (jj : Int32) (d1 : Int32) (d2 : Int32) (d3 : Int32) (h0 : Heap) (n0 : Nat) (v : Option Value) (h : Heap) (L : List Loc) : Prop := v = some (.int (own_insub [(0 : Int32), d1, d2, d3] el jj)) ∧ Fr n0 L ∧ h = h0
set_option maxRecDepth 65536 in
set_option maxHeartbeats 40000000 in
theorem rm2_2 (l : Launch) (Z : State) (a0 : Array Value) (hw : ∀ d ∈ tables_1, d.before a0 Z = true) (ws : List Jvm.Cond) (dr : Addr) (el : Int32) (jj : Int32) (d1 : Int32) (d2 : Int32) (d3 : Int32) (h0 : Heap) (n0 : Nat) (Z0 : n0 ≤ h0.size) (I0 : own_ia Z h0 dr [(0 : Int32), d1, d2, d3]) (he : el = (0 : Int32) ∨ el = (1 : Int32) ∨ el = (2 : Int32) ∨ el = (3 : Int32)) (hlit_jj : jj = (2 : Int32)) :
    MetFree l (⟨"com/example/twigmeter/twigmeter/workload/ReachBelowPinLaw", "inSub", "([III)Z"⟩ : MethodName) (head1 (Jvm.Cond.code (⟨"com/example/twigmeter/twigmeter/workload/ReachBelowPinLaw", "inSub", "([III)Z"⟩ : MethodName) method_7_code 3 (some .boolean) :: ws) ({ frames := 0, cells := 0, slots := 0, locals := 0 } : Room)) (fun a U => a = #[(.ref dr), (.int el), (.int jj)] ∧ Z.Warmed39 U.vm ∧ U.heap = h0) (fun _ _ _ _ _ => True) (fun _ U o U' => ∃ v L, o = .returned v ∧ Q2_2 Z dr el jj d1 d2 d3 h0 n0 v U'.heap L ∧ FrameEnd U o U' L ({ frames := 0, cells := 0, slots := 0, locals := 0 } : Room).cells ({ frames := 0, cells := 0, slots := 0, locals := 0 } : Room).slots) := by
  refine MetFree.of_bodySF (plainFor_of_name pn_2) hisR ?_
  intro p e s m args below meth c s₁ Bd hml0 hP hK
  obtain ⟨rfl, hZ, hh⟩ := hP
  have hx := Bd.exec
  have hby := Bd.bytes
  have hml : c.maxLocals = 3 := hml0
  have hown : s.vm.findClass "com/example/twigmeter/twigmeter/workload/ReachBelowPinLaw" = some m.cls := findClass_of_methodNamed Bd.named
  have hnm := (name_of_methodNamed Bd.named Bd.method).1
  have X0 : Stand p l e ({ frames := 0, cells := 0, slots := 0, locals := 0 } : Room) s m #[(.ref dr), (.int el), (.int jj)] below meth c s₁ [] 0 0 := Stand.of_body Bd
  have e0 : s₁.heap = h0 := by rw [← hh, Bd.state]; rfl
  have N0 := Fr.nil n0
  have K0 : Keep h0 h0 [] := Keep.refl h0 _
  have pre0 : ∀ tq, Steps p.tables e below (s₁.setTop (mkF m 0 #[.val (.ref dr), .val (.int el), .val (.int jj)] [])) tq → Steps p.tables e below (s₁.setTop (entryFrame m #[(.ref dr), (.int el), (.int jj)] 3)) tq := fun tq kq => castTop (ef_2_2 m dr el jj) kq
  subst hlit_jj
  obtain ⟨e1, he1⟩ : ∃ z_q : Int32, z_q = el := ⟨_, rfl⟩
  have pre1 : ∀ tq, Steps p.tables e below (s₁.setTop (mkF m 0 #[.val (.ref dr), .val (.int e1), .val (.int (2 : Int32))] [])) tq → Steps p.tables e below (s₁.setTop (entryFrame m #[(.ref dr), (.int el), (.int (2 : Int32))] 3)) tq := by
    intro tq kt
    refine pre0 _ ?_
    show Steps p.tables e below (s₁.setTop (mkF m 0 #[.val (.ref dr), .val (.int el), .val (.int (2 : Int32))] [])) _
    rw [← he1]
    show Steps p.tables e below (s₁.setTop (mkF m 0 #[.val (.ref dr), .val (.int e1), .val (.int (2 : Int32))] [])) _
    exact kt
  rcases (own_split_2_2_0 el d1 d2 d3 he e1 he1) with hs2 | hs2 | hs2 | hs2
  · subst hs2
    obtain ⟨cl3, Ar3, hin3, hat3⟩ := I0.get (j := (1 : Int32)) rfl
    obtain ⟨cl4, Ar4, hin4, hat4⟩ := I0.get (j := (0 : Int32)) rfl
    have pre5 : ∀ tq, Steps p.tables e below (s₁.setTop (mkF m 22 #[.val (.ref dr), .val (.int (0 : Int32)), .val (.int (2 : Int32))] [(.int (0 : Int32)), (.int d1)])) tq → Steps p.tables e below (s₁.setTop (entryFrame m #[(.ref dr), (.int el), (.int (2 : Int32))] 3)) tq := by
      intro tq kt
      refine pre1 _ ?_
      show Steps p.tables e below (s₁.setTop (mkF m 0 #[.val (.ref dr), .val (.int (0 : Int32)), .val (.int (2 : Int32))] [])) _
      refine XS.iloadN X0.here hx rfl (hb hby d2_0) rfl ?_
      refine XS.iloadN X0.here hx rfl (hb hby d2_1) rfl ?_
      refine XS.icmpYes X0.here hx rfl (pc0 := 2) (pc' := 7) rfl (hb hby d2_2) rfl (tlt (by decide)).2.2.1 (by decide) (by decide) ?_
      refine XS.iloadN X0.here hx rfl (hb hby d2_7) rfl ?_
      refine XS.iconst X0.here hx rfl (hb hby d2_8) ?_
      refine XS.iadd X0.here hx rfl (hb hby d2_9) rfl ?_
      show Steps p.tables e below (s₁.setTop (mkF m 10 #[.val (.ref dr), .val (.int (0 : Int32)), .val (.int (2 : Int32))] [(.int (1 : Int32))])) _
      refine XS.iloadN X0.here hx rfl (hb hby d2_10) rfl ?_
      refine XS.icmpNo X0.here hx rfl (hb hby d2_11) rfl (flt (by decide)).2.2.1 ?_
      refine XS.aloadN X0.here hx rfl (hb hby d2_14) rfl rfl ?_
      refine XS.iloadN X0.here hx rfl (hb hby d2_15) rfl ?_
      refine XS.iconst X0.here hx rfl (hb hby d2_16) ?_
      refine XS.iadd X0.here hx rfl (hb hby d2_17) rfl ?_
      show Steps p.tables e below (s₁.setTop (mkF m 18 #[.val (.ref dr), .val (.int (0 : Int32)), .val (.int (2 : Int32))] [(.int (1 : Int32)), (.ref dr)])) _
      refine X0.iaload hx (j := (1 : Int32)) (v := (.int d1)) (heq_of e0 Ar3.1) (State.isArrayOf_alike hZ.alike Ar3.2.1) Ar3.2.2 hin3 hat3 (g := (mkF m 18 #[.val (.ref dr), .val (.int (0 : Int32)), .val (.int (2 : Int32))] [(.int (1 : Int32)), (.ref dr)])) rfl rfl (hb hby d2_18) _ ?_
      show Steps p.tables e below (s₁.setTop (mkF m 19 #[.val (.ref dr), .val (.int (0 : Int32)), .val (.int (2 : Int32))] [(.int d1)])) _
      refine XS.aloadN X0.here hx rfl (hb hby d2_19) rfl rfl ?_
      refine XS.iloadN X0.here hx rfl (hb hby d2_20) rfl ?_
      refine X0.iaload hx (j := (0 : Int32)) (v := (.int (0 : Int32))) (heq_of e0 Ar4.1) (State.isArrayOf_alike hZ.alike Ar4.2.1) Ar4.2.2 hin4 hat4 (g := (mkF m 21 #[.val (.ref dr), .val (.int (0 : Int32)), .val (.int (2 : Int32))] [(.int (0 : Int32)), (.ref dr), (.int d1)])) rfl rfl (hb hby d2_21) _ ?_
      show Steps p.tables e below (s₁.setTop (mkF m 22 #[.val (.ref dr), .val (.int (0 : Int32)), .val (.int (2 : Int32))] [(.int (0 : Int32)), (.int d1)])) _
      exact kt
    by_cases hc22_6 : (0 : Int32) < d1
    · skip
      obtain ⟨cl7, Ar7, hin7, hat7⟩ := I0.get (j := (2 : Int32)) rfl
      obtain ⟨cl8, Ar8, hin8, hat8⟩ := I0.get (j := (0 : Int32)) rfl
      have pre9 : ∀ tq, Steps p.tables e below (s₁.setTop (mkF m 42 #[.val (.ref dr), .val (.int (0 : Int32)), .val (.int (2 : Int32))] [(.int (0 : Int32)), (.int d2)])) tq → Steps p.tables e below (s₁.setTop (entryFrame m #[(.ref dr), (.int el), (.int (2 : Int32))] 3)) tq := by
        intro tq kt
        refine pre5 _ ?_
        show Steps p.tables e below (s₁.setTop (mkF m 22 #[.val (.ref dr), .val (.int (0 : Int32)), .val (.int (2 : Int32))] [(.int (0 : Int32)), (.int d1)])) _
        refine XS.icmpYes X0.here hx rfl (pc0 := 22) (pc' := 27) rfl (hb hby d2_22) rfl (tlt hc22_6).2.2.1 (by decide) (by decide) ?_
        refine XS.iloadN X0.here hx rfl (hb hby d2_27) rfl ?_
        refine XS.iconst X0.here hx rfl (hb hby d2_28) ?_
        refine XS.iadd X0.here hx rfl (hb hby d2_29) rfl ?_
        refine XS.iloadN X0.here hx rfl (hb hby d2_30) rfl ?_
        refine XS.icmpNo X0.here hx rfl (hb hby d2_31) rfl (flt (by decide)).2.2.1 ?_
        show Steps p.tables e below (s₁.setTop (mkF m 34 #[.val (.ref dr), .val (.int (0 : Int32)), .val (.int (2 : Int32))] [])) _
        refine XS.aloadN X0.here hx rfl (hb hby d2_34) rfl rfl ?_
        refine XS.iloadN X0.here hx rfl (hb hby d2_35) rfl ?_
        refine XS.iconst X0.here hx rfl (hb hby d2_36) ?_
        refine XS.iadd X0.here hx rfl (hb hby d2_37) rfl ?_
        refine X0.iaload hx (j := (2 : Int32)) (v := (.int d2)) (heq_of e0 Ar7.1) (State.isArrayOf_alike hZ.alike Ar7.2.1) Ar7.2.2 hin7 hat7 (g := (mkF m 38 #[.val (.ref dr), .val (.int (0 : Int32)), .val (.int (2 : Int32))] [(.int (2 : Int32)), (.ref dr)])) rfl rfl (hb hby d2_38) _ ?_
        show Steps p.tables e below (s₁.setTop (mkF m 39 #[.val (.ref dr), .val (.int (0 : Int32)), .val (.int (2 : Int32))] [(.int d2)])) _
        refine XS.aloadN X0.here hx rfl (hb hby d2_39) rfl rfl ?_
        refine XS.iloadN X0.here hx rfl (hb hby d2_40) rfl ?_
        refine X0.iaload hx (j := (0 : Int32)) (v := (.int (0 : Int32))) (heq_of e0 Ar8.1) (State.isArrayOf_alike hZ.alike Ar8.2.1) Ar8.2.2 hin8 hat8 (g := (mkF m 41 #[.val (.ref dr), .val (.int (0 : Int32)), .val (.int (2 : Int32))] [(.int (0 : Int32)), (.ref dr), (.int d2)])) rfl rfl (hb hby d2_41) _ ?_
        show Steps p.tables e below (s₁.setTop (mkF m 42 #[.val (.ref dr), .val (.int (0 : Int32)), .val (.int (2 : Int32))] [(.int (0 : Int32)), (.int d2)])) _
        exact kt
      by_cases hc42_10 : (0 : Int32) < d2
      · skip
        obtain ⟨fs, hr, hrun, hended, hW, hsame⟩ := X0.leave (v := some (Value.int (1 : Int32))) (fun h => by rw [Bd.returns] at h; cases h)
        have hres11 : (1 : Int32) = (own_insub [(0 : Int32), d1, d2, d3] el (2 : Int32)) := (own_leaf_2_2_68_s0tt el d1 d2 d3 he he1 hc22_6 hc42_10)
        refine ⟨_, _, pre9 _ ?_, hrun, hended, _, _, rfl, ?_, ⟨_, rfl⟩, hW, hsame.mono (by decide) (by decide)⟩
        · skip
          show Steps p.tables e below (s₁.setTop (mkF m 42 #[.val (.ref dr), .val (.int (0 : Int32)), .val (.int (2 : Int32))] [(.int (0 : Int32)), (.int d2)])) _
          refine XS.icmpYes X0.here hx rfl (pc0 := 42) (pc' := 47) rfl (hb hby d2_42) rfl (tlt hc42_10).2.2.1 (by decide) (by decide) ?_
          refine XS.iloadN X0.here hx rfl (hb hby d2_47) rfl ?_
          refine XS.iconst X0.here hx rfl (hb hby d2_48) ?_
          refine XS.iadd X0.here hx rfl (hb hby d2_49) rfl ?_
          refine XS.iloadN X0.here hx rfl (hb hby d2_50) rfl ?_
          refine XS.icmpYes X0.here hx rfl (pc0 := 51) (pc' := 67) rfl (hb hby d2_51) rfl (tlt (by decide)).2.2.1 (by decide) (by decide) ?_
          show Steps p.tables e below (s₁.setTop (mkF m 67 #[.val (.ref dr), .val (.int (0 : Int32)), .val (.int (2 : Int32))] [])) _
          refine XS.iconst X0.here hx rfl (hb hby d2_67) ?_
          show Steps p.tables e below (s₁.setTop (mkF m 68 #[.val (.ref dr), .val (.int (0 : Int32)), .val (.int (2 : Int32))] [(.int (1 : Int32))])) _
          exact retN X0 hx (t := .boolean) Bd.returns (by simp) (hb hby d2_68) hr
        · show Q2_2 Z dr el (2 : Int32) d1 d2 d3 h0 n0 _ s₁.heap _
          rw [e0]
          exact ⟨congrArg (fun z => some (Value.int z)) hres11, N0, rfl⟩
      · skip
        obtain ⟨fs, hr, hrun, hended, hW, hsame⟩ := X0.leave (v := some (Value.int (0 : Int32))) (fun h => by rw [Bd.returns] at h; cases h)
        have hres12 : (0 : Int32) = (own_insub [(0 : Int32), d1, d2, d3] el (2 : Int32)) := (own_leaf_2_2_46_s0tf el d1 d2 d3 he he1 hc22_6 hc42_10)
        refine ⟨_, _, pre9 _ ?_, hrun, hended, _, _, rfl, ?_, ⟨_, rfl⟩, hW, hsame.mono (by decide) (by decide)⟩
        · skip
          show Steps p.tables e below (s₁.setTop (mkF m 42 #[.val (.ref dr), .val (.int (0 : Int32)), .val (.int (2 : Int32))] [(.int (0 : Int32)), (.int d2)])) _
          refine XS.icmpNo X0.here hx rfl (hb hby d2_42) rfl (flt hc42_10).2.2.1 ?_
          refine XS.iconst X0.here hx rfl (hb hby d2_45) ?_
          show Steps p.tables e below (s₁.setTop (mkF m 46 #[.val (.ref dr), .val (.int (0 : Int32)), .val (.int (2 : Int32))] [(.int (0 : Int32))])) _
          exact retN X0 hx (t := .boolean) Bd.returns (by simp) (hb hby d2_46) hr
        · show Q2_2 Z dr el (2 : Int32) d1 d2 d3 h0 n0 _ s₁.heap _
          rw [e0]
          exact ⟨congrArg (fun z => some (Value.int z)) hres12, N0, rfl⟩
    · skip
      obtain ⟨fs, hr, hrun, hended, hW, hsame⟩ := X0.leave (v := some (Value.int (0 : Int32))) (fun h => by rw [Bd.returns] at h; cases h)
      have hres13 : (0 : Int32) = (own_insub [(0 : Int32), d1, d2, d3] el (2 : Int32)) := (own_leaf_2_2_26_s0f el d1 d2 d3 he he1 hc22_6)
      refine ⟨_, _, pre5 _ ?_, hrun, hended, _, _, rfl, ?_, ⟨_, rfl⟩, hW, hsame.mono (by decide) (by decide)⟩
      · skip
        show Steps p.tables e below (s₁.setTop (mkF m 22 #[.val (.ref dr), .val (.int (0 : Int32)), .val (.int (2 : Int32))] [(.int (0 : Int32)), (.int d1)])) _
        refine XS.icmpNo X0.here hx rfl (hb hby d2_22) rfl (flt hc22_6).2.2.1 ?_
        refine XS.iconst X0.here hx rfl (hb hby d2_25) ?_
        show Steps p.tables e below (s₁.setTop (mkF m 26 #[.val (.ref dr), .val (.int (0 : Int32)), .val (.int (2 : Int32))] [(.int (0 : Int32))])) _
        exact retN X0 hx (t := .boolean) Bd.returns (by simp) (hb hby d2_26) hr
      · show Q2_2 Z dr el (2 : Int32) d1 d2 d3 h0 n0 _ s₁.heap _
        rw [e0]
        exact ⟨congrArg (fun z => some (Value.int z)) hres13, N0, rfl⟩
  · subst hs2
    obtain ⟨cl14, Ar14, hin14, hat14⟩ := I0.get (j := (2 : Int32)) rfl
    obtain ⟨cl15, Ar15, hin15, hat15⟩ := I0.get (j := (1 : Int32)) rfl
    have pre16 : ∀ tq, Steps p.tables e below (s₁.setTop (mkF m 22 #[.val (.ref dr), .val (.int (1 : Int32)), .val (.int (2 : Int32))] [(.int d1), (.int d2)])) tq → Steps p.tables e below (s₁.setTop (entryFrame m #[(.ref dr), (.int el), (.int (2 : Int32))] 3)) tq := by
      intro tq kt
      refine pre1 _ ?_
      show Steps p.tables e below (s₁.setTop (mkF m 0 #[.val (.ref dr), .val (.int (1 : Int32)), .val (.int (2 : Int32))] [])) _
      refine XS.iloadN X0.here hx rfl (hb hby d2_0) rfl ?_
      refine XS.iloadN X0.here hx rfl (hb hby d2_1) rfl ?_
      refine XS.icmpYes X0.here hx rfl (pc0 := 2) (pc' := 7) rfl (hb hby d2_2) rfl (tlt (by decide)).2.2.1 (by decide) (by decide) ?_
      refine XS.iloadN X0.here hx rfl (hb hby d2_7) rfl ?_
      refine XS.iconst X0.here hx rfl (hb hby d2_8) ?_
      refine XS.iadd X0.here hx rfl (hb hby d2_9) rfl ?_
      show Steps p.tables e below (s₁.setTop (mkF m 10 #[.val (.ref dr), .val (.int (1 : Int32)), .val (.int (2 : Int32))] [(.int (2 : Int32))])) _
      refine XS.iloadN X0.here hx rfl (hb hby d2_10) rfl ?_
      refine XS.icmpNo X0.here hx rfl (hb hby d2_11) rfl (flt (by decide)).2.2.1 ?_
      refine XS.aloadN X0.here hx rfl (hb hby d2_14) rfl rfl ?_
      refine XS.iloadN X0.here hx rfl (hb hby d2_15) rfl ?_
      refine XS.iconst X0.here hx rfl (hb hby d2_16) ?_
      refine XS.iadd X0.here hx rfl (hb hby d2_17) rfl ?_
      show Steps p.tables e below (s₁.setTop (mkF m 18 #[.val (.ref dr), .val (.int (1 : Int32)), .val (.int (2 : Int32))] [(.int (2 : Int32)), (.ref dr)])) _
      refine X0.iaload hx (j := (2 : Int32)) (v := (.int d2)) (heq_of e0 Ar14.1) (State.isArrayOf_alike hZ.alike Ar14.2.1) Ar14.2.2 hin14 hat14 (g := (mkF m 18 #[.val (.ref dr), .val (.int (1 : Int32)), .val (.int (2 : Int32))] [(.int (2 : Int32)), (.ref dr)])) rfl rfl (hb hby d2_18) _ ?_
      show Steps p.tables e below (s₁.setTop (mkF m 19 #[.val (.ref dr), .val (.int (1 : Int32)), .val (.int (2 : Int32))] [(.int d2)])) _
      refine XS.aloadN X0.here hx rfl (hb hby d2_19) rfl rfl ?_
      refine XS.iloadN X0.here hx rfl (hb hby d2_20) rfl ?_
      refine X0.iaload hx (j := (1 : Int32)) (v := (.int d1)) (heq_of e0 Ar15.1) (State.isArrayOf_alike hZ.alike Ar15.2.1) Ar15.2.2 hin15 hat15 (g := (mkF m 21 #[.val (.ref dr), .val (.int (1 : Int32)), .val (.int (2 : Int32))] [(.int (1 : Int32)), (.ref dr), (.int d2)])) rfl rfl (hb hby d2_21) _ ?_
      show Steps p.tables e below (s₁.setTop (mkF m 22 #[.val (.ref dr), .val (.int (1 : Int32)), .val (.int (2 : Int32))] [(.int d1), (.int d2)])) _
      exact kt
    by_cases hc22_17 : d1 < d2
    · skip
      obtain ⟨fs, hr, hrun, hended, hW, hsame⟩ := X0.leave (v := some (Value.int (1 : Int32))) (fun h => by rw [Bd.returns] at h; cases h)
      have hres18 : (1 : Int32) = (own_insub [(0 : Int32), d1, d2, d3] el (2 : Int32)) := (own_leaf_2_2_68_s1t el d1 d2 d3 he he1 hc22_17)
      refine ⟨_, _, pre16 _ ?_, hrun, hended, _, _, rfl, ?_, ⟨_, rfl⟩, hW, hsame.mono (by decide) (by decide)⟩
      · skip
        show Steps p.tables e below (s₁.setTop (mkF m 22 #[.val (.ref dr), .val (.int (1 : Int32)), .val (.int (2 : Int32))] [(.int d1), (.int d2)])) _
        refine XS.icmpYes X0.here hx rfl (pc0 := 22) (pc' := 27) rfl (hb hby d2_22) rfl (tlt hc22_17).2.2.1 (by decide) (by decide) ?_
        refine XS.iloadN X0.here hx rfl (hb hby d2_27) rfl ?_
        refine XS.iconst X0.here hx rfl (hb hby d2_28) ?_
        refine XS.iadd X0.here hx rfl (hb hby d2_29) rfl ?_
        refine XS.iloadN X0.here hx rfl (hb hby d2_30) rfl ?_
        refine XS.icmpYes X0.here hx rfl (pc0 := 31) (pc' := 47) rfl (hb hby d2_31) rfl (tlt (by decide)).2.2.1 (by decide) (by decide) ?_
        show Steps p.tables e below (s₁.setTop (mkF m 47 #[.val (.ref dr), .val (.int (1 : Int32)), .val (.int (2 : Int32))] [])) _
        refine XS.iloadN X0.here hx rfl (hb hby d2_47) rfl ?_
        refine XS.iconst X0.here hx rfl (hb hby d2_48) ?_
        refine XS.iadd X0.here hx rfl (hb hby d2_49) rfl ?_
        refine XS.iloadN X0.here hx rfl (hb hby d2_50) rfl ?_
        refine XS.icmpYes X0.here hx rfl (pc0 := 51) (pc' := 67) rfl (hb hby d2_51) rfl (tlt (by decide)).2.2.1 (by decide) (by decide) ?_
        refine XS.iconst X0.here hx rfl (hb hby d2_67) ?_
        show Steps p.tables e below (s₁.setTop (mkF m 68 #[.val (.ref dr), .val (.int (1 : Int32)), .val (.int (2 : Int32))] [(.int (1 : Int32))])) _
        exact retN X0 hx (t := .boolean) Bd.returns (by simp) (hb hby d2_68) hr
      · show Q2_2 Z dr el (2 : Int32) d1 d2 d3 h0 n0 _ s₁.heap _
        rw [e0]
        exact ⟨congrArg (fun z => some (Value.int z)) hres18, N0, rfl⟩
    · skip
      obtain ⟨fs, hr, hrun, hended, hW, hsame⟩ := X0.leave (v := some (Value.int (0 : Int32))) (fun h => by rw [Bd.returns] at h; cases h)
      have hres19 : (0 : Int32) = (own_insub [(0 : Int32), d1, d2, d3] el (2 : Int32)) := (own_leaf_2_2_26_s1f el d1 d2 d3 he he1 hc22_17)
      refine ⟨_, _, pre16 _ ?_, hrun, hended, _, _, rfl, ?_, ⟨_, rfl⟩, hW, hsame.mono (by decide) (by decide)⟩
      · skip
        show Steps p.tables e below (s₁.setTop (mkF m 22 #[.val (.ref dr), .val (.int (1 : Int32)), .val (.int (2 : Int32))] [(.int d1), (.int d2)])) _
        refine XS.icmpNo X0.here hx rfl (hb hby d2_22) rfl (flt hc22_17).2.2.1 ?_
        refine XS.iconst X0.here hx rfl (hb hby d2_25) ?_
        show Steps p.tables e below (s₁.setTop (mkF m 26 #[.val (.ref dr), .val (.int (1 : Int32)), .val (.int (2 : Int32))] [(.int (0 : Int32))])) _
        exact retN X0 hx (t := .boolean) Bd.returns (by simp) (hb hby d2_26) hr
      · show Q2_2 Z dr el (2 : Int32) d1 d2 d3 h0 n0 _ s₁.heap _
        rw [e0]
        exact ⟨congrArg (fun z => some (Value.int z)) hres19, N0, rfl⟩
  · subst hs2
    obtain ⟨fs, hr, hrun, hended, hW, hsame⟩ := X0.leave (v := some (Value.int (0 : Int32))) (fun h => by rw [Bd.returns] at h; cases h)
    have hres20 : (0 : Int32) = (own_insub [(0 : Int32), d1, d2, d3] el (2 : Int32)) := (own_leaf_2_2_6_s2 el d1 d2 d3 he he1)
    refine ⟨_, _, pre1 _ ?_, hrun, hended, _, _, rfl, ?_, ⟨_, rfl⟩, hW, hsame.mono (by decide) (by decide)⟩
    · skip
      show Steps p.tables e below (s₁.setTop (mkF m 0 #[.val (.ref dr), .val (.int (2 : Int32)), .val (.int (2 : Int32))] [])) _
      refine XS.iloadN X0.here hx rfl (hb hby d2_0) rfl ?_
      refine XS.iloadN X0.here hx rfl (hb hby d2_1) rfl ?_
      refine XS.icmpNo X0.here hx rfl (hb hby d2_2) rfl (flt (by decide)).2.2.1 ?_
      refine XS.iconst X0.here hx rfl (hb hby d2_5) ?_
      show Steps p.tables e below (s₁.setTop (mkF m 6 #[.val (.ref dr), .val (.int (2 : Int32)), .val (.int (2 : Int32))] [(.int (0 : Int32))])) _
      exact retN X0 hx (t := .boolean) Bd.returns (by simp) (hb hby d2_6) hr
    · show Q2_2 Z dr el (2 : Int32) d1 d2 d3 h0 n0 _ s₁.heap _
      rw [e0]
      exact ⟨congrArg (fun z => some (Value.int z)) hres20, N0, rfl⟩
  · subst hs2
    obtain ⟨fs, hr, hrun, hended, hW, hsame⟩ := X0.leave (v := some (Value.int (0 : Int32))) (fun h => by rw [Bd.returns] at h; cases h)
    have hres21 : (0 : Int32) = (own_insub [(0 : Int32), d1, d2, d3] el (2 : Int32)) := (own_leaf_2_2_6_s3 el d1 d2 d3 he he1)
    refine ⟨_, _, pre1 _ ?_, hrun, hended, _, _, rfl, ?_, ⟨_, rfl⟩, hW, hsame.mono (by decide) (by decide)⟩
    · skip
      show Steps p.tables e below (s₁.setTop (mkF m 0 #[.val (.ref dr), .val (.int (3 : Int32)), .val (.int (2 : Int32))] [])) _
      refine XS.iloadN X0.here hx rfl (hb hby d2_0) rfl ?_
      refine XS.iloadN X0.here hx rfl (hb hby d2_1) rfl ?_
      refine XS.icmpNo X0.here hx rfl (hb hby d2_2) rfl (flt (by decide)).2.2.1 ?_
      refine XS.iconst X0.here hx rfl (hb hby d2_5) ?_
      show Steps p.tables e below (s₁.setTop (mkF m 6 #[.val (.ref dr), .val (.int (3 : Int32)), .val (.int (2 : Int32))] [(.int (0 : Int32))])) _
      exact retN X0 hx (t := .boolean) Bd.returns (by simp) (hb hby d2_6) hr
    · show Q2_2 Z dr el (2 : Int32) d1 d2 d3 h0 n0 _ s₁.heap _
      rw [e0]
      exact ⟨congrArg (fun z => some (Value.int z)) hres21, N0, rfl⟩
theorem d2_54 : decode method_7_code 54 = .ok (.aload_n 0, 1) := by decide +kernel
theorem d2_55 : decode method_7_code 55 = .ok (.iload_n 1, 1) := by decide +kernel
theorem d2_56 : decode method_7_code 56 = .ok (.iconst 3, 1) := by decide +kernel
theorem d2_57 : decode method_7_code 57 = .ok (.iadd, 1) := by decide +kernel
theorem d2_58 : decode method_7_code 58 = .ok (.iaload, 1) := by decide +kernel
theorem d2_59 : decode method_7_code 59 = .ok (.aload_n 0, 1) := by decide +kernel
theorem d2_60 : decode method_7_code 60 = .ok (.iload_n 1, 1) := by decide +kernel
theorem d2_61 : decode method_7_code 61 = .ok (.iaload, 1) := by decide +kernel
theorem d2_62 : decode method_7_code 62 = .ok (.if_icmp .gt 5, 3) := by decide +kernel
theorem d2_65 : decode method_7_code 65 = .ok (.iconst 0, 1) := by decide +kernel
theorem d2_66 : decode method_7_code 66 = .ok (.ireturn, 1) := by decide +kernel
theorem ef_2_3 (m : MethodId) (x0 : Addr) (x1 : Int32) (x2 : Int32) : entryFrame m #[(.ref x0), (.int x1), (.int x2)] 3 = mkF m 0 #[.val (.ref x0), .val (.int x1), .val (.int x2)] [] := by first | (simp [entryFrame, mkF, argsToLocals, Value.category]; done) | rfl
theorem own_split_2_3_0 (el : Int32) (d1 : Int32) (d2 : Int32) (d3 : Int32) (he : el = (0 : Int32) ∨ el = (1 : Int32) ∨ el = (2 : Int32) ∨ el = (3 : Int32)) (e1 : Int32) (he1 : e1 = el) : e1 = (0 : Int32) ∨ e1 = (1 : Int32) ∨ e1 = (2 : Int32) ∨ e1 = (3 : Int32) := by subst he1; exact he
theorem own_leaf_2_3_68_s0ttt (el : Int32) (d1 : Int32) (d2 : Int32) (d3 : Int32) (he : el = (0 : Int32) ∨ el = (1 : Int32) ∨ el = (2 : Int32) ∨ el = (3 : Int32)) (he1 : (0 : Int32) = el) (hc22_6 : (0 : Int32) < d1) (hc42_10 : (0 : Int32) < d2) (hc62_14 : (0 : Int32) < d3) : (1 : Int32) = (own_insub [(0 : Int32), d1, d2, d3] el (3 : Int32)) := by subst he1; simp [own_insub, own_rd, *]
theorem own_leaf_2_3_66_s0ttf (el : Int32) (d1 : Int32) (d2 : Int32) (d3 : Int32) (he : el = (0 : Int32) ∨ el = (1 : Int32) ∨ el = (2 : Int32) ∨ el = (3 : Int32)) (he1 : (0 : Int32) = el) (hc22_6 : (0 : Int32) < d1) (hc42_10 : (0 : Int32) < d2) (hc62_14 : ¬ ((0 : Int32) < d3)) : (0 : Int32) = (own_insub [(0 : Int32), d1, d2, d3] el (3 : Int32)) := by subst he1; simp [own_insub, own_rd, *]
theorem own_leaf_2_3_46_s0tf (el : Int32) (d1 : Int32) (d2 : Int32) (d3 : Int32) (he : el = (0 : Int32) ∨ el = (1 : Int32) ∨ el = (2 : Int32) ∨ el = (3 : Int32)) (he1 : (0 : Int32) = el) (hc22_6 : (0 : Int32) < d1) (hc42_10 : ¬ ((0 : Int32) < d2)) : (0 : Int32) = (own_insub [(0 : Int32), d1, d2, d3] el (3 : Int32)) := by subst he1; simp [own_insub, own_rd, *]
theorem own_leaf_2_3_26_s0f (el : Int32) (d1 : Int32) (d2 : Int32) (d3 : Int32) (he : el = (0 : Int32) ∨ el = (1 : Int32) ∨ el = (2 : Int32) ∨ el = (3 : Int32)) (he1 : (0 : Int32) = el) (hc22_6 : ¬ ((0 : Int32) < d1)) : (0 : Int32) = (own_insub [(0 : Int32), d1, d2, d3] el (3 : Int32)) := by subst he1; simp [own_insub, own_rd, *]
theorem own_leaf_2_3_68_s1tt (el : Int32) (d1 : Int32) (d2 : Int32) (d3 : Int32) (he : el = (0 : Int32) ∨ el = (1 : Int32) ∨ el = (2 : Int32) ∨ el = (3 : Int32)) (he1 : (1 : Int32) = el) (hc22_22 : d1 < d2) (hc42_26 : d1 < d3) : (1 : Int32) = (own_insub [(0 : Int32), d1, d2, d3] el (3 : Int32)) := by subst he1; simp [own_insub, own_rd, *]
theorem own_leaf_2_3_46_s1tf (el : Int32) (d1 : Int32) (d2 : Int32) (d3 : Int32) (he : el = (0 : Int32) ∨ el = (1 : Int32) ∨ el = (2 : Int32) ∨ el = (3 : Int32)) (he1 : (1 : Int32) = el) (hc22_22 : d1 < d2) (hc42_26 : ¬ (d1 < d3)) : (0 : Int32) = (own_insub [(0 : Int32), d1, d2, d3] el (3 : Int32)) := by subst he1; simp [own_insub, own_rd, *]
theorem own_leaf_2_3_26_s1f (el : Int32) (d1 : Int32) (d2 : Int32) (d3 : Int32) (he : el = (0 : Int32) ∨ el = (1 : Int32) ∨ el = (2 : Int32) ∨ el = (3 : Int32)) (he1 : (1 : Int32) = el) (hc22_22 : ¬ (d1 < d2)) : (0 : Int32) = (own_insub [(0 : Int32), d1, d2, d3] el (3 : Int32)) := by subst he1; simp [own_insub, own_rd, *]
theorem own_leaf_2_3_68_s2t (el : Int32) (d1 : Int32) (d2 : Int32) (d3 : Int32) (he : el = (0 : Int32) ∨ el = (1 : Int32) ∨ el = (2 : Int32) ∨ el = (3 : Int32)) (he1 : (2 : Int32) = el) (hc22_33 : d2 < d3) : (1 : Int32) = (own_insub [(0 : Int32), d1, d2, d3] el (3 : Int32)) := by subst he1; simp [own_insub, own_rd, *]
theorem own_leaf_2_3_26_s2f (el : Int32) (d1 : Int32) (d2 : Int32) (d3 : Int32) (he : el = (0 : Int32) ∨ el = (1 : Int32) ∨ el = (2 : Int32) ∨ el = (3 : Int32)) (he1 : (2 : Int32) = el) (hc22_33 : ¬ (d2 < d3)) : (0 : Int32) = (own_insub [(0 : Int32), d1, d2, d3] el (3 : Int32)) := by subst he1; simp [own_insub, own_rd, *]
theorem own_leaf_2_3_6_s3 (el : Int32) (d1 : Int32) (d2 : Int32) (d3 : Int32) (he : el = (0 : Int32) ∨ el = (1 : Int32) ∨ el = (2 : Int32) ∨ el = (3 : Int32)) (he1 : (3 : Int32) = el) : (0 : Int32) = (own_insub [(0 : Int32), d1, d2, d3] el (3 : Int32)) := by subst he1; simp [own_insub, own_rd, *]
def Q2_3 (Z : State) (dr : Addr) (el : Int32) (jj : Int32) (d1 : Int32) (d2 : Int32) (d3 : Int32) (h0 : Heap) (n0 : Nat) (v : Option Value) (h : Heap) (L : List Loc) : Prop := v = some (.int (own_insub [(0 : Int32), d1, d2, d3] el jj)) ∧ Fr n0 L ∧ h = h0
set_option maxRecDepth 65536 in
set_option maxHeartbeats 40000000 in
theorem rm2_3 (l : Launch) (Z : State) (a0 : Array Value) (hw : ∀ d ∈ tables_1, d.before a0 Z = true) (ws : List Jvm.Cond) (dr : Addr) (el : Int32) (jj : Int32) (d1 : Int32) (d2 : Int32) (d3 : Int32) (h0 : Heap) (n0 : Nat) (Z0 : n0 ≤ h0.size) (I0 : own_ia Z h0 dr [(0 : Int32), d1, d2, d3]) (he : el = (0 : Int32) ∨ el = (1 : Int32) ∨ el = (2 : Int32) ∨ el = (3 : Int32)) (hlit_jj : jj = (3 : Int32)) :
    MetFree l (⟨"com/example/twigmeter/twigmeter/workload/ReachBelowPinLaw", "inSub", "([III)Z"⟩ : MethodName) (head1 (Jvm.Cond.code (⟨"com/example/twigmeter/twigmeter/workload/ReachBelowPinLaw", "inSub", "([III)Z"⟩ : MethodName) method_7_code 3 (some .boolean) :: ws) ({ frames := 0, cells := 0, slots := 0, locals := 0 } : Room)) (fun a U => a = #[(.ref dr), (.int el), (.int jj)] ∧ Z.Warmed39 U.vm ∧ U.heap = h0) (fun _ _ _ _ _ => True) (fun _ U o U' => ∃ v L, o = .returned v ∧ Q2_3 Z dr el jj d1 d2 d3 h0 n0 v U'.heap L ∧ FrameEnd U o U' L ({ frames := 0, cells := 0, slots := 0, locals := 0 } : Room).cells ({ frames := 0, cells := 0, slots := 0, locals := 0 } : Room).slots) := by
  refine MetFree.of_bodySF (plainFor_of_name pn_2) hisR ?_
  intro p e s m args below meth c s₁ Bd hml0 hP hK
  obtain ⟨rfl, hZ, hh⟩ := hP
  have hx := Bd.exec
  have hby := Bd.bytes
  have hml : c.maxLocals = 3 := hml0
  have hown : s.vm.findClass "com/example/twigmeter/twigmeter/workload/ReachBelowPinLaw" = some m.cls := findClass_of_methodNamed Bd.named
  have hnm := (name_of_methodNamed Bd.named Bd.method).1
  have X0 : Stand p l e ({ frames := 0, cells := 0, slots := 0, locals := 0 } : Room) s m #[(.ref dr), (.int el), (.int jj)] below meth c s₁ [] 0 0 := Stand.of_body Bd
  have e0 : s₁.heap = h0 := by rw [← hh, Bd.state]; rfl
  have N0 := Fr.nil n0
  have K0 : Keep h0 h0 [] := Keep.refl h0 _
  have pre0 : ∀ tq, Steps p.tables e below (s₁.setTop (mkF m 0 #[.val (.ref dr), .val (.int el), .val (.int jj)] [])) tq → Steps p.tables e below (s₁.setTop (entryFrame m #[(.ref dr), (.int el), (.int jj)] 3)) tq := fun tq kq => castTop (ef_2_3 m dr el jj) kq
  subst hlit_jj
  obtain ⟨e1, he1⟩ : ∃ z_q : Int32, z_q = el := ⟨_, rfl⟩
  have pre1 : ∀ tq, Steps p.tables e below (s₁.setTop (mkF m 0 #[.val (.ref dr), .val (.int e1), .val (.int (3 : Int32))] [])) tq → Steps p.tables e below (s₁.setTop (entryFrame m #[(.ref dr), (.int el), (.int (3 : Int32))] 3)) tq := by
    intro tq kt
    refine pre0 _ ?_
    show Steps p.tables e below (s₁.setTop (mkF m 0 #[.val (.ref dr), .val (.int el), .val (.int (3 : Int32))] [])) _
    rw [← he1]
    show Steps p.tables e below (s₁.setTop (mkF m 0 #[.val (.ref dr), .val (.int e1), .val (.int (3 : Int32))] [])) _
    exact kt
  rcases (own_split_2_3_0 el d1 d2 d3 he e1 he1) with hs2 | hs2 | hs2 | hs2
  · subst hs2
    obtain ⟨cl3, Ar3, hin3, hat3⟩ := I0.get (j := (1 : Int32)) rfl
    obtain ⟨cl4, Ar4, hin4, hat4⟩ := I0.get (j := (0 : Int32)) rfl
    have pre5 : ∀ tq, Steps p.tables e below (s₁.setTop (mkF m 22 #[.val (.ref dr), .val (.int (0 : Int32)), .val (.int (3 : Int32))] [(.int (0 : Int32)), (.int d1)])) tq → Steps p.tables e below (s₁.setTop (entryFrame m #[(.ref dr), (.int el), (.int (3 : Int32))] 3)) tq := by
      intro tq kt
      refine pre1 _ ?_
      show Steps p.tables e below (s₁.setTop (mkF m 0 #[.val (.ref dr), .val (.int (0 : Int32)), .val (.int (3 : Int32))] [])) _
      refine XS.iloadN X0.here hx rfl (hb hby d2_0) rfl ?_
      refine XS.iloadN X0.here hx rfl (hb hby d2_1) rfl ?_
      refine XS.icmpYes X0.here hx rfl (pc0 := 2) (pc' := 7) rfl (hb hby d2_2) rfl (tlt (by decide)).2.2.1 (by decide) (by decide) ?_
      refine XS.iloadN X0.here hx rfl (hb hby d2_7) rfl ?_
      refine XS.iconst X0.here hx rfl (hb hby d2_8) ?_
      refine XS.iadd X0.here hx rfl (hb hby d2_9) rfl ?_
      show Steps p.tables e below (s₁.setTop (mkF m 10 #[.val (.ref dr), .val (.int (0 : Int32)), .val (.int (3 : Int32))] [(.int (1 : Int32))])) _
      refine XS.iloadN X0.here hx rfl (hb hby d2_10) rfl ?_
      refine XS.icmpNo X0.here hx rfl (hb hby d2_11) rfl (flt (by decide)).2.2.1 ?_
      refine XS.aloadN X0.here hx rfl (hb hby d2_14) rfl rfl ?_
      refine XS.iloadN X0.here hx rfl (hb hby d2_15) rfl ?_
      refine XS.iconst X0.here hx rfl (hb hby d2_16) ?_
      refine XS.iadd X0.here hx rfl (hb hby d2_17) rfl ?_
      show Steps p.tables e below (s₁.setTop (mkF m 18 #[.val (.ref dr), .val (.int (0 : Int32)), .val (.int (3 : Int32))] [(.int (1 : Int32)), (.ref dr)])) _
      refine X0.iaload hx (j := (1 : Int32)) (v := (.int d1)) (heq_of e0 Ar3.1) (State.isArrayOf_alike hZ.alike Ar3.2.1) Ar3.2.2 hin3 hat3 (g := (mkF m 18 #[.val (.ref dr), .val (.int (0 : Int32)), .val (.int (3 : Int32))] [(.int (1 : Int32)), (.ref dr)])) rfl rfl (hb hby d2_18) _ ?_
      show Steps p.tables e below (s₁.setTop (mkF m 19 #[.val (.ref dr), .val (.int (0 : Int32)), .val (.int (3 : Int32))] [(.int d1)])) _
      refine XS.aloadN X0.here hx rfl (hb hby d2_19) rfl rfl ?_
      refine XS.iloadN X0.here hx rfl (hb hby d2_20) rfl ?_
      refine X0.iaload hx (j := (0 : Int32)) (v := (.int (0 : Int32))) (heq_of e0 Ar4.1) (State.isArrayOf_alike hZ.alike Ar4.2.1) Ar4.2.2 hin4 hat4 (g := (mkF m 21 #[.val (.ref dr), .val (.int (0 : Int32)), .val (.int (3 : Int32))] [(.int (0 : Int32)), (.ref dr), (.int d1)])) rfl rfl (hb hby d2_21) _ ?_
      show Steps p.tables e below (s₁.setTop (mkF m 22 #[.val (.ref dr), .val (.int (0 : Int32)), .val (.int (3 : Int32))] [(.int (0 : Int32)), (.int d1)])) _
      exact kt
    by_cases hc22_6 : (0 : Int32) < d1
    · skip
      obtain ⟨cl7, Ar7, hin7, hat7⟩ := I0.get (j := (2 : Int32)) rfl
      obtain ⟨cl8, Ar8, hin8, hat8⟩ := I0.get (j := (0 : Int32)) rfl
      have pre9 : ∀ tq, Steps p.tables e below (s₁.setTop (mkF m 42 #[.val (.ref dr), .val (.int (0 : Int32)), .val (.int (3 : Int32))] [(.int (0 : Int32)), (.int d2)])) tq → Steps p.tables e below (s₁.setTop (entryFrame m #[(.ref dr), (.int el), (.int (3 : Int32))] 3)) tq := by
        intro tq kt
        refine pre5 _ ?_
        show Steps p.tables e below (s₁.setTop (mkF m 22 #[.val (.ref dr), .val (.int (0 : Int32)), .val (.int (3 : Int32))] [(.int (0 : Int32)), (.int d1)])) _
        refine XS.icmpYes X0.here hx rfl (pc0 := 22) (pc' := 27) rfl (hb hby d2_22) rfl (tlt hc22_6).2.2.1 (by decide) (by decide) ?_
        refine XS.iloadN X0.here hx rfl (hb hby d2_27) rfl ?_
        refine XS.iconst X0.here hx rfl (hb hby d2_28) ?_
        refine XS.iadd X0.here hx rfl (hb hby d2_29) rfl ?_
        refine XS.iloadN X0.here hx rfl (hb hby d2_30) rfl ?_
        refine XS.icmpNo X0.here hx rfl (hb hby d2_31) rfl (flt (by decide)).2.2.1 ?_
        show Steps p.tables e below (s₁.setTop (mkF m 34 #[.val (.ref dr), .val (.int (0 : Int32)), .val (.int (3 : Int32))] [])) _
        refine XS.aloadN X0.here hx rfl (hb hby d2_34) rfl rfl ?_
        refine XS.iloadN X0.here hx rfl (hb hby d2_35) rfl ?_
        refine XS.iconst X0.here hx rfl (hb hby d2_36) ?_
        refine XS.iadd X0.here hx rfl (hb hby d2_37) rfl ?_
        refine X0.iaload hx (j := (2 : Int32)) (v := (.int d2)) (heq_of e0 Ar7.1) (State.isArrayOf_alike hZ.alike Ar7.2.1) Ar7.2.2 hin7 hat7 (g := (mkF m 38 #[.val (.ref dr), .val (.int (0 : Int32)), .val (.int (3 : Int32))] [(.int (2 : Int32)), (.ref dr)])) rfl rfl (hb hby d2_38) _ ?_
        show Steps p.tables e below (s₁.setTop (mkF m 39 #[.val (.ref dr), .val (.int (0 : Int32)), .val (.int (3 : Int32))] [(.int d2)])) _
        refine XS.aloadN X0.here hx rfl (hb hby d2_39) rfl rfl ?_
        refine XS.iloadN X0.here hx rfl (hb hby d2_40) rfl ?_
        refine X0.iaload hx (j := (0 : Int32)) (v := (.int (0 : Int32))) (heq_of e0 Ar8.1) (State.isArrayOf_alike hZ.alike Ar8.2.1) Ar8.2.2 hin8 hat8 (g := (mkF m 41 #[.val (.ref dr), .val (.int (0 : Int32)), .val (.int (3 : Int32))] [(.int (0 : Int32)), (.ref dr), (.int d2)])) rfl rfl (hb hby d2_41) _ ?_
        show Steps p.tables e below (s₁.setTop (mkF m 42 #[.val (.ref dr), .val (.int (0 : Int32)), .val (.int (3 : Int32))] [(.int (0 : Int32)), (.int d2)])) _
        exact kt
      by_cases hc42_10 : (0 : Int32) < d2
      · skip
        obtain ⟨cl11, Ar11, hin11, hat11⟩ := I0.get (j := (3 : Int32)) rfl
        obtain ⟨cl12, Ar12, hin12, hat12⟩ := I0.get (j := (0 : Int32)) rfl
        have pre13 : ∀ tq, Steps p.tables e below (s₁.setTop (mkF m 62 #[.val (.ref dr), .val (.int (0 : Int32)), .val (.int (3 : Int32))] [(.int (0 : Int32)), (.int d3)])) tq → Steps p.tables e below (s₁.setTop (entryFrame m #[(.ref dr), (.int el), (.int (3 : Int32))] 3)) tq := by
          intro tq kt
          refine pre9 _ ?_
          show Steps p.tables e below (s₁.setTop (mkF m 42 #[.val (.ref dr), .val (.int (0 : Int32)), .val (.int (3 : Int32))] [(.int (0 : Int32)), (.int d2)])) _
          refine XS.icmpYes X0.here hx rfl (pc0 := 42) (pc' := 47) rfl (hb hby d2_42) rfl (tlt hc42_10).2.2.1 (by decide) (by decide) ?_
          refine XS.iloadN X0.here hx rfl (hb hby d2_47) rfl ?_
          refine XS.iconst X0.here hx rfl (hb hby d2_48) ?_
          refine XS.iadd X0.here hx rfl (hb hby d2_49) rfl ?_
          refine XS.iloadN X0.here hx rfl (hb hby d2_50) rfl ?_
          refine XS.icmpNo X0.here hx rfl (hb hby d2_51) rfl (flt (by decide)).2.2.1 ?_
          show Steps p.tables e below (s₁.setTop (mkF m 54 #[.val (.ref dr), .val (.int (0 : Int32)), .val (.int (3 : Int32))] [])) _
          refine XS.aloadN X0.here hx rfl (hb hby d2_54) rfl rfl ?_
          refine XS.iloadN X0.here hx rfl (hb hby d2_55) rfl ?_
          refine XS.iconst X0.here hx rfl (hb hby d2_56) ?_
          refine XS.iadd X0.here hx rfl (hb hby d2_57) rfl ?_
          refine X0.iaload hx (j := (3 : Int32)) (v := (.int d3)) (heq_of e0 Ar11.1) (State.isArrayOf_alike hZ.alike Ar11.2.1) Ar11.2.2 hin11 hat11 (g := (mkF m 58 #[.val (.ref dr), .val (.int (0 : Int32)), .val (.int (3 : Int32))] [(.int (3 : Int32)), (.ref dr)])) rfl rfl (hb hby d2_58) _ ?_
          show Steps p.tables e below (s₁.setTop (mkF m 59 #[.val (.ref dr), .val (.int (0 : Int32)), .val (.int (3 : Int32))] [(.int d3)])) _
          refine XS.aloadN X0.here hx rfl (hb hby d2_59) rfl rfl ?_
          refine XS.iloadN X0.here hx rfl (hb hby d2_60) rfl ?_
          refine X0.iaload hx (j := (0 : Int32)) (v := (.int (0 : Int32))) (heq_of e0 Ar12.1) (State.isArrayOf_alike hZ.alike Ar12.2.1) Ar12.2.2 hin12 hat12 (g := (mkF m 61 #[.val (.ref dr), .val (.int (0 : Int32)), .val (.int (3 : Int32))] [(.int (0 : Int32)), (.ref dr), (.int d3)])) rfl rfl (hb hby d2_61) _ ?_
          show Steps p.tables e below (s₁.setTop (mkF m 62 #[.val (.ref dr), .val (.int (0 : Int32)), .val (.int (3 : Int32))] [(.int (0 : Int32)), (.int d3)])) _
          exact kt
        by_cases hc62_14 : (0 : Int32) < d3
        · skip
          obtain ⟨fs, hr, hrun, hended, hW, hsame⟩ := X0.leave (v := some (Value.int (1 : Int32))) (fun h => by rw [Bd.returns] at h; cases h)
          have hres15 : (1 : Int32) = (own_insub [(0 : Int32), d1, d2, d3] el (3 : Int32)) := (own_leaf_2_3_68_s0ttt el d1 d2 d3 he he1 hc22_6 hc42_10 hc62_14)
          refine ⟨_, _, pre13 _ ?_, hrun, hended, _, _, rfl, ?_, ⟨_, rfl⟩, hW, hsame.mono (by decide) (by decide)⟩
          · skip
            show Steps p.tables e below (s₁.setTop (mkF m 62 #[.val (.ref dr), .val (.int (0 : Int32)), .val (.int (3 : Int32))] [(.int (0 : Int32)), (.int d3)])) _
            refine XS.icmpYes X0.here hx rfl (pc0 := 62) (pc' := 67) rfl (hb hby d2_62) rfl (tlt hc62_14).2.2.1 (by decide) (by decide) ?_
            refine XS.iconst X0.here hx rfl (hb hby d2_67) ?_
            show Steps p.tables e below (s₁.setTop (mkF m 68 #[.val (.ref dr), .val (.int (0 : Int32)), .val (.int (3 : Int32))] [(.int (1 : Int32))])) _
            exact retN X0 hx (t := .boolean) Bd.returns (by simp) (hb hby d2_68) hr
          · show Q2_3 Z dr el (3 : Int32) d1 d2 d3 h0 n0 _ s₁.heap _
            rw [e0]
            exact ⟨congrArg (fun z => some (Value.int z)) hres15, N0, rfl⟩
        · skip
          obtain ⟨fs, hr, hrun, hended, hW, hsame⟩ := X0.leave (v := some (Value.int (0 : Int32))) (fun h => by rw [Bd.returns] at h; cases h)
          have hres16 : (0 : Int32) = (own_insub [(0 : Int32), d1, d2, d3] el (3 : Int32)) := (own_leaf_2_3_66_s0ttf el d1 d2 d3 he he1 hc22_6 hc42_10 hc62_14)
          refine ⟨_, _, pre13 _ ?_, hrun, hended, _, _, rfl, ?_, ⟨_, rfl⟩, hW, hsame.mono (by decide) (by decide)⟩
          · skip
            show Steps p.tables e below (s₁.setTop (mkF m 62 #[.val (.ref dr), .val (.int (0 : Int32)), .val (.int (3 : Int32))] [(.int (0 : Int32)), (.int d3)])) _
            refine XS.icmpNo X0.here hx rfl (hb hby d2_62) rfl (flt hc62_14).2.2.1 ?_
            refine XS.iconst X0.here hx rfl (hb hby d2_65) ?_
            show Steps p.tables e below (s₁.setTop (mkF m 66 #[.val (.ref dr), .val (.int (0 : Int32)), .val (.int (3 : Int32))] [(.int (0 : Int32))])) _
            exact retN X0 hx (t := .boolean) Bd.returns (by simp) (hb hby d2_66) hr
          · show Q2_3 Z dr el (3 : Int32) d1 d2 d3 h0 n0 _ s₁.heap _
            rw [e0]
            exact ⟨congrArg (fun z => some (Value.int z)) hres16, N0, rfl⟩
      · skip
        obtain ⟨fs, hr, hrun, hended, hW, hsame⟩ := X0.leave (v := some (Value.int (0 : Int32))) (fun h => by rw [Bd.returns] at h; cases h)
        have hres17 : (0 : Int32) = (own_insub [(0 : Int32), d1, d2, d3] el (3 : Int32)) := (own_leaf_2_3_46_s0tf el d1 d2 d3 he he1 hc22_6 hc42_10)
        refine ⟨_, _, pre9 _ ?_, hrun, hended, _, _, rfl, ?_, ⟨_, rfl⟩, hW, hsame.mono (by decide) (by decide)⟩
        · skip
          show Steps p.tables e below (s₁.setTop (mkF m 42 #[.val (.ref dr), .val (.int (0 : Int32)), .val (.int (3 : Int32))] [(.int (0 : Int32)), (.int d2)])) _
          refine XS.icmpNo X0.here hx rfl (hb hby d2_42) rfl (flt hc42_10).2.2.1 ?_
          refine XS.iconst X0.here hx rfl (hb hby d2_45) ?_
          show Steps p.tables e below (s₁.setTop (mkF m 46 #[.val (.ref dr), .val (.int (0 : Int32)), .val (.int (3 : Int32))] [(.int (0 : Int32))])) _
          exact retN X0 hx (t := .boolean) Bd.returns (by simp) (hb hby d2_46) hr
        · show Q2_3 Z dr el (3 : Int32) d1 d2 d3 h0 n0 _ s₁.heap _
          rw [e0]
          exact ⟨congrArg (fun z => some (Value.int z)) hres17, N0, rfl⟩
    · skip
      obtain ⟨fs, hr, hrun, hended, hW, hsame⟩ := X0.leave (v := some (Value.int (0 : Int32))) (fun h => by rw [Bd.returns] at h; cases h)
      have hres18 : (0 : Int32) = (own_insub [(0 : Int32), d1, d2, d3] el (3 : Int32)) := (own_leaf_2_3_26_s0f el d1 d2 d3 he he1 hc22_6)
      refine ⟨_, _, pre5 _ ?_, hrun, hended, _, _, rfl, ?_, ⟨_, rfl⟩, hW, hsame.mono (by decide) (by decide)⟩
      · skip
        show Steps p.tables e below (s₁.setTop (mkF m 22 #[.val (.ref dr), .val (.int (0 : Int32)), .val (.int (3 : Int32))] [(.int (0 : Int32)), (.int d1)])) _
        refine XS.icmpNo X0.here hx rfl (hb hby d2_22) rfl (flt hc22_6).2.2.1 ?_
        refine XS.iconst X0.here hx rfl (hb hby d2_25) ?_
        show Steps p.tables e below (s₁.setTop (mkF m 26 #[.val (.ref dr), .val (.int (0 : Int32)), .val (.int (3 : Int32))] [(.int (0 : Int32))])) _
        exact retN X0 hx (t := .boolean) Bd.returns (by simp) (hb hby d2_26) hr
      · show Q2_3 Z dr el (3 : Int32) d1 d2 d3 h0 n0 _ s₁.heap _
        rw [e0]
        exact ⟨congrArg (fun z => some (Value.int z)) hres18, N0, rfl⟩
  · subst hs2
    obtain ⟨cl19, Ar19, hin19, hat19⟩ := I0.get (j := (2 : Int32)) rfl
    obtain ⟨cl20, Ar20, hin20, hat20⟩ := I0.get (j := (1 : Int32)) rfl
    have pre21 : ∀ tq, Steps p.tables e below (s₁.setTop (mkF m 22 #[.val (.ref dr), .val (.int (1 : Int32)), .val (.int (3 : Int32))] [(.int d1), (.int d2)])) tq → Steps p.tables e below (s₁.setTop (entryFrame m #[(.ref dr), (.int el), (.int (3 : Int32))] 3)) tq := by
      intro tq kt
      refine pre1 _ ?_
      show Steps p.tables e below (s₁.setTop (mkF m 0 #[.val (.ref dr), .val (.int (1 : Int32)), .val (.int (3 : Int32))] [])) _
      refine XS.iloadN X0.here hx rfl (hb hby d2_0) rfl ?_
      refine XS.iloadN X0.here hx rfl (hb hby d2_1) rfl ?_
      refine XS.icmpYes X0.here hx rfl (pc0 := 2) (pc' := 7) rfl (hb hby d2_2) rfl (tlt (by decide)).2.2.1 (by decide) (by decide) ?_
      refine XS.iloadN X0.here hx rfl (hb hby d2_7) rfl ?_
      refine XS.iconst X0.here hx rfl (hb hby d2_8) ?_
      refine XS.iadd X0.here hx rfl (hb hby d2_9) rfl ?_
      show Steps p.tables e below (s₁.setTop (mkF m 10 #[.val (.ref dr), .val (.int (1 : Int32)), .val (.int (3 : Int32))] [(.int (2 : Int32))])) _
      refine XS.iloadN X0.here hx rfl (hb hby d2_10) rfl ?_
      refine XS.icmpNo X0.here hx rfl (hb hby d2_11) rfl (flt (by decide)).2.2.1 ?_
      refine XS.aloadN X0.here hx rfl (hb hby d2_14) rfl rfl ?_
      refine XS.iloadN X0.here hx rfl (hb hby d2_15) rfl ?_
      refine XS.iconst X0.here hx rfl (hb hby d2_16) ?_
      refine XS.iadd X0.here hx rfl (hb hby d2_17) rfl ?_
      show Steps p.tables e below (s₁.setTop (mkF m 18 #[.val (.ref dr), .val (.int (1 : Int32)), .val (.int (3 : Int32))] [(.int (2 : Int32)), (.ref dr)])) _
      refine X0.iaload hx (j := (2 : Int32)) (v := (.int d2)) (heq_of e0 Ar19.1) (State.isArrayOf_alike hZ.alike Ar19.2.1) Ar19.2.2 hin19 hat19 (g := (mkF m 18 #[.val (.ref dr), .val (.int (1 : Int32)), .val (.int (3 : Int32))] [(.int (2 : Int32)), (.ref dr)])) rfl rfl (hb hby d2_18) _ ?_
      show Steps p.tables e below (s₁.setTop (mkF m 19 #[.val (.ref dr), .val (.int (1 : Int32)), .val (.int (3 : Int32))] [(.int d2)])) _
      refine XS.aloadN X0.here hx rfl (hb hby d2_19) rfl rfl ?_
      refine XS.iloadN X0.here hx rfl (hb hby d2_20) rfl ?_
      refine X0.iaload hx (j := (1 : Int32)) (v := (.int d1)) (heq_of e0 Ar20.1) (State.isArrayOf_alike hZ.alike Ar20.2.1) Ar20.2.2 hin20 hat20 (g := (mkF m 21 #[.val (.ref dr), .val (.int (1 : Int32)), .val (.int (3 : Int32))] [(.int (1 : Int32)), (.ref dr), (.int d2)])) rfl rfl (hb hby d2_21) _ ?_
      show Steps p.tables e below (s₁.setTop (mkF m 22 #[.val (.ref dr), .val (.int (1 : Int32)), .val (.int (3 : Int32))] [(.int d1), (.int d2)])) _
      exact kt
    by_cases hc22_22 : d1 < d2
    · skip
      obtain ⟨cl23, Ar23, hin23, hat23⟩ := I0.get (j := (3 : Int32)) rfl
      obtain ⟨cl24, Ar24, hin24, hat24⟩ := I0.get (j := (1 : Int32)) rfl
      have pre25 : ∀ tq, Steps p.tables e below (s₁.setTop (mkF m 42 #[.val (.ref dr), .val (.int (1 : Int32)), .val (.int (3 : Int32))] [(.int d1), (.int d3)])) tq → Steps p.tables e below (s₁.setTop (entryFrame m #[(.ref dr), (.int el), (.int (3 : Int32))] 3)) tq := by
        intro tq kt
        refine pre21 _ ?_
        show Steps p.tables e below (s₁.setTop (mkF m 22 #[.val (.ref dr), .val (.int (1 : Int32)), .val (.int (3 : Int32))] [(.int d1), (.int d2)])) _
        refine XS.icmpYes X0.here hx rfl (pc0 := 22) (pc' := 27) rfl (hb hby d2_22) rfl (tlt hc22_22).2.2.1 (by decide) (by decide) ?_
        refine XS.iloadN X0.here hx rfl (hb hby d2_27) rfl ?_
        refine XS.iconst X0.here hx rfl (hb hby d2_28) ?_
        refine XS.iadd X0.here hx rfl (hb hby d2_29) rfl ?_
        refine XS.iloadN X0.here hx rfl (hb hby d2_30) rfl ?_
        refine XS.icmpNo X0.here hx rfl (hb hby d2_31) rfl (flt (by decide)).2.2.1 ?_
        show Steps p.tables e below (s₁.setTop (mkF m 34 #[.val (.ref dr), .val (.int (1 : Int32)), .val (.int (3 : Int32))] [])) _
        refine XS.aloadN X0.here hx rfl (hb hby d2_34) rfl rfl ?_
        refine XS.iloadN X0.here hx rfl (hb hby d2_35) rfl ?_
        refine XS.iconst X0.here hx rfl (hb hby d2_36) ?_
        refine XS.iadd X0.here hx rfl (hb hby d2_37) rfl ?_
        refine X0.iaload hx (j := (3 : Int32)) (v := (.int d3)) (heq_of e0 Ar23.1) (State.isArrayOf_alike hZ.alike Ar23.2.1) Ar23.2.2 hin23 hat23 (g := (mkF m 38 #[.val (.ref dr), .val (.int (1 : Int32)), .val (.int (3 : Int32))] [(.int (3 : Int32)), (.ref dr)])) rfl rfl (hb hby d2_38) _ ?_
        show Steps p.tables e below (s₁.setTop (mkF m 39 #[.val (.ref dr), .val (.int (1 : Int32)), .val (.int (3 : Int32))] [(.int d3)])) _
        refine XS.aloadN X0.here hx rfl (hb hby d2_39) rfl rfl ?_
        refine XS.iloadN X0.here hx rfl (hb hby d2_40) rfl ?_
        refine X0.iaload hx (j := (1 : Int32)) (v := (.int d1)) (heq_of e0 Ar24.1) (State.isArrayOf_alike hZ.alike Ar24.2.1) Ar24.2.2 hin24 hat24 (g := (mkF m 41 #[.val (.ref dr), .val (.int (1 : Int32)), .val (.int (3 : Int32))] [(.int (1 : Int32)), (.ref dr), (.int d3)])) rfl rfl (hb hby d2_41) _ ?_
        show Steps p.tables e below (s₁.setTop (mkF m 42 #[.val (.ref dr), .val (.int (1 : Int32)), .val (.int (3 : Int32))] [(.int d1), (.int d3)])) _
        exact kt
      by_cases hc42_26 : d1 < d3
      · skip
        obtain ⟨fs, hr, hrun, hended, hW, hsame⟩ := X0.leave (v := some (Value.int (1 : Int32))) (fun h => by rw [Bd.returns] at h; cases h)
        have hres27 : (1 : Int32) = (own_insub [(0 : Int32), d1, d2, d3] el (3 : Int32)) := (own_leaf_2_3_68_s1tt el d1 d2 d3 he he1 hc22_22 hc42_26)
        refine ⟨_, _, pre25 _ ?_, hrun, hended, _, _, rfl, ?_, ⟨_, rfl⟩, hW, hsame.mono (by decide) (by decide)⟩
        · skip
          show Steps p.tables e below (s₁.setTop (mkF m 42 #[.val (.ref dr), .val (.int (1 : Int32)), .val (.int (3 : Int32))] [(.int d1), (.int d3)])) _
          refine XS.icmpYes X0.here hx rfl (pc0 := 42) (pc' := 47) rfl (hb hby d2_42) rfl (tlt hc42_26).2.2.1 (by decide) (by decide) ?_
          refine XS.iloadN X0.here hx rfl (hb hby d2_47) rfl ?_
          refine XS.iconst X0.here hx rfl (hb hby d2_48) ?_
          refine XS.iadd X0.here hx rfl (hb hby d2_49) rfl ?_
          refine XS.iloadN X0.here hx rfl (hb hby d2_50) rfl ?_
          refine XS.icmpYes X0.here hx rfl (pc0 := 51) (pc' := 67) rfl (hb hby d2_51) rfl (tlt (by decide)).2.2.1 (by decide) (by decide) ?_
          show Steps p.tables e below (s₁.setTop (mkF m 67 #[.val (.ref dr), .val (.int (1 : Int32)), .val (.int (3 : Int32))] [])) _
          refine XS.iconst X0.here hx rfl (hb hby d2_67) ?_
          show Steps p.tables e below (s₁.setTop (mkF m 68 #[.val (.ref dr), .val (.int (1 : Int32)), .val (.int (3 : Int32))] [(.int (1 : Int32))])) _
          exact retN X0 hx (t := .boolean) Bd.returns (by simp) (hb hby d2_68) hr
        · show Q2_3 Z dr el (3 : Int32) d1 d2 d3 h0 n0 _ s₁.heap _
          rw [e0]
          exact ⟨congrArg (fun z => some (Value.int z)) hres27, N0, rfl⟩
      · skip
        obtain ⟨fs, hr, hrun, hended, hW, hsame⟩ := X0.leave (v := some (Value.int (0 : Int32))) (fun h => by rw [Bd.returns] at h; cases h)
        have hres28 : (0 : Int32) = (own_insub [(0 : Int32), d1, d2, d3] el (3 : Int32)) := (own_leaf_2_3_46_s1tf el d1 d2 d3 he he1 hc22_22 hc42_26)
        refine ⟨_, _, pre25 _ ?_, hrun, hended, _, _, rfl, ?_, ⟨_, rfl⟩, hW, hsame.mono (by decide) (by decide)⟩
        · skip
          show Steps p.tables e below (s₁.setTop (mkF m 42 #[.val (.ref dr), .val (.int (1 : Int32)), .val (.int (3 : Int32))] [(.int d1), (.int d3)])) _
          refine XS.icmpNo X0.here hx rfl (hb hby d2_42) rfl (flt hc42_26).2.2.1 ?_
          refine XS.iconst X0.here hx rfl (hb hby d2_45) ?_
          show Steps p.tables e below (s₁.setTop (mkF m 46 #[.val (.ref dr), .val (.int (1 : Int32)), .val (.int (3 : Int32))] [(.int (0 : Int32))])) _
          exact retN X0 hx (t := .boolean) Bd.returns (by simp) (hb hby d2_46) hr
        · show Q2_3 Z dr el (3 : Int32) d1 d2 d3 h0 n0 _ s₁.heap _
          rw [e0]
          exact ⟨congrArg (fun z => some (Value.int z)) hres28, N0, rfl⟩
    · skip
      obtain ⟨fs, hr, hrun, hended, hW, hsame⟩ := X0.leave (v := some (Value.int (0 : Int32))) (fun h => by rw [Bd.returns] at h; cases h)
      have hres29 : (0 : Int32) = (own_insub [(0 : Int32), d1, d2, d3] el (3 : Int32)) := (own_leaf_2_3_26_s1f el d1 d2 d3 he he1 hc22_22)
      refine ⟨_, _, pre21 _ ?_, hrun, hended, _, _, rfl, ?_, ⟨_, rfl⟩, hW, hsame.mono (by decide) (by decide)⟩
      · skip
        show Steps p.tables e below (s₁.setTop (mkF m 22 #[.val (.ref dr), .val (.int (1 : Int32)), .val (.int (3 : Int32))] [(.int d1), (.int d2)])) _
        refine XS.icmpNo X0.here hx rfl (hb hby d2_22) rfl (flt hc22_22).2.2.1 ?_
        refine XS.iconst X0.here hx rfl (hb hby d2_25) ?_
        show Steps p.tables e below (s₁.setTop (mkF m 26 #[.val (.ref dr), .val (.int (1 : Int32)), .val (.int (3 : Int32))] [(.int (0 : Int32))])) _
        exact retN X0 hx (t := .boolean) Bd.returns (by simp) (hb hby d2_26) hr
      · show Q2_3 Z dr el (3 : Int32) d1 d2 d3 h0 n0 _ s₁.heap _
        rw [e0]
        exact ⟨congrArg (fun z => some (Value.int z)) hres29, N0, rfl⟩
  · subst hs2
    obtain ⟨cl30, Ar30, hin30, hat30⟩ := I0.get (j := (3 : Int32)) rfl
    obtain ⟨cl31, Ar31, hin31, hat31⟩ := I0.get (j := (2 : Int32)) rfl
    have pre32 : ∀ tq, Steps p.tables e below (s₁.setTop (mkF m 22 #[.val (.ref dr), .val (.int (2 : Int32)), .val (.int (3 : Int32))] [(.int d2), (.int d3)])) tq → Steps p.tables e below (s₁.setTop (entryFrame m #[(.ref dr), (.int el), (.int (3 : Int32))] 3)) tq := by
      intro tq kt
      refine pre1 _ ?_
      show Steps p.tables e below (s₁.setTop (mkF m 0 #[.val (.ref dr), .val (.int (2 : Int32)), .val (.int (3 : Int32))] [])) _
      refine XS.iloadN X0.here hx rfl (hb hby d2_0) rfl ?_
      refine XS.iloadN X0.here hx rfl (hb hby d2_1) rfl ?_
      refine XS.icmpYes X0.here hx rfl (pc0 := 2) (pc' := 7) rfl (hb hby d2_2) rfl (tlt (by decide)).2.2.1 (by decide) (by decide) ?_
      refine XS.iloadN X0.here hx rfl (hb hby d2_7) rfl ?_
      refine XS.iconst X0.here hx rfl (hb hby d2_8) ?_
      refine XS.iadd X0.here hx rfl (hb hby d2_9) rfl ?_
      show Steps p.tables e below (s₁.setTop (mkF m 10 #[.val (.ref dr), .val (.int (2 : Int32)), .val (.int (3 : Int32))] [(.int (3 : Int32))])) _
      refine XS.iloadN X0.here hx rfl (hb hby d2_10) rfl ?_
      refine XS.icmpNo X0.here hx rfl (hb hby d2_11) rfl (flt (by decide)).2.2.1 ?_
      refine XS.aloadN X0.here hx rfl (hb hby d2_14) rfl rfl ?_
      refine XS.iloadN X0.here hx rfl (hb hby d2_15) rfl ?_
      refine XS.iconst X0.here hx rfl (hb hby d2_16) ?_
      refine XS.iadd X0.here hx rfl (hb hby d2_17) rfl ?_
      show Steps p.tables e below (s₁.setTop (mkF m 18 #[.val (.ref dr), .val (.int (2 : Int32)), .val (.int (3 : Int32))] [(.int (3 : Int32)), (.ref dr)])) _
      refine X0.iaload hx (j := (3 : Int32)) (v := (.int d3)) (heq_of e0 Ar30.1) (State.isArrayOf_alike hZ.alike Ar30.2.1) Ar30.2.2 hin30 hat30 (g := (mkF m 18 #[.val (.ref dr), .val (.int (2 : Int32)), .val (.int (3 : Int32))] [(.int (3 : Int32)), (.ref dr)])) rfl rfl (hb hby d2_18) _ ?_
      show Steps p.tables e below (s₁.setTop (mkF m 19 #[.val (.ref dr), .val (.int (2 : Int32)), .val (.int (3 : Int32))] [(.int d3)])) _
      refine XS.aloadN X0.here hx rfl (hb hby d2_19) rfl rfl ?_
      refine XS.iloadN X0.here hx rfl (hb hby d2_20) rfl ?_
      refine X0.iaload hx (j := (2 : Int32)) (v := (.int d2)) (heq_of e0 Ar31.1) (State.isArrayOf_alike hZ.alike Ar31.2.1) Ar31.2.2 hin31 hat31 (g := (mkF m 21 #[.val (.ref dr), .val (.int (2 : Int32)), .val (.int (3 : Int32))] [(.int (2 : Int32)), (.ref dr), (.int d3)])) rfl rfl (hb hby d2_21) _ ?_
      show Steps p.tables e below (s₁.setTop (mkF m 22 #[.val (.ref dr), .val (.int (2 : Int32)), .val (.int (3 : Int32))] [(.int d2), (.int d3)])) _
      exact kt
    by_cases hc22_33 : d2 < d3
    · skip
      obtain ⟨fs, hr, hrun, hended, hW, hsame⟩ := X0.leave (v := some (Value.int (1 : Int32))) (fun h => by rw [Bd.returns] at h; cases h)
      have hres34 : (1 : Int32) = (own_insub [(0 : Int32), d1, d2, d3] el (3 : Int32)) := (own_leaf_2_3_68_s2t el d1 d2 d3 he he1 hc22_33)
      refine ⟨_, _, pre32 _ ?_, hrun, hended, _, _, rfl, ?_, ⟨_, rfl⟩, hW, hsame.mono (by decide) (by decide)⟩
      · skip
        show Steps p.tables e below (s₁.setTop (mkF m 22 #[.val (.ref dr), .val (.int (2 : Int32)), .val (.int (3 : Int32))] [(.int d2), (.int d3)])) _
        refine XS.icmpYes X0.here hx rfl (pc0 := 22) (pc' := 27) rfl (hb hby d2_22) rfl (tlt hc22_33).2.2.1 (by decide) (by decide) ?_
        refine XS.iloadN X0.here hx rfl (hb hby d2_27) rfl ?_
        refine XS.iconst X0.here hx rfl (hb hby d2_28) ?_
        refine XS.iadd X0.here hx rfl (hb hby d2_29) rfl ?_
        refine XS.iloadN X0.here hx rfl (hb hby d2_30) rfl ?_
        refine XS.icmpYes X0.here hx rfl (pc0 := 31) (pc' := 47) rfl (hb hby d2_31) rfl (tlt (by decide)).2.2.1 (by decide) (by decide) ?_
        show Steps p.tables e below (s₁.setTop (mkF m 47 #[.val (.ref dr), .val (.int (2 : Int32)), .val (.int (3 : Int32))] [])) _
        refine XS.iloadN X0.here hx rfl (hb hby d2_47) rfl ?_
        refine XS.iconst X0.here hx rfl (hb hby d2_48) ?_
        refine XS.iadd X0.here hx rfl (hb hby d2_49) rfl ?_
        refine XS.iloadN X0.here hx rfl (hb hby d2_50) rfl ?_
        refine XS.icmpYes X0.here hx rfl (pc0 := 51) (pc' := 67) rfl (hb hby d2_51) rfl (tlt (by decide)).2.2.1 (by decide) (by decide) ?_
        refine XS.iconst X0.here hx rfl (hb hby d2_67) ?_
        show Steps p.tables e below (s₁.setTop (mkF m 68 #[.val (.ref dr), .val (.int (2 : Int32)), .val (.int (3 : Int32))] [(.int (1 : Int32))])) _
        exact retN X0 hx (t := .boolean) Bd.returns (by simp) (hb hby d2_68) hr
      · show Q2_3 Z dr el (3 : Int32) d1 d2 d3 h0 n0 _ s₁.heap _
        rw [e0]
        exact ⟨congrArg (fun z => some (Value.int z)) hres34, N0, rfl⟩
    · skip
      obtain ⟨fs, hr, hrun, hended, hW, hsame⟩ := X0.leave (v := some (Value.int (0 : Int32))) (fun h => by rw [Bd.returns] at h; cases h)
      have hres35 : (0 : Int32) = (own_insub [(0 : Int32), d1, d2, d3] el (3 : Int32)) := (own_leaf_2_3_26_s2f el d1 d2 d3 he he1 hc22_33)
      refine ⟨_, _, pre32 _ ?_, hrun, hended, _, _, rfl, ?_, ⟨_, rfl⟩, hW, hsame.mono (by decide) (by decide)⟩
      · skip
        show Steps p.tables e below (s₁.setTop (mkF m 22 #[.val (.ref dr), .val (.int (2 : Int32)), .val (.int (3 : Int32))] [(.int d2), (.int d3)])) _
        refine XS.icmpNo X0.here hx rfl (hb hby d2_22) rfl (flt hc22_33).2.2.1 ?_
        refine XS.iconst X0.here hx rfl (hb hby d2_25) ?_
        show Steps p.tables e below (s₁.setTop (mkF m 26 #[.val (.ref dr), .val (.int (2 : Int32)), .val (.int (3 : Int32))] [(.int (0 : Int32))])) _
        exact retN X0 hx (t := .boolean) Bd.returns (by simp) (hb hby d2_26) hr
      · show Q2_3 Z dr el (3 : Int32) d1 d2 d3 h0 n0 _ s₁.heap _
        rw [e0]
        exact ⟨congrArg (fun z => some (Value.int z)) hres35, N0, rfl⟩
  · subst hs2
    obtain ⟨fs, hr, hrun, hended, hW, hsame⟩ := X0.leave (v := some (Value.int (0 : Int32))) (fun h => by rw [Bd.returns] at h; cases h)
    have hres36 : (0 : Int32) = (own_insub [(0 : Int32), d1, d2, d3] el (3 : Int32)) := (own_leaf_2_3_6_s3 el d1 d2 d3 he he1)
    refine ⟨_, _, pre1 _ ?_, hrun, hended, _, _, rfl, ?_, ⟨_, rfl⟩, hW, hsame.mono (by decide) (by decide)⟩
    · skip
      show Steps p.tables e below (s₁.setTop (mkF m 0 #[.val (.ref dr), .val (.int (3 : Int32)), .val (.int (3 : Int32))] [])) _
      refine XS.iloadN X0.here hx rfl (hb hby d2_0) rfl ?_
      refine XS.iloadN X0.here hx rfl (hb hby d2_1) rfl ?_
      refine XS.icmpNo X0.here hx rfl (hb hby d2_2) rfl (flt (by decide)).2.2.1 ?_
      refine XS.iconst X0.here hx rfl (hb hby d2_5) ?_
      show Steps p.tables e below (s₁.setTop (mkF m 6 #[.val (.ref dr), .val (.int (3 : Int32)), .val (.int (3 : Int32))] [(.int (0 : Int32))])) _
      exact retN X0 hx (t := .boolean) Bd.returns (by simp) (hb hby d2_6) hr
    · show Q2_3 Z dr el (3 : Int32) d1 d2 d3 h0 n0 _ s₁.heap _
      rw [e0]
      exact ⟨congrArg (fun z => some (Value.int z)) hres36, N0, rfl⟩
theorem d29_0 : decode method_6_code 0 = .ok (.aload_n 0, 1) := by decide +kernel
theorem d29_1 : decode method_6_code 1 = .ok (.iload_n 1, 1) := by decide +kernel
theorem d29_2 : decode method_6_code 2 = .ok (.iaload, 1) := by decide +kernel
theorem d29_3 : decode method_6_code 3 = .ok (.ifCond .ne 5, 3) := by decide +kernel
theorem d29_6 : decode method_6_code 6 = .ok (.iconst (-1), 1) := by decide +kernel
theorem d29_7 : decode method_6_code 7 = .ok (.ireturn, 1) := by decide +kernel
theorem pn_29 : plainName "com/example/twigmeter/twigmeter/workload/ReachBelowPinLaw" = true := by first | (simp [plainName, overriddenIn]; done) | decide +kernel
theorem ef_29 (m : MethodId) (x0 : Addr) (x1 : Int32) : entryFrame m #[(.ref x0), (.int x1)] 2 = mkF m 0 #[.val (.ref x0), .val (.int x1)] [] := by first | (simp [entryFrame, mkF, argsToLocals, Value.category]; done) | rfl
theorem own_leaf_29_7 (d1 : Int32) (d2 : Int32) (d3 : Int32) : (-1 : Int32) = (own_par [(0 : Int32), d1, d2, d3] (0 : Int32)) := by simp [own_par, own_rd, ]
def Q29 (Z : State) (dr : Addr) (jj : Int32) (d1 : Int32) (d2 : Int32) (d3 : Int32) (h0 : Heap) (n0 : Nat) (v : Option Value) (h : Heap) (L : List Loc) : Prop := v = some (.int (own_par [(0 : Int32), d1, d2, d3] jj)) ∧ Fr n0 L ∧ h = h0
set_option maxRecDepth 65536 in
set_option maxHeartbeats 40000000 in
theorem rm29 (l : Launch) (Z : State) (a0 : Array Value) (hw : ∀ d ∈ tables_1, d.before a0 Z = true) (ws : List Jvm.Cond) (dr : Addr) (jj : Int32) (d1 : Int32) (d2 : Int32) (d3 : Int32) (h0 : Heap) (n0 : Nat) (Z0 : n0 ≤ h0.size) (I0 : own_ia Z h0 dr [(0 : Int32), d1, d2, d3]) (hlit_jj : jj = (0 : Int32)) :
    MetFree l (⟨"com/example/twigmeter/twigmeter/workload/ReachBelowPinLaw", "parentOf", "([II)I"⟩ : MethodName) (head1 (Jvm.Cond.code (⟨"com/example/twigmeter/twigmeter/workload/ReachBelowPinLaw", "parentOf", "([II)I"⟩ : MethodName) method_6_code 2 (some .int) :: ws) ({ frames := 0, cells := 0, slots := 0, locals := 0 } : Room)) (fun a U => a = #[(.ref dr), (.int jj)] ∧ Z.Warmed39 U.vm ∧ U.heap = h0) (fun _ _ _ _ _ => True) (fun _ U o U' => ∃ v L, o = .returned v ∧ Q29 Z dr jj d1 d2 d3 h0 n0 v U'.heap L ∧ FrameEnd U o U' L ({ frames := 0, cells := 0, slots := 0, locals := 0 } : Room).cells ({ frames := 0, cells := 0, slots := 0, locals := 0 } : Room).slots) := by
  refine MetFree.of_bodySF (plainFor_of_name pn_29) hisR ?_
  intro p e s m args below meth c s₁ Bd hml0 hP hK
  obtain ⟨rfl, hZ, hh⟩ := hP
  have hx := Bd.exec
  have hby := Bd.bytes
  have hml : c.maxLocals = 2 := hml0
  have hown : s.vm.findClass "com/example/twigmeter/twigmeter/workload/ReachBelowPinLaw" = some m.cls := findClass_of_methodNamed Bd.named
  have hnm := (name_of_methodNamed Bd.named Bd.method).1
  have X0 : Stand p l e ({ frames := 0, cells := 0, slots := 0, locals := 0 } : Room) s m #[(.ref dr), (.int jj)] below meth c s₁ [] 0 0 := Stand.of_body Bd
  have e0 : s₁.heap = h0 := by rw [← hh, Bd.state]; rfl
  have N0 := Fr.nil n0
  have K0 : Keep h0 h0 [] := Keep.refl h0 _
  have pre0 : ∀ tq, Steps p.tables e below (s₁.setTop (mkF m 0 #[.val (.ref dr), .val (.int jj)] [])) tq → Steps p.tables e below (s₁.setTop (entryFrame m #[(.ref dr), (.int jj)] 2)) tq := fun tq kq => castTop (ef_29 m dr jj) kq
  subst hlit_jj
  obtain ⟨cl1, Ar1, hin1, hat1⟩ := I0.get (j := (0 : Int32)) rfl
  obtain ⟨fs, hr, hrun, hended, hW, hsame⟩ := X0.leave (v := some (Value.int (-1 : Int32))) (fun h => by rw [Bd.returns] at h; cases h)
  have hres2 : (-1 : Int32) = (own_par [(0 : Int32), d1, d2, d3] (0 : Int32)) := (own_leaf_29_7 d1 d2 d3)
  refine ⟨_, _, pre0 _ ?_, hrun, hended, _, _, rfl, ?_, ⟨_, rfl⟩, hW, hsame.mono (by decide) (by decide)⟩
  · skip
    show Steps p.tables e below (s₁.setTop (mkF m 0 #[.val (.ref dr), .val (.int (0 : Int32))] [])) _
    refine XS.aloadN X0.here hx rfl (hb hby d29_0) rfl rfl ?_
    refine XS.iloadN X0.here hx rfl (hb hby d29_1) rfl ?_
    refine X0.iaload hx (j := (0 : Int32)) (v := (.int (0 : Int32))) (heq_of e0 Ar1.1) (State.isArrayOf_alike hZ.alike Ar1.2.1) Ar1.2.2 hin1 hat1 (g := (mkF m 2 #[.val (.ref dr), .val (.int (0 : Int32))] [(.int (0 : Int32)), (.ref dr)])) rfl rfl (hb hby d29_2) _ ?_
    show Steps p.tables e below (s₁.setTop (mkF m 3 #[.val (.ref dr), .val (.int (0 : Int32))] [(.int (0 : Int32))])) _
    refine XS.ifNo X0.here hx rfl (hb hby d29_3) rfl ((if0 _ _).trans (teq rfl).2) ?_
    refine XS.iconst X0.here hx rfl (hb hby d29_6) ?_
    show Steps p.tables e below (s₁.setTop (mkF m 7 #[.val (.ref dr), .val (.int (0 : Int32))] [(.int (-1 : Int32))])) _
    exact retI X0 hx Bd.returns (hb hby d29_7) hr
  · show Q29 Z dr (0 : Int32) d1 d2 d3 h0 n0 _ s₁.heap _
    rw [e0]
    exact ⟨congrArg (fun z => some (Value.int z)) hres2, N0, rfl⟩
theorem d29_8 : decode method_6_code 8 = .ok (.iload_n 1, 1) := by decide +kernel
theorem d29_9 : decode method_6_code 9 = .ok (.iconst 1, 1) := by decide +kernel
theorem d29_10 : decode method_6_code 10 = .ok (.if_icmp .lt 20, 3) := by decide +kernel
theorem d29_13 : decode method_6_code 13 = .ok (.aload_n 0, 1) := by decide +kernel
theorem d29_14 : decode method_6_code 14 = .ok (.iload_n 1, 1) := by decide +kernel
theorem d29_15 : decode method_6_code 15 = .ok (.iconst 1, 1) := by decide +kernel
theorem d29_16 : decode method_6_code 16 = .ok (.isub, 1) := by decide +kernel
theorem d29_17 : decode method_6_code 17 = .ok (.iaload, 1) := by decide +kernel
theorem d29_18 : decode method_6_code 18 = .ok (.aload_n 0, 1) := by decide +kernel
theorem d29_19 : decode method_6_code 19 = .ok (.iload_n 1, 1) := by decide +kernel
theorem d29_20 : decode method_6_code 20 = .ok (.iaload, 1) := by decide +kernel
theorem d29_21 : decode method_6_code 21 = .ok (.iconst 1, 1) := by decide +kernel
theorem d29_22 : decode method_6_code 22 = .ok (.isub, 1) := by decide +kernel
theorem d29_23 : decode method_6_code 23 = .ok (.if_icmp .ne 7, 3) := by decide +kernel
theorem d29_26 : decode method_6_code 26 = .ok (.iload_n 1, 1) := by decide +kernel
theorem d29_27 : decode method_6_code 27 = .ok (.iconst 1, 1) := by decide +kernel
theorem d29_28 : decode method_6_code 28 = .ok (.isub, 1) := by decide +kernel
theorem d29_29 : decode method_6_code 29 = .ok (.ireturn, 1) := by decide +kernel
theorem d29_30 : decode method_6_code 30 = .ok (.iload_n 1, 1) := by decide +kernel
theorem d29_31 : decode method_6_code 31 = .ok (.iconst 2, 1) := by decide +kernel
theorem d29_32 : decode method_6_code 32 = .ok (.if_icmp .lt 20, 3) := by decide +kernel
theorem d29_52 : decode method_6_code 52 = .ok (.iload_n 1, 1) := by decide +kernel
theorem d29_53 : decode method_6_code 53 = .ok (.iconst 3, 1) := by decide +kernel
theorem d29_54 : decode method_6_code 54 = .ok (.if_icmp .lt 20, 3) := by decide +kernel
theorem d29_74 : decode method_6_code 74 = .ok (.iconst (-1), 1) := by decide +kernel
theorem d29_75 : decode method_6_code 75 = .ok (.ireturn, 1) := by decide +kernel
theorem ef_29_1 (m : MethodId) (x0 : Addr) (x1 : Int32) : entryFrame m #[(.ref x0), (.int x1)] 2 = mkF m 0 #[.val (.ref x0), .val (.int x1)] [] := by first | (simp [entryFrame, mkF, argsToLocals, Value.category]; done) | rfl
theorem own_leaf_29_1_7_f (d1 : Int32) (d2 : Int32) (d3 : Int32) (hc3_3 : d1 = (0 : Int32)) : (-1 : Int32) = (own_par [(0 : Int32), d1, d2, d3] (1 : Int32)) := by simp [own_par, own_rd, hc3_3]
theorem own_leaf_29_1_29_tf (d1 : Int32) (d2 : Int32) (d3 : Int32) (hc3_3 : ¬ (d1 = (0 : Int32))) (hc23_8 : (0 : Int32) = (d1 - (1 : Int32))) : (0 : Int32) = (own_par [(0 : Int32), d1, d2, d3] (1 : Int32)) := by simp [own_par, own_rd, hc3_3, hc23_8.symm]
theorem own_leaf_29_1_75_tt (d1 : Int32) (d2 : Int32) (d3 : Int32) (hc3_3 : ¬ (d1 = (0 : Int32))) (hc23_8 : ¬ ((0 : Int32) = (d1 - (1 : Int32)))) : (-1 : Int32) = (own_par [(0 : Int32), d1, d2, d3] (1 : Int32)) := by simp [own_par, own_rd, hc3_3, hc23_8]
def Q29_1 (Z : State) (dr : Addr) (jj : Int32) (d1 : Int32) (d2 : Int32) (d3 : Int32) (h0 : Heap) (n0 : Nat) (v : Option Value) (h : Heap) (L : List Loc) : Prop := v = some (.int (own_par [(0 : Int32), d1, d2, d3] jj)) ∧ Fr n0 L ∧ h = h0
set_option maxRecDepth 65536 in
set_option maxHeartbeats 40000000 in
theorem rm29_1 (l : Launch) (Z : State) (a0 : Array Value) (hw : ∀ d ∈ tables_1, d.before a0 Z = true) (ws : List Jvm.Cond) (dr : Addr) (jj : Int32) (d1 : Int32) (d2 : Int32) (d3 : Int32) (h0 : Heap) (n0 : Nat) (Z0 : n0 ≤ h0.size) (I0 : own_ia Z h0 dr [(0 : Int32), d1, d2, d3]) (hlit_jj : jj = (1 : Int32)) :
    MetFree l (⟨"com/example/twigmeter/twigmeter/workload/ReachBelowPinLaw", "parentOf", "([II)I"⟩ : MethodName) (head1 (Jvm.Cond.code (⟨"com/example/twigmeter/twigmeter/workload/ReachBelowPinLaw", "parentOf", "([II)I"⟩ : MethodName) method_6_code 2 (some .int) :: ws) ({ frames := 0, cells := 0, slots := 0, locals := 0 } : Room)) (fun a U => a = #[(.ref dr), (.int jj)] ∧ Z.Warmed39 U.vm ∧ U.heap = h0) (fun _ _ _ _ _ => True) (fun _ U o U' => ∃ v L, o = .returned v ∧ Q29_1 Z dr jj d1 d2 d3 h0 n0 v U'.heap L ∧ FrameEnd U o U' L ({ frames := 0, cells := 0, slots := 0, locals := 0 } : Room).cells ({ frames := 0, cells := 0, slots := 0, locals := 0 } : Room).slots) := by
  refine MetFree.of_bodySF (plainFor_of_name pn_29) hisR ?_
  intro p e s m args below meth c s₁ Bd hml0 hP hK
  obtain ⟨rfl, hZ, hh⟩ := hP
  have hx := Bd.exec
  have hby := Bd.bytes
  have hml : c.maxLocals = 2 := hml0
  have hown : s.vm.findClass "com/example/twigmeter/twigmeter/workload/ReachBelowPinLaw" = some m.cls := findClass_of_methodNamed Bd.named
  have hnm := (name_of_methodNamed Bd.named Bd.method).1
  have X0 : Stand p l e ({ frames := 0, cells := 0, slots := 0, locals := 0 } : Room) s m #[(.ref dr), (.int jj)] below meth c s₁ [] 0 0 := Stand.of_body Bd
  have e0 : s₁.heap = h0 := by rw [← hh, Bd.state]; rfl
  have N0 := Fr.nil n0
  have K0 : Keep h0 h0 [] := Keep.refl h0 _
  have pre0 : ∀ tq, Steps p.tables e below (s₁.setTop (mkF m 0 #[.val (.ref dr), .val (.int jj)] [])) tq → Steps p.tables e below (s₁.setTop (entryFrame m #[(.ref dr), (.int jj)] 2)) tq := fun tq kq => castTop (ef_29_1 m dr jj) kq
  subst hlit_jj
  obtain ⟨cl1, Ar1, hin1, hat1⟩ := I0.get (j := (1 : Int32)) rfl
  have pre2 : ∀ tq, Steps p.tables e below (s₁.setTop (mkF m 3 #[.val (.ref dr), .val (.int (1 : Int32))] [(.int d1)])) tq → Steps p.tables e below (s₁.setTop (entryFrame m #[(.ref dr), (.int (1 : Int32))] 2)) tq := by
    intro tq kt
    refine pre0 _ ?_
    show Steps p.tables e below (s₁.setTop (mkF m 0 #[.val (.ref dr), .val (.int (1 : Int32))] [])) _
    refine XS.aloadN X0.here hx rfl (hb hby d29_0) rfl rfl ?_
    refine XS.iloadN X0.here hx rfl (hb hby d29_1) rfl ?_
    refine X0.iaload hx (j := (1 : Int32)) (v := (.int d1)) (heq_of e0 Ar1.1) (State.isArrayOf_alike hZ.alike Ar1.2.1) Ar1.2.2 hin1 hat1 (g := (mkF m 2 #[.val (.ref dr), .val (.int (1 : Int32))] [(.int (1 : Int32)), (.ref dr)])) rfl rfl (hb hby d29_2) _ ?_
    show Steps p.tables e below (s₁.setTop (mkF m 3 #[.val (.ref dr), .val (.int (1 : Int32))] [(.int d1)])) _
    exact kt
  by_cases hc3_3 : d1 = (0 : Int32)
  · skip
    obtain ⟨fs, hr, hrun, hended, hW, hsame⟩ := X0.leave (v := some (Value.int (-1 : Int32))) (fun h => by rw [Bd.returns] at h; cases h)
    have hres4 : (-1 : Int32) = (own_par [(0 : Int32), d1, d2, d3] (1 : Int32)) := (own_leaf_29_1_7_f d1 d2 d3 hc3_3)
    refine ⟨_, _, pre2 _ ?_, hrun, hended, _, _, rfl, ?_, ⟨_, rfl⟩, hW, hsame.mono (by decide) (by decide)⟩
    · skip
      show Steps p.tables e below (s₁.setTop (mkF m 3 #[.val (.ref dr), .val (.int (1 : Int32))] [(.int d1)])) _
      refine XS.ifNo X0.here hx rfl (hb hby d29_3) rfl ((if0 _ _).trans (teq hc3_3).2) ?_
      refine XS.iconst X0.here hx rfl (hb hby d29_6) ?_
      show Steps p.tables e below (s₁.setTop (mkF m 7 #[.val (.ref dr), .val (.int (1 : Int32))] [(.int (-1 : Int32))])) _
      exact retI X0 hx Bd.returns (hb hby d29_7) hr
    · show Q29_1 Z dr (1 : Int32) d1 d2 d3 h0 n0 _ s₁.heap _
      rw [e0]
      exact ⟨congrArg (fun z => some (Value.int z)) hres4, N0, rfl⟩
  · skip
    obtain ⟨cl5, Ar5, hin5, hat5⟩ := I0.get (j := (0 : Int32)) rfl
    obtain ⟨cl6, Ar6, hin6, hat6⟩ := I0.get (j := (1 : Int32)) rfl
    have pre7 : ∀ tq, Steps p.tables e below (s₁.setTop (mkF m 23 #[.val (.ref dr), .val (.int (1 : Int32))] [(.int (d1 - (1 : Int32))), (.int (0 : Int32))])) tq → Steps p.tables e below (s₁.setTop (entryFrame m #[(.ref dr), (.int (1 : Int32))] 2)) tq := by
      intro tq kt
      refine pre2 _ ?_
      show Steps p.tables e below (s₁.setTop (mkF m 3 #[.val (.ref dr), .val (.int (1 : Int32))] [(.int d1)])) _
      refine XS.ifYes X0.here hx rfl (pc0 := 3) (pc' := 8) rfl (hb hby d29_3) rfl ((if0 _ _).trans (feq hc3_3).2) (by decide) (by decide) ?_
      refine XS.iloadN X0.here hx rfl (hb hby d29_8) rfl ?_
      refine XS.iconst X0.here hx rfl (hb hby d29_9) ?_
      refine XS.icmpNo X0.here hx rfl (hb hby d29_10) rfl (flt (by decide)).1 ?_
      refine XS.aloadN X0.here hx rfl (hb hby d29_13) rfl rfl ?_
      refine XS.iloadN X0.here hx rfl (hb hby d29_14) rfl ?_
      show Steps p.tables e below (s₁.setTop (mkF m 15 #[.val (.ref dr), .val (.int (1 : Int32))] [(.int (1 : Int32)), (.ref dr)])) _
      refine XS.iconst X0.here hx rfl (hb hby d29_15) ?_
      refine XS.isub X0.here hx rfl (hb hby d29_16) rfl ?_
      refine X0.iaload hx (j := (0 : Int32)) (v := (.int (0 : Int32))) (heq_of e0 Ar5.1) (State.isArrayOf_alike hZ.alike Ar5.2.1) Ar5.2.2 hin5 hat5 (g := (mkF m 17 #[.val (.ref dr), .val (.int (1 : Int32))] [(.int (0 : Int32)), (.ref dr)])) rfl rfl (hb hby d29_17) _ ?_
      show Steps p.tables e below (s₁.setTop (mkF m 18 #[.val (.ref dr), .val (.int (1 : Int32))] [(.int (0 : Int32))])) _
      refine XS.aloadN X0.here hx rfl (hb hby d29_18) rfl rfl ?_
      refine XS.iloadN X0.here hx rfl (hb hby d29_19) rfl ?_
      refine X0.iaload hx (j := (1 : Int32)) (v := (.int d1)) (heq_of e0 Ar6.1) (State.isArrayOf_alike hZ.alike Ar6.2.1) Ar6.2.2 hin6 hat6 (g := (mkF m 20 #[.val (.ref dr), .val (.int (1 : Int32))] [(.int (1 : Int32)), (.ref dr), (.int (0 : Int32))])) rfl rfl (hb hby d29_20) _ ?_
      show Steps p.tables e below (s₁.setTop (mkF m 21 #[.val (.ref dr), .val (.int (1 : Int32))] [(.int d1), (.int (0 : Int32))])) _
      refine XS.iconst X0.here hx rfl (hb hby d29_21) ?_
      refine XS.isub X0.here hx rfl (hb hby d29_22) rfl ?_
      show Steps p.tables e below (s₁.setTop (mkF m 23 #[.val (.ref dr), .val (.int (1 : Int32))] [(.int (d1 - (1 : Int32))), (.int (0 : Int32))])) _
      exact kt
    by_cases hc23_8 : (0 : Int32) = (d1 - (1 : Int32))
    · skip
      obtain ⟨fs, hr, hrun, hended, hW, hsame⟩ := X0.leave (v := some (Value.int (0 : Int32))) (fun h => by rw [Bd.returns] at h; cases h)
      have hres9 : (0 : Int32) = (own_par [(0 : Int32), d1, d2, d3] (1 : Int32)) := (own_leaf_29_1_29_tf d1 d2 d3 hc3_3 hc23_8)
      refine ⟨_, _, pre7 _ ?_, hrun, hended, _, _, rfl, ?_, ⟨_, rfl⟩, hW, hsame.mono (by decide) (by decide)⟩
      · skip
        show Steps p.tables e below (s₁.setTop (mkF m 23 #[.val (.ref dr), .val (.int (1 : Int32))] [(.int (d1 - (1 : Int32))), (.int (0 : Int32))])) _
        refine XS.icmpNo X0.here hx rfl (hb hby d29_23) rfl (teq hc23_8).2 ?_
        refine XS.iloadN X0.here hx rfl (hb hby d29_26) rfl ?_
        refine XS.iconst X0.here hx rfl (hb hby d29_27) ?_
        refine XS.isub X0.here hx rfl (hb hby d29_28) rfl ?_
        show Steps p.tables e below (s₁.setTop (mkF m 29 #[.val (.ref dr), .val (.int (1 : Int32))] [(.int (0 : Int32))])) _
        exact retI X0 hx Bd.returns (hb hby d29_29) hr
      · show Q29_1 Z dr (1 : Int32) d1 d2 d3 h0 n0 _ s₁.heap _
        rw [e0]
        exact ⟨congrArg (fun z => some (Value.int z)) hres9, N0, rfl⟩
    · skip
      obtain ⟨fs, hr, hrun, hended, hW, hsame⟩ := X0.leave (v := some (Value.int (-1 : Int32))) (fun h => by rw [Bd.returns] at h; cases h)
      have hres10 : (-1 : Int32) = (own_par [(0 : Int32), d1, d2, d3] (1 : Int32)) := (own_leaf_29_1_75_tt d1 d2 d3 hc3_3 hc23_8)
      refine ⟨_, _, pre7 _ ?_, hrun, hended, _, _, rfl, ?_, ⟨_, rfl⟩, hW, hsame.mono (by decide) (by decide)⟩
      · skip
        show Steps p.tables e below (s₁.setTop (mkF m 23 #[.val (.ref dr), .val (.int (1 : Int32))] [(.int (d1 - (1 : Int32))), (.int (0 : Int32))])) _
        refine XS.icmpYes X0.here hx rfl (pc0 := 23) (pc' := 30) rfl (hb hby d29_23) rfl (feq hc23_8).2 (by decide) (by decide) ?_
        refine XS.iloadN X0.here hx rfl (hb hby d29_30) rfl ?_
        refine XS.iconst X0.here hx rfl (hb hby d29_31) ?_
        refine XS.icmpYes X0.here hx rfl (pc0 := 32) (pc' := 52) rfl (hb hby d29_32) rfl (tlt (by decide)).1 (by decide) (by decide) ?_
        refine XS.iloadN X0.here hx rfl (hb hby d29_52) rfl ?_
        refine XS.iconst X0.here hx rfl (hb hby d29_53) ?_
        show Steps p.tables e below (s₁.setTop (mkF m 54 #[.val (.ref dr), .val (.int (1 : Int32))] [(.int (3 : Int32)), (.int (1 : Int32))])) _
        refine XS.icmpYes X0.here hx rfl (pc0 := 54) (pc' := 74) rfl (hb hby d29_54) rfl (tlt (by decide)).1 (by decide) (by decide) ?_
        refine XS.iconst X0.here hx rfl (hb hby d29_74) ?_
        show Steps p.tables e below (s₁.setTop (mkF m 75 #[.val (.ref dr), .val (.int (1 : Int32))] [(.int (-1 : Int32))])) _
        exact retI X0 hx Bd.returns (hb hby d29_75) hr
      · show Q29_1 Z dr (1 : Int32) d1 d2 d3 h0 n0 _ s₁.heap _
        rw [e0]
        exact ⟨congrArg (fun z => some (Value.int z)) hres10, N0, rfl⟩
theorem d29_35 : decode method_6_code 35 = .ok (.aload_n 0, 1) := by decide +kernel
theorem d29_36 : decode method_6_code 36 = .ok (.iload_n 1, 1) := by decide +kernel
theorem d29_37 : decode method_6_code 37 = .ok (.iconst 2, 1) := by decide +kernel
theorem d29_38 : decode method_6_code 38 = .ok (.isub, 1) := by decide +kernel
theorem d29_39 : decode method_6_code 39 = .ok (.iaload, 1) := by decide +kernel
theorem d29_40 : decode method_6_code 40 = .ok (.aload_n 0, 1) := by decide +kernel
theorem d29_41 : decode method_6_code 41 = .ok (.iload_n 1, 1) := by decide +kernel
theorem d29_42 : decode method_6_code 42 = .ok (.iaload, 1) := by decide +kernel
theorem d29_43 : decode method_6_code 43 = .ok (.iconst 1, 1) := by decide +kernel
theorem d29_44 : decode method_6_code 44 = .ok (.isub, 1) := by decide +kernel
theorem d29_45 : decode method_6_code 45 = .ok (.if_icmp .ne 7, 3) := by decide +kernel
theorem d29_48 : decode method_6_code 48 = .ok (.iload_n 1, 1) := by decide +kernel
theorem d29_49 : decode method_6_code 49 = .ok (.iconst 2, 1) := by decide +kernel
theorem d29_50 : decode method_6_code 50 = .ok (.isub, 1) := by decide +kernel
theorem d29_51 : decode method_6_code 51 = .ok (.ireturn, 1) := by decide +kernel
theorem ef_29_2 (m : MethodId) (x0 : Addr) (x1 : Int32) : entryFrame m #[(.ref x0), (.int x1)] 2 = mkF m 0 #[.val (.ref x0), .val (.int x1)] [] := by first | (simp [entryFrame, mkF, argsToLocals, Value.category]; done) | rfl
theorem own_leaf_29_2_7_f (d1 : Int32) (d2 : Int32) (d3 : Int32) (hc3_3 : d2 = (0 : Int32)) : (-1 : Int32) = (own_par [(0 : Int32), d1, d2, d3] (2 : Int32)) := by simp [own_par, own_rd, hc3_3]
theorem own_leaf_29_2_29_tf (d1 : Int32) (d2 : Int32) (d3 : Int32) (hc3_3 : ¬ (d2 = (0 : Int32))) (hc23_8 : d1 = (d2 - (1 : Int32))) : (1 : Int32) = (own_par [(0 : Int32), d1, d2, d3] (2 : Int32)) := by simp [own_par, own_rd, hc3_3, hc23_8]
theorem own_leaf_29_2_51_ttf (d1 : Int32) (d2 : Int32) (d3 : Int32) (hc3_3 : ¬ (d2 = (0 : Int32))) (hc23_8 : ¬ (d1 = (d2 - (1 : Int32)))) (hc45_13 : (0 : Int32) = (d2 - (1 : Int32))) : (0 : Int32) = (own_par [(0 : Int32), d1, d2, d3] (2 : Int32)) := by have n_hc23_8 : ¬ (d1 = (0 : Int32)) := fun q => hc23_8 (q.trans hc45_13); simp [own_par, own_rd, hc3_3, n_hc23_8, hc45_13.symm]
theorem own_leaf_29_2_75_ttt (d1 : Int32) (d2 : Int32) (d3 : Int32) (hc3_3 : ¬ (d2 = (0 : Int32))) (hc23_8 : ¬ (d1 = (d2 - (1 : Int32)))) (hc45_13 : ¬ ((0 : Int32) = (d2 - (1 : Int32)))) : (-1 : Int32) = (own_par [(0 : Int32), d1, d2, d3] (2 : Int32)) := by simp [own_par, own_rd, hc3_3, hc23_8, hc45_13]
def Q29_2 (Z : State) (dr : Addr) (jj : Int32) (d1 : Int32) (d2 : Int32) (d3 : Int32) (h0 : Heap) (n0 : Nat) (v : Option Value) (h : Heap) (L : List Loc) : Prop := v = some (.int (own_par [(0 : Int32), d1, d2, d3] jj)) ∧ Fr n0 L ∧ h = h0
set_option maxRecDepth 65536 in
set_option maxHeartbeats 40000000 in
theorem rm29_2 (l : Launch) (Z : State) (a0 : Array Value) (hw : ∀ d ∈ tables_1, d.before a0 Z = true) (ws : List Jvm.Cond) (dr : Addr) (jj : Int32) (d1 : Int32) (d2 : Int32) (d3 : Int32) (h0 : Heap) (n0 : Nat) (Z0 : n0 ≤ h0.size) (I0 : own_ia Z h0 dr [(0 : Int32), d1, d2, d3]) (hlit_jj : jj = (2 : Int32)) :
    MetFree l (⟨"com/example/twigmeter/twigmeter/workload/ReachBelowPinLaw", "parentOf", "([II)I"⟩ : MethodName) (head1 (Jvm.Cond.code (⟨"com/example/twigmeter/twigmeter/workload/ReachBelowPinLaw", "parentOf", "([II)I"⟩ : MethodName) method_6_code 2 (some .int) :: ws) ({ frames := 0, cells := 0, slots := 0, locals := 0 } : Room)) (fun a U => a = #[(.ref dr), (.int jj)] ∧ Z.Warmed39 U.vm ∧ U.heap = h0) (fun _ _ _ _ _ => True) (fun _ U o U' => ∃ v L, o = .returned v ∧ Q29_2 Z dr jj d1 d2 d3 h0 n0 v U'.heap L ∧ FrameEnd U o U' L ({ frames := 0, cells := 0, slots := 0, locals := 0 } : Room).cells ({ frames := 0, cells := 0, slots := 0, locals := 0 } : Room).slots) := by
  refine MetFree.of_bodySF (plainFor_of_name pn_29) hisR ?_
  intro p e s m args below meth c s₁ Bd hml0 hP hK
  obtain ⟨rfl, hZ, hh⟩ := hP
  have hx := Bd.exec
  have hby := Bd.bytes
  have hml : c.maxLocals = 2 := hml0
  have hown : s.vm.findClass "com/example/twigmeter/twigmeter/workload/ReachBelowPinLaw" = some m.cls := findClass_of_methodNamed Bd.named
  have hnm := (name_of_methodNamed Bd.named Bd.method).1
  have X0 : Stand p l e ({ frames := 0, cells := 0, slots := 0, locals := 0 } : Room) s m #[(.ref dr), (.int jj)] below meth c s₁ [] 0 0 := Stand.of_body Bd
  have e0 : s₁.heap = h0 := by rw [← hh, Bd.state]; rfl
  have N0 := Fr.nil n0
  have K0 : Keep h0 h0 [] := Keep.refl h0 _
  have pre0 : ∀ tq, Steps p.tables e below (s₁.setTop (mkF m 0 #[.val (.ref dr), .val (.int jj)] [])) tq → Steps p.tables e below (s₁.setTop (entryFrame m #[(.ref dr), (.int jj)] 2)) tq := fun tq kq => castTop (ef_29_2 m dr jj) kq
  subst hlit_jj
  obtain ⟨cl1, Ar1, hin1, hat1⟩ := I0.get (j := (2 : Int32)) rfl
  have pre2 : ∀ tq, Steps p.tables e below (s₁.setTop (mkF m 3 #[.val (.ref dr), .val (.int (2 : Int32))] [(.int d2)])) tq → Steps p.tables e below (s₁.setTop (entryFrame m #[(.ref dr), (.int (2 : Int32))] 2)) tq := by
    intro tq kt
    refine pre0 _ ?_
    show Steps p.tables e below (s₁.setTop (mkF m 0 #[.val (.ref dr), .val (.int (2 : Int32))] [])) _
    refine XS.aloadN X0.here hx rfl (hb hby d29_0) rfl rfl ?_
    refine XS.iloadN X0.here hx rfl (hb hby d29_1) rfl ?_
    refine X0.iaload hx (j := (2 : Int32)) (v := (.int d2)) (heq_of e0 Ar1.1) (State.isArrayOf_alike hZ.alike Ar1.2.1) Ar1.2.2 hin1 hat1 (g := (mkF m 2 #[.val (.ref dr), .val (.int (2 : Int32))] [(.int (2 : Int32)), (.ref dr)])) rfl rfl (hb hby d29_2) _ ?_
    show Steps p.tables e below (s₁.setTop (mkF m 3 #[.val (.ref dr), .val (.int (2 : Int32))] [(.int d2)])) _
    exact kt
  by_cases hc3_3 : d2 = (0 : Int32)
  · skip
    obtain ⟨fs, hr, hrun, hended, hW, hsame⟩ := X0.leave (v := some (Value.int (-1 : Int32))) (fun h => by rw [Bd.returns] at h; cases h)
    have hres4 : (-1 : Int32) = (own_par [(0 : Int32), d1, d2, d3] (2 : Int32)) := (own_leaf_29_2_7_f d1 d2 d3 hc3_3)
    refine ⟨_, _, pre2 _ ?_, hrun, hended, _, _, rfl, ?_, ⟨_, rfl⟩, hW, hsame.mono (by decide) (by decide)⟩
    · skip
      show Steps p.tables e below (s₁.setTop (mkF m 3 #[.val (.ref dr), .val (.int (2 : Int32))] [(.int d2)])) _
      refine XS.ifNo X0.here hx rfl (hb hby d29_3) rfl ((if0 _ _).trans (teq hc3_3).2) ?_
      refine XS.iconst X0.here hx rfl (hb hby d29_6) ?_
      show Steps p.tables e below (s₁.setTop (mkF m 7 #[.val (.ref dr), .val (.int (2 : Int32))] [(.int (-1 : Int32))])) _
      exact retI X0 hx Bd.returns (hb hby d29_7) hr
    · show Q29_2 Z dr (2 : Int32) d1 d2 d3 h0 n0 _ s₁.heap _
      rw [e0]
      exact ⟨congrArg (fun z => some (Value.int z)) hres4, N0, rfl⟩
  · skip
    obtain ⟨cl5, Ar5, hin5, hat5⟩ := I0.get (j := (1 : Int32)) rfl
    obtain ⟨cl6, Ar6, hin6, hat6⟩ := I0.get (j := (2 : Int32)) rfl
    have pre7 : ∀ tq, Steps p.tables e below (s₁.setTop (mkF m 23 #[.val (.ref dr), .val (.int (2 : Int32))] [(.int (d2 - (1 : Int32))), (.int d1)])) tq → Steps p.tables e below (s₁.setTop (entryFrame m #[(.ref dr), (.int (2 : Int32))] 2)) tq := by
      intro tq kt
      refine pre2 _ ?_
      show Steps p.tables e below (s₁.setTop (mkF m 3 #[.val (.ref dr), .val (.int (2 : Int32))] [(.int d2)])) _
      refine XS.ifYes X0.here hx rfl (pc0 := 3) (pc' := 8) rfl (hb hby d29_3) rfl ((if0 _ _).trans (feq hc3_3).2) (by decide) (by decide) ?_
      refine XS.iloadN X0.here hx rfl (hb hby d29_8) rfl ?_
      refine XS.iconst X0.here hx rfl (hb hby d29_9) ?_
      refine XS.icmpNo X0.here hx rfl (hb hby d29_10) rfl (flt (by decide)).1 ?_
      refine XS.aloadN X0.here hx rfl (hb hby d29_13) rfl rfl ?_
      refine XS.iloadN X0.here hx rfl (hb hby d29_14) rfl ?_
      show Steps p.tables e below (s₁.setTop (mkF m 15 #[.val (.ref dr), .val (.int (2 : Int32))] [(.int (2 : Int32)), (.ref dr)])) _
      refine XS.iconst X0.here hx rfl (hb hby d29_15) ?_
      refine XS.isub X0.here hx rfl (hb hby d29_16) rfl ?_
      refine X0.iaload hx (j := (1 : Int32)) (v := (.int d1)) (heq_of e0 Ar5.1) (State.isArrayOf_alike hZ.alike Ar5.2.1) Ar5.2.2 hin5 hat5 (g := (mkF m 17 #[.val (.ref dr), .val (.int (2 : Int32))] [(.int (1 : Int32)), (.ref dr)])) rfl rfl (hb hby d29_17) _ ?_
      show Steps p.tables e below (s₁.setTop (mkF m 18 #[.val (.ref dr), .val (.int (2 : Int32))] [(.int d1)])) _
      refine XS.aloadN X0.here hx rfl (hb hby d29_18) rfl rfl ?_
      refine XS.iloadN X0.here hx rfl (hb hby d29_19) rfl ?_
      refine X0.iaload hx (j := (2 : Int32)) (v := (.int d2)) (heq_of e0 Ar6.1) (State.isArrayOf_alike hZ.alike Ar6.2.1) Ar6.2.2 hin6 hat6 (g := (mkF m 20 #[.val (.ref dr), .val (.int (2 : Int32))] [(.int (2 : Int32)), (.ref dr), (.int d1)])) rfl rfl (hb hby d29_20) _ ?_
      show Steps p.tables e below (s₁.setTop (mkF m 21 #[.val (.ref dr), .val (.int (2 : Int32))] [(.int d2), (.int d1)])) _
      refine XS.iconst X0.here hx rfl (hb hby d29_21) ?_
      refine XS.isub X0.here hx rfl (hb hby d29_22) rfl ?_
      show Steps p.tables e below (s₁.setTop (mkF m 23 #[.val (.ref dr), .val (.int (2 : Int32))] [(.int (d2 - (1 : Int32))), (.int d1)])) _
      exact kt
    by_cases hc23_8 : d1 = (d2 - (1 : Int32))
    · skip
      obtain ⟨fs, hr, hrun, hended, hW, hsame⟩ := X0.leave (v := some (Value.int (1 : Int32))) (fun h => by rw [Bd.returns] at h; cases h)
      have hres9 : (1 : Int32) = (own_par [(0 : Int32), d1, d2, d3] (2 : Int32)) := (own_leaf_29_2_29_tf d1 d2 d3 hc3_3 hc23_8)
      refine ⟨_, _, pre7 _ ?_, hrun, hended, _, _, rfl, ?_, ⟨_, rfl⟩, hW, hsame.mono (by decide) (by decide)⟩
      · skip
        show Steps p.tables e below (s₁.setTop (mkF m 23 #[.val (.ref dr), .val (.int (2 : Int32))] [(.int (d2 - (1 : Int32))), (.int d1)])) _
        refine XS.icmpNo X0.here hx rfl (hb hby d29_23) rfl (teq hc23_8).2 ?_
        refine XS.iloadN X0.here hx rfl (hb hby d29_26) rfl ?_
        refine XS.iconst X0.here hx rfl (hb hby d29_27) ?_
        refine XS.isub X0.here hx rfl (hb hby d29_28) rfl ?_
        show Steps p.tables e below (s₁.setTop (mkF m 29 #[.val (.ref dr), .val (.int (2 : Int32))] [(.int (1 : Int32))])) _
        exact retI X0 hx Bd.returns (hb hby d29_29) hr
      · show Q29_2 Z dr (2 : Int32) d1 d2 d3 h0 n0 _ s₁.heap _
        rw [e0]
        exact ⟨congrArg (fun z => some (Value.int z)) hres9, N0, rfl⟩
    · skip
      obtain ⟨cl10, Ar10, hin10, hat10⟩ := I0.get (j := (0 : Int32)) rfl
      obtain ⟨cl11, Ar11, hin11, hat11⟩ := I0.get (j := (2 : Int32)) rfl
      have pre12 : ∀ tq, Steps p.tables e below (s₁.setTop (mkF m 45 #[.val (.ref dr), .val (.int (2 : Int32))] [(.int (d2 - (1 : Int32))), (.int (0 : Int32))])) tq → Steps p.tables e below (s₁.setTop (entryFrame m #[(.ref dr), (.int (2 : Int32))] 2)) tq := by
        intro tq kt
        refine pre7 _ ?_
        show Steps p.tables e below (s₁.setTop (mkF m 23 #[.val (.ref dr), .val (.int (2 : Int32))] [(.int (d2 - (1 : Int32))), (.int d1)])) _
        refine XS.icmpYes X0.here hx rfl (pc0 := 23) (pc' := 30) rfl (hb hby d29_23) rfl (feq hc23_8).2 (by decide) (by decide) ?_
        refine XS.iloadN X0.here hx rfl (hb hby d29_30) rfl ?_
        refine XS.iconst X0.here hx rfl (hb hby d29_31) ?_
        refine XS.icmpNo X0.here hx rfl (hb hby d29_32) rfl (flt (by decide)).1 ?_
        refine XS.aloadN X0.here hx rfl (hb hby d29_35) rfl rfl ?_
        refine XS.iloadN X0.here hx rfl (hb hby d29_36) rfl ?_
        show Steps p.tables e below (s₁.setTop (mkF m 37 #[.val (.ref dr), .val (.int (2 : Int32))] [(.int (2 : Int32)), (.ref dr)])) _
        refine XS.iconst X0.here hx rfl (hb hby d29_37) ?_
        refine XS.isub X0.here hx rfl (hb hby d29_38) rfl ?_
        refine X0.iaload hx (j := (0 : Int32)) (v := (.int (0 : Int32))) (heq_of e0 Ar10.1) (State.isArrayOf_alike hZ.alike Ar10.2.1) Ar10.2.2 hin10 hat10 (g := (mkF m 39 #[.val (.ref dr), .val (.int (2 : Int32))] [(.int (0 : Int32)), (.ref dr)])) rfl rfl (hb hby d29_39) _ ?_
        show Steps p.tables e below (s₁.setTop (mkF m 40 #[.val (.ref dr), .val (.int (2 : Int32))] [(.int (0 : Int32))])) _
        refine XS.aloadN X0.here hx rfl (hb hby d29_40) rfl rfl ?_
        refine XS.iloadN X0.here hx rfl (hb hby d29_41) rfl ?_
        refine X0.iaload hx (j := (2 : Int32)) (v := (.int d2)) (heq_of e0 Ar11.1) (State.isArrayOf_alike hZ.alike Ar11.2.1) Ar11.2.2 hin11 hat11 (g := (mkF m 42 #[.val (.ref dr), .val (.int (2 : Int32))] [(.int (2 : Int32)), (.ref dr), (.int (0 : Int32))])) rfl rfl (hb hby d29_42) _ ?_
        show Steps p.tables e below (s₁.setTop (mkF m 43 #[.val (.ref dr), .val (.int (2 : Int32))] [(.int d2), (.int (0 : Int32))])) _
        refine XS.iconst X0.here hx rfl (hb hby d29_43) ?_
        refine XS.isub X0.here hx rfl (hb hby d29_44) rfl ?_
        show Steps p.tables e below (s₁.setTop (mkF m 45 #[.val (.ref dr), .val (.int (2 : Int32))] [(.int (d2 - (1 : Int32))), (.int (0 : Int32))])) _
        exact kt
      by_cases hc45_13 : (0 : Int32) = (d2 - (1 : Int32))
      · skip
        obtain ⟨fs, hr, hrun, hended, hW, hsame⟩ := X0.leave (v := some (Value.int (0 : Int32))) (fun h => by rw [Bd.returns] at h; cases h)
        have hres14 : (0 : Int32) = (own_par [(0 : Int32), d1, d2, d3] (2 : Int32)) := (own_leaf_29_2_51_ttf d1 d2 d3 hc3_3 hc23_8 hc45_13)
        refine ⟨_, _, pre12 _ ?_, hrun, hended, _, _, rfl, ?_, ⟨_, rfl⟩, hW, hsame.mono (by decide) (by decide)⟩
        · skip
          show Steps p.tables e below (s₁.setTop (mkF m 45 #[.val (.ref dr), .val (.int (2 : Int32))] [(.int (d2 - (1 : Int32))), (.int (0 : Int32))])) _
          refine XS.icmpNo X0.here hx rfl (hb hby d29_45) rfl (teq hc45_13).2 ?_
          refine XS.iloadN X0.here hx rfl (hb hby d29_48) rfl ?_
          refine XS.iconst X0.here hx rfl (hb hby d29_49) ?_
          refine XS.isub X0.here hx rfl (hb hby d29_50) rfl ?_
          show Steps p.tables e below (s₁.setTop (mkF m 51 #[.val (.ref dr), .val (.int (2 : Int32))] [(.int (0 : Int32))])) _
          exact retI X0 hx Bd.returns (hb hby d29_51) hr
        · show Q29_2 Z dr (2 : Int32) d1 d2 d3 h0 n0 _ s₁.heap _
          rw [e0]
          exact ⟨congrArg (fun z => some (Value.int z)) hres14, N0, rfl⟩
      · skip
        obtain ⟨fs, hr, hrun, hended, hW, hsame⟩ := X0.leave (v := some (Value.int (-1 : Int32))) (fun h => by rw [Bd.returns] at h; cases h)
        have hres15 : (-1 : Int32) = (own_par [(0 : Int32), d1, d2, d3] (2 : Int32)) := (own_leaf_29_2_75_ttt d1 d2 d3 hc3_3 hc23_8 hc45_13)
        refine ⟨_, _, pre12 _ ?_, hrun, hended, _, _, rfl, ?_, ⟨_, rfl⟩, hW, hsame.mono (by decide) (by decide)⟩
        · skip
          show Steps p.tables e below (s₁.setTop (mkF m 45 #[.val (.ref dr), .val (.int (2 : Int32))] [(.int (d2 - (1 : Int32))), (.int (0 : Int32))])) _
          refine XS.icmpYes X0.here hx rfl (pc0 := 45) (pc' := 52) rfl (hb hby d29_45) rfl (feq hc45_13).2 (by decide) (by decide) ?_
          refine XS.iloadN X0.here hx rfl (hb hby d29_52) rfl ?_
          refine XS.iconst X0.here hx rfl (hb hby d29_53) ?_
          refine XS.icmpYes X0.here hx rfl (pc0 := 54) (pc' := 74) rfl (hb hby d29_54) rfl (tlt (by decide)).1 (by decide) (by decide) ?_
          refine XS.iconst X0.here hx rfl (hb hby d29_74) ?_
          show Steps p.tables e below (s₁.setTop (mkF m 75 #[.val (.ref dr), .val (.int (2 : Int32))] [(.int (-1 : Int32))])) _
          exact retI X0 hx Bd.returns (hb hby d29_75) hr
        · show Q29_2 Z dr (2 : Int32) d1 d2 d3 h0 n0 _ s₁.heap _
          rw [e0]
          exact ⟨congrArg (fun z => some (Value.int z)) hres15, N0, rfl⟩
theorem d29_57 : decode method_6_code 57 = .ok (.aload_n 0, 1) := by decide +kernel
theorem d29_58 : decode method_6_code 58 = .ok (.iload_n 1, 1) := by decide +kernel
theorem d29_59 : decode method_6_code 59 = .ok (.iconst 3, 1) := by decide +kernel
theorem d29_60 : decode method_6_code 60 = .ok (.isub, 1) := by decide +kernel
theorem d29_61 : decode method_6_code 61 = .ok (.iaload, 1) := by decide +kernel
theorem d29_62 : decode method_6_code 62 = .ok (.aload_n 0, 1) := by decide +kernel
theorem d29_63 : decode method_6_code 63 = .ok (.iload_n 1, 1) := by decide +kernel
theorem d29_64 : decode method_6_code 64 = .ok (.iaload, 1) := by decide +kernel
theorem d29_65 : decode method_6_code 65 = .ok (.iconst 1, 1) := by decide +kernel
theorem d29_66 : decode method_6_code 66 = .ok (.isub, 1) := by decide +kernel
theorem d29_67 : decode method_6_code 67 = .ok (.if_icmp .ne 7, 3) := by decide +kernel
theorem d29_70 : decode method_6_code 70 = .ok (.iload_n 1, 1) := by decide +kernel
theorem d29_71 : decode method_6_code 71 = .ok (.iconst 3, 1) := by decide +kernel
theorem d29_72 : decode method_6_code 72 = .ok (.isub, 1) := by decide +kernel
theorem d29_73 : decode method_6_code 73 = .ok (.ireturn, 1) := by decide +kernel
theorem ef_29_3 (m : MethodId) (x0 : Addr) (x1 : Int32) : entryFrame m #[(.ref x0), (.int x1)] 2 = mkF m 0 #[.val (.ref x0), .val (.int x1)] [] := by first | (simp [entryFrame, mkF, argsToLocals, Value.category]; done) | rfl
theorem own_leaf_29_3_7_f (d1 : Int32) (d2 : Int32) (d3 : Int32) (hc3_3 : d3 = (0 : Int32)) : (-1 : Int32) = (own_par [(0 : Int32), d1, d2, d3] (3 : Int32)) := by simp [own_par, own_rd, hc3_3]
theorem own_leaf_29_3_29_tf (d1 : Int32) (d2 : Int32) (d3 : Int32) (hc3_3 : ¬ (d3 = (0 : Int32))) (hc23_8 : d2 = (d3 - (1 : Int32))) : (2 : Int32) = (own_par [(0 : Int32), d1, d2, d3] (3 : Int32)) := by simp [own_par, own_rd, hc3_3, hc23_8]
theorem own_leaf_29_3_51_ttf (d1 : Int32) (d2 : Int32) (d3 : Int32) (hc3_3 : ¬ (d3 = (0 : Int32))) (hc23_8 : ¬ (d2 = (d3 - (1 : Int32)))) (hc45_13 : d1 = (d3 - (1 : Int32))) : (1 : Int32) = (own_par [(0 : Int32), d1, d2, d3] (3 : Int32)) := by simp [own_par, own_rd, hc3_3, hc23_8, hc45_13]
theorem own_leaf_29_3_73_tttf (d1 : Int32) (d2 : Int32) (d3 : Int32) (hc3_3 : ¬ (d3 = (0 : Int32))) (hc23_8 : ¬ (d2 = (d3 - (1 : Int32)))) (hc45_13 : ¬ (d1 = (d3 - (1 : Int32)))) (hc67_18 : (0 : Int32) = (d3 - (1 : Int32))) : (0 : Int32) = (own_par [(0 : Int32), d1, d2, d3] (3 : Int32)) := by have n_hc23_8 : ¬ (d2 = (0 : Int32)) := fun q => hc23_8 (q.trans hc67_18); have n_hc45_13 : ¬ (d1 = (0 : Int32)) := fun q => hc45_13 (q.trans hc67_18); simp [own_par, own_rd, hc3_3, n_hc23_8, n_hc45_13, hc67_18.symm]
theorem own_leaf_29_3_75_tttt (d1 : Int32) (d2 : Int32) (d3 : Int32) (hc3_3 : ¬ (d3 = (0 : Int32))) (hc23_8 : ¬ (d2 = (d3 - (1 : Int32)))) (hc45_13 : ¬ (d1 = (d3 - (1 : Int32)))) (hc67_18 : ¬ ((0 : Int32) = (d3 - (1 : Int32)))) : (-1 : Int32) = (own_par [(0 : Int32), d1, d2, d3] (3 : Int32)) := by simp [own_par, own_rd, hc3_3, hc23_8, hc45_13, hc67_18]
def Q29_3 (Z : State) (dr : Addr) (jj : Int32) (d1 : Int32) (d2 : Int32) (d3 : Int32) (h0 : Heap) (n0 : Nat) (v : Option Value) (h : Heap) (L : List Loc) : Prop := v = some (.int (own_par [(0 : Int32), d1, d2, d3] jj)) ∧ Fr n0 L ∧ h = h0
set_option maxRecDepth 65536 in
set_option maxHeartbeats 40000000 in
theorem rm29_3 (l : Launch) (Z : State) (a0 : Array Value) (hw : ∀ d ∈ tables_1, d.before a0 Z = true) (ws : List Jvm.Cond) (dr : Addr) (jj : Int32) (d1 : Int32) (d2 : Int32) (d3 : Int32) (h0 : Heap) (n0 : Nat) (Z0 : n0 ≤ h0.size) (I0 : own_ia Z h0 dr [(0 : Int32), d1, d2, d3]) (hlit_jj : jj = (3 : Int32)) :
    MetFree l (⟨"com/example/twigmeter/twigmeter/workload/ReachBelowPinLaw", "parentOf", "([II)I"⟩ : MethodName) (head1 (Jvm.Cond.code (⟨"com/example/twigmeter/twigmeter/workload/ReachBelowPinLaw", "parentOf", "([II)I"⟩ : MethodName) method_6_code 2 (some .int) :: ws) ({ frames := 0, cells := 0, slots := 0, locals := 0 } : Room)) (fun a U => a = #[(.ref dr), (.int jj)] ∧ Z.Warmed39 U.vm ∧ U.heap = h0) (fun _ _ _ _ _ => True) (fun _ U o U' => ∃ v L, o = .returned v ∧ Q29_3 Z dr jj d1 d2 d3 h0 n0 v U'.heap L ∧ FrameEnd U o U' L ({ frames := 0, cells := 0, slots := 0, locals := 0 } : Room).cells ({ frames := 0, cells := 0, slots := 0, locals := 0 } : Room).slots) := by
  refine MetFree.of_bodySF (plainFor_of_name pn_29) hisR ?_
  intro p e s m args below meth c s₁ Bd hml0 hP hK
  obtain ⟨rfl, hZ, hh⟩ := hP
  have hx := Bd.exec
  have hby := Bd.bytes
  have hml : c.maxLocals = 2 := hml0
  have hown : s.vm.findClass "com/example/twigmeter/twigmeter/workload/ReachBelowPinLaw" = some m.cls := findClass_of_methodNamed Bd.named
  have hnm := (name_of_methodNamed Bd.named Bd.method).1
  have X0 : Stand p l e ({ frames := 0, cells := 0, slots := 0, locals := 0 } : Room) s m #[(.ref dr), (.int jj)] below meth c s₁ [] 0 0 := Stand.of_body Bd
  have e0 : s₁.heap = h0 := by rw [← hh, Bd.state]; rfl
  have N0 := Fr.nil n0
  have K0 : Keep h0 h0 [] := Keep.refl h0 _
  have pre0 : ∀ tq, Steps p.tables e below (s₁.setTop (mkF m 0 #[.val (.ref dr), .val (.int jj)] [])) tq → Steps p.tables e below (s₁.setTop (entryFrame m #[(.ref dr), (.int jj)] 2)) tq := fun tq kq => castTop (ef_29_3 m dr jj) kq
  subst hlit_jj
  obtain ⟨cl1, Ar1, hin1, hat1⟩ := I0.get (j := (3 : Int32)) rfl
  have pre2 : ∀ tq, Steps p.tables e below (s₁.setTop (mkF m 3 #[.val (.ref dr), .val (.int (3 : Int32))] [(.int d3)])) tq → Steps p.tables e below (s₁.setTop (entryFrame m #[(.ref dr), (.int (3 : Int32))] 2)) tq := by
    intro tq kt
    refine pre0 _ ?_
    show Steps p.tables e below (s₁.setTop (mkF m 0 #[.val (.ref dr), .val (.int (3 : Int32))] [])) _
    refine XS.aloadN X0.here hx rfl (hb hby d29_0) rfl rfl ?_
    refine XS.iloadN X0.here hx rfl (hb hby d29_1) rfl ?_
    refine X0.iaload hx (j := (3 : Int32)) (v := (.int d3)) (heq_of e0 Ar1.1) (State.isArrayOf_alike hZ.alike Ar1.2.1) Ar1.2.2 hin1 hat1 (g := (mkF m 2 #[.val (.ref dr), .val (.int (3 : Int32))] [(.int (3 : Int32)), (.ref dr)])) rfl rfl (hb hby d29_2) _ ?_
    show Steps p.tables e below (s₁.setTop (mkF m 3 #[.val (.ref dr), .val (.int (3 : Int32))] [(.int d3)])) _
    exact kt
  by_cases hc3_3 : d3 = (0 : Int32)
  · skip
    obtain ⟨fs, hr, hrun, hended, hW, hsame⟩ := X0.leave (v := some (Value.int (-1 : Int32))) (fun h => by rw [Bd.returns] at h; cases h)
    have hres4 : (-1 : Int32) = (own_par [(0 : Int32), d1, d2, d3] (3 : Int32)) := (own_leaf_29_3_7_f d1 d2 d3 hc3_3)
    refine ⟨_, _, pre2 _ ?_, hrun, hended, _, _, rfl, ?_, ⟨_, rfl⟩, hW, hsame.mono (by decide) (by decide)⟩
    · skip
      show Steps p.tables e below (s₁.setTop (mkF m 3 #[.val (.ref dr), .val (.int (3 : Int32))] [(.int d3)])) _
      refine XS.ifNo X0.here hx rfl (hb hby d29_3) rfl ((if0 _ _).trans (teq hc3_3).2) ?_
      refine XS.iconst X0.here hx rfl (hb hby d29_6) ?_
      show Steps p.tables e below (s₁.setTop (mkF m 7 #[.val (.ref dr), .val (.int (3 : Int32))] [(.int (-1 : Int32))])) _
      exact retI X0 hx Bd.returns (hb hby d29_7) hr
    · show Q29_3 Z dr (3 : Int32) d1 d2 d3 h0 n0 _ s₁.heap _
      rw [e0]
      exact ⟨congrArg (fun z => some (Value.int z)) hres4, N0, rfl⟩
  · skip
    obtain ⟨cl5, Ar5, hin5, hat5⟩ := I0.get (j := (2 : Int32)) rfl
    obtain ⟨cl6, Ar6, hin6, hat6⟩ := I0.get (j := (3 : Int32)) rfl
    have pre7 : ∀ tq, Steps p.tables e below (s₁.setTop (mkF m 23 #[.val (.ref dr), .val (.int (3 : Int32))] [(.int (d3 - (1 : Int32))), (.int d2)])) tq → Steps p.tables e below (s₁.setTop (entryFrame m #[(.ref dr), (.int (3 : Int32))] 2)) tq := by
      intro tq kt
      refine pre2 _ ?_
      show Steps p.tables e below (s₁.setTop (mkF m 3 #[.val (.ref dr), .val (.int (3 : Int32))] [(.int d3)])) _
      refine XS.ifYes X0.here hx rfl (pc0 := 3) (pc' := 8) rfl (hb hby d29_3) rfl ((if0 _ _).trans (feq hc3_3).2) (by decide) (by decide) ?_
      refine XS.iloadN X0.here hx rfl (hb hby d29_8) rfl ?_
      refine XS.iconst X0.here hx rfl (hb hby d29_9) ?_
      refine XS.icmpNo X0.here hx rfl (hb hby d29_10) rfl (flt (by decide)).1 ?_
      refine XS.aloadN X0.here hx rfl (hb hby d29_13) rfl rfl ?_
      refine XS.iloadN X0.here hx rfl (hb hby d29_14) rfl ?_
      show Steps p.tables e below (s₁.setTop (mkF m 15 #[.val (.ref dr), .val (.int (3 : Int32))] [(.int (3 : Int32)), (.ref dr)])) _
      refine XS.iconst X0.here hx rfl (hb hby d29_15) ?_
      refine XS.isub X0.here hx rfl (hb hby d29_16) rfl ?_
      refine X0.iaload hx (j := (2 : Int32)) (v := (.int d2)) (heq_of e0 Ar5.1) (State.isArrayOf_alike hZ.alike Ar5.2.1) Ar5.2.2 hin5 hat5 (g := (mkF m 17 #[.val (.ref dr), .val (.int (3 : Int32))] [(.int (2 : Int32)), (.ref dr)])) rfl rfl (hb hby d29_17) _ ?_
      show Steps p.tables e below (s₁.setTop (mkF m 18 #[.val (.ref dr), .val (.int (3 : Int32))] [(.int d2)])) _
      refine XS.aloadN X0.here hx rfl (hb hby d29_18) rfl rfl ?_
      refine XS.iloadN X0.here hx rfl (hb hby d29_19) rfl ?_
      refine X0.iaload hx (j := (3 : Int32)) (v := (.int d3)) (heq_of e0 Ar6.1) (State.isArrayOf_alike hZ.alike Ar6.2.1) Ar6.2.2 hin6 hat6 (g := (mkF m 20 #[.val (.ref dr), .val (.int (3 : Int32))] [(.int (3 : Int32)), (.ref dr), (.int d2)])) rfl rfl (hb hby d29_20) _ ?_
      show Steps p.tables e below (s₁.setTop (mkF m 21 #[.val (.ref dr), .val (.int (3 : Int32))] [(.int d3), (.int d2)])) _
      refine XS.iconst X0.here hx rfl (hb hby d29_21) ?_
      refine XS.isub X0.here hx rfl (hb hby d29_22) rfl ?_
      show Steps p.tables e below (s₁.setTop (mkF m 23 #[.val (.ref dr), .val (.int (3 : Int32))] [(.int (d3 - (1 : Int32))), (.int d2)])) _
      exact kt
    by_cases hc23_8 : d2 = (d3 - (1 : Int32))
    · skip
      obtain ⟨fs, hr, hrun, hended, hW, hsame⟩ := X0.leave (v := some (Value.int (2 : Int32))) (fun h => by rw [Bd.returns] at h; cases h)
      have hres9 : (2 : Int32) = (own_par [(0 : Int32), d1, d2, d3] (3 : Int32)) := (own_leaf_29_3_29_tf d1 d2 d3 hc3_3 hc23_8)
      refine ⟨_, _, pre7 _ ?_, hrun, hended, _, _, rfl, ?_, ⟨_, rfl⟩, hW, hsame.mono (by decide) (by decide)⟩
      · skip
        show Steps p.tables e below (s₁.setTop (mkF m 23 #[.val (.ref dr), .val (.int (3 : Int32))] [(.int (d3 - (1 : Int32))), (.int d2)])) _
        refine XS.icmpNo X0.here hx rfl (hb hby d29_23) rfl (teq hc23_8).2 ?_
        refine XS.iloadN X0.here hx rfl (hb hby d29_26) rfl ?_
        refine XS.iconst X0.here hx rfl (hb hby d29_27) ?_
        refine XS.isub X0.here hx rfl (hb hby d29_28) rfl ?_
        show Steps p.tables e below (s₁.setTop (mkF m 29 #[.val (.ref dr), .val (.int (3 : Int32))] [(.int (2 : Int32))])) _
        exact retI X0 hx Bd.returns (hb hby d29_29) hr
      · show Q29_3 Z dr (3 : Int32) d1 d2 d3 h0 n0 _ s₁.heap _
        rw [e0]
        exact ⟨congrArg (fun z => some (Value.int z)) hres9, N0, rfl⟩
    · skip
      obtain ⟨cl10, Ar10, hin10, hat10⟩ := I0.get (j := (1 : Int32)) rfl
      obtain ⟨cl11, Ar11, hin11, hat11⟩ := I0.get (j := (3 : Int32)) rfl
      have pre12 : ∀ tq, Steps p.tables e below (s₁.setTop (mkF m 45 #[.val (.ref dr), .val (.int (3 : Int32))] [(.int (d3 - (1 : Int32))), (.int d1)])) tq → Steps p.tables e below (s₁.setTop (entryFrame m #[(.ref dr), (.int (3 : Int32))] 2)) tq := by
        intro tq kt
        refine pre7 _ ?_
        show Steps p.tables e below (s₁.setTop (mkF m 23 #[.val (.ref dr), .val (.int (3 : Int32))] [(.int (d3 - (1 : Int32))), (.int d2)])) _
        refine XS.icmpYes X0.here hx rfl (pc0 := 23) (pc' := 30) rfl (hb hby d29_23) rfl (feq hc23_8).2 (by decide) (by decide) ?_
        refine XS.iloadN X0.here hx rfl (hb hby d29_30) rfl ?_
        refine XS.iconst X0.here hx rfl (hb hby d29_31) ?_
        refine XS.icmpNo X0.here hx rfl (hb hby d29_32) rfl (flt (by decide)).1 ?_
        refine XS.aloadN X0.here hx rfl (hb hby d29_35) rfl rfl ?_
        refine XS.iloadN X0.here hx rfl (hb hby d29_36) rfl ?_
        show Steps p.tables e below (s₁.setTop (mkF m 37 #[.val (.ref dr), .val (.int (3 : Int32))] [(.int (3 : Int32)), (.ref dr)])) _
        refine XS.iconst X0.here hx rfl (hb hby d29_37) ?_
        refine XS.isub X0.here hx rfl (hb hby d29_38) rfl ?_
        refine X0.iaload hx (j := (1 : Int32)) (v := (.int d1)) (heq_of e0 Ar10.1) (State.isArrayOf_alike hZ.alike Ar10.2.1) Ar10.2.2 hin10 hat10 (g := (mkF m 39 #[.val (.ref dr), .val (.int (3 : Int32))] [(.int (1 : Int32)), (.ref dr)])) rfl rfl (hb hby d29_39) _ ?_
        show Steps p.tables e below (s₁.setTop (mkF m 40 #[.val (.ref dr), .val (.int (3 : Int32))] [(.int d1)])) _
        refine XS.aloadN X0.here hx rfl (hb hby d29_40) rfl rfl ?_
        refine XS.iloadN X0.here hx rfl (hb hby d29_41) rfl ?_
        refine X0.iaload hx (j := (3 : Int32)) (v := (.int d3)) (heq_of e0 Ar11.1) (State.isArrayOf_alike hZ.alike Ar11.2.1) Ar11.2.2 hin11 hat11 (g := (mkF m 42 #[.val (.ref dr), .val (.int (3 : Int32))] [(.int (3 : Int32)), (.ref dr), (.int d1)])) rfl rfl (hb hby d29_42) _ ?_
        show Steps p.tables e below (s₁.setTop (mkF m 43 #[.val (.ref dr), .val (.int (3 : Int32))] [(.int d3), (.int d1)])) _
        refine XS.iconst X0.here hx rfl (hb hby d29_43) ?_
        refine XS.isub X0.here hx rfl (hb hby d29_44) rfl ?_
        show Steps p.tables e below (s₁.setTop (mkF m 45 #[.val (.ref dr), .val (.int (3 : Int32))] [(.int (d3 - (1 : Int32))), (.int d1)])) _
        exact kt
      by_cases hc45_13 : d1 = (d3 - (1 : Int32))
      · skip
        obtain ⟨fs, hr, hrun, hended, hW, hsame⟩ := X0.leave (v := some (Value.int (1 : Int32))) (fun h => by rw [Bd.returns] at h; cases h)
        have hres14 : (1 : Int32) = (own_par [(0 : Int32), d1, d2, d3] (3 : Int32)) := (own_leaf_29_3_51_ttf d1 d2 d3 hc3_3 hc23_8 hc45_13)
        refine ⟨_, _, pre12 _ ?_, hrun, hended, _, _, rfl, ?_, ⟨_, rfl⟩, hW, hsame.mono (by decide) (by decide)⟩
        · skip
          show Steps p.tables e below (s₁.setTop (mkF m 45 #[.val (.ref dr), .val (.int (3 : Int32))] [(.int (d3 - (1 : Int32))), (.int d1)])) _
          refine XS.icmpNo X0.here hx rfl (hb hby d29_45) rfl (teq hc45_13).2 ?_
          refine XS.iloadN X0.here hx rfl (hb hby d29_48) rfl ?_
          refine XS.iconst X0.here hx rfl (hb hby d29_49) ?_
          refine XS.isub X0.here hx rfl (hb hby d29_50) rfl ?_
          show Steps p.tables e below (s₁.setTop (mkF m 51 #[.val (.ref dr), .val (.int (3 : Int32))] [(.int (1 : Int32))])) _
          exact retI X0 hx Bd.returns (hb hby d29_51) hr
        · show Q29_3 Z dr (3 : Int32) d1 d2 d3 h0 n0 _ s₁.heap _
          rw [e0]
          exact ⟨congrArg (fun z => some (Value.int z)) hres14, N0, rfl⟩
      · skip
        obtain ⟨cl15, Ar15, hin15, hat15⟩ := I0.get (j := (0 : Int32)) rfl
        obtain ⟨cl16, Ar16, hin16, hat16⟩ := I0.get (j := (3 : Int32)) rfl
        have pre17 : ∀ tq, Steps p.tables e below (s₁.setTop (mkF m 67 #[.val (.ref dr), .val (.int (3 : Int32))] [(.int (d3 - (1 : Int32))), (.int (0 : Int32))])) tq → Steps p.tables e below (s₁.setTop (entryFrame m #[(.ref dr), (.int (3 : Int32))] 2)) tq := by
          intro tq kt
          refine pre12 _ ?_
          show Steps p.tables e below (s₁.setTop (mkF m 45 #[.val (.ref dr), .val (.int (3 : Int32))] [(.int (d3 - (1 : Int32))), (.int d1)])) _
          refine XS.icmpYes X0.here hx rfl (pc0 := 45) (pc' := 52) rfl (hb hby d29_45) rfl (feq hc45_13).2 (by decide) (by decide) ?_
          refine XS.iloadN X0.here hx rfl (hb hby d29_52) rfl ?_
          refine XS.iconst X0.here hx rfl (hb hby d29_53) ?_
          refine XS.icmpNo X0.here hx rfl (hb hby d29_54) rfl (flt (by decide)).1 ?_
          refine XS.aloadN X0.here hx rfl (hb hby d29_57) rfl rfl ?_
          refine XS.iloadN X0.here hx rfl (hb hby d29_58) rfl ?_
          show Steps p.tables e below (s₁.setTop (mkF m 59 #[.val (.ref dr), .val (.int (3 : Int32))] [(.int (3 : Int32)), (.ref dr)])) _
          refine XS.iconst X0.here hx rfl (hb hby d29_59) ?_
          refine XS.isub X0.here hx rfl (hb hby d29_60) rfl ?_
          refine X0.iaload hx (j := (0 : Int32)) (v := (.int (0 : Int32))) (heq_of e0 Ar15.1) (State.isArrayOf_alike hZ.alike Ar15.2.1) Ar15.2.2 hin15 hat15 (g := (mkF m 61 #[.val (.ref dr), .val (.int (3 : Int32))] [(.int (0 : Int32)), (.ref dr)])) rfl rfl (hb hby d29_61) _ ?_
          show Steps p.tables e below (s₁.setTop (mkF m 62 #[.val (.ref dr), .val (.int (3 : Int32))] [(.int (0 : Int32))])) _
          refine XS.aloadN X0.here hx rfl (hb hby d29_62) rfl rfl ?_
          refine XS.iloadN X0.here hx rfl (hb hby d29_63) rfl ?_
          refine X0.iaload hx (j := (3 : Int32)) (v := (.int d3)) (heq_of e0 Ar16.1) (State.isArrayOf_alike hZ.alike Ar16.2.1) Ar16.2.2 hin16 hat16 (g := (mkF m 64 #[.val (.ref dr), .val (.int (3 : Int32))] [(.int (3 : Int32)), (.ref dr), (.int (0 : Int32))])) rfl rfl (hb hby d29_64) _ ?_
          show Steps p.tables e below (s₁.setTop (mkF m 65 #[.val (.ref dr), .val (.int (3 : Int32))] [(.int d3), (.int (0 : Int32))])) _
          refine XS.iconst X0.here hx rfl (hb hby d29_65) ?_
          refine XS.isub X0.here hx rfl (hb hby d29_66) rfl ?_
          show Steps p.tables e below (s₁.setTop (mkF m 67 #[.val (.ref dr), .val (.int (3 : Int32))] [(.int (d3 - (1 : Int32))), (.int (0 : Int32))])) _
          exact kt
        by_cases hc67_18 : (0 : Int32) = (d3 - (1 : Int32))
        · skip
          obtain ⟨fs, hr, hrun, hended, hW, hsame⟩ := X0.leave (v := some (Value.int (0 : Int32))) (fun h => by rw [Bd.returns] at h; cases h)
          have hres19 : (0 : Int32) = (own_par [(0 : Int32), d1, d2, d3] (3 : Int32)) := (own_leaf_29_3_73_tttf d1 d2 d3 hc3_3 hc23_8 hc45_13 hc67_18)
          refine ⟨_, _, pre17 _ ?_, hrun, hended, _, _, rfl, ?_, ⟨_, rfl⟩, hW, hsame.mono (by decide) (by decide)⟩
          · skip
            show Steps p.tables e below (s₁.setTop (mkF m 67 #[.val (.ref dr), .val (.int (3 : Int32))] [(.int (d3 - (1 : Int32))), (.int (0 : Int32))])) _
            refine XS.icmpNo X0.here hx rfl (hb hby d29_67) rfl (teq hc67_18).2 ?_
            refine XS.iloadN X0.here hx rfl (hb hby d29_70) rfl ?_
            refine XS.iconst X0.here hx rfl (hb hby d29_71) ?_
            refine XS.isub X0.here hx rfl (hb hby d29_72) rfl ?_
            show Steps p.tables e below (s₁.setTop (mkF m 73 #[.val (.ref dr), .val (.int (3 : Int32))] [(.int (0 : Int32))])) _
            exact retI X0 hx Bd.returns (hb hby d29_73) hr
          · show Q29_3 Z dr (3 : Int32) d1 d2 d3 h0 n0 _ s₁.heap _
            rw [e0]
            exact ⟨congrArg (fun z => some (Value.int z)) hres19, N0, rfl⟩
        · skip
          obtain ⟨fs, hr, hrun, hended, hW, hsame⟩ := X0.leave (v := some (Value.int (-1 : Int32))) (fun h => by rw [Bd.returns] at h; cases h)
          have hres20 : (-1 : Int32) = (own_par [(0 : Int32), d1, d2, d3] (3 : Int32)) := (own_leaf_29_3_75_tttt d1 d2 d3 hc3_3 hc23_8 hc45_13 hc67_18)
          refine ⟨_, _, pre17 _ ?_, hrun, hended, _, _, rfl, ?_, ⟨_, rfl⟩, hW, hsame.mono (by decide) (by decide)⟩
          · skip
            show Steps p.tables e below (s₁.setTop (mkF m 67 #[.val (.ref dr), .val (.int (3 : Int32))] [(.int (d3 - (1 : Int32))), (.int (0 : Int32))])) _
            refine XS.icmpYes X0.here hx rfl (pc0 := 67) (pc' := 74) rfl (hb hby d29_67) rfl (feq hc67_18).2 (by decide) (by decide) ?_
            refine XS.iconst X0.here hx rfl (hb hby d29_74) ?_
            show Steps p.tables e below (s₁.setTop (mkF m 75 #[.val (.ref dr), .val (.int (3 : Int32))] [(.int (-1 : Int32))])) _
            exact retI X0 hx Bd.returns (hb hby d29_75) hr
          · show Q29_3 Z dr (3 : Int32) d1 d2 d3 h0 n0 _ s₁.heap _
            rw [e0]
            exact ⟨congrArg (fun z => some (Value.int z)) hres20, N0, rfl⟩
theorem d1_0 : decode method_5_code 0 = .ok (.iload_n 1, 1) := by decide +kernel
theorem d1_1 : decode method_5_code 1 = .ok (.ifCond .eq 10, 3) := by decide +kernel
theorem d1_4 : decode method_5_code 4 = .ok (.aload_n 0, 1) := by decide +kernel
theorem d1_5 : decode method_5_code 5 = .ok (.iload_n 2, 1) := by decide +kernel
theorem d1_6 : decode method_5_code 6 = .ok (.iload_n 3, 1) := by decide +kernel
theorem d1_7 : decode method_5_code 7 = .ok (.invokestatic 43, 3) := by decide +kernel
theorem d1_10 : decode method_5_code 10 = .ok (.ireturn, 1) := by decide +kernel
theorem d1_11 : decode method_5_code 11 = .ok (.aload_n 0, 1) := by decide +kernel
theorem d1_12 : decode method_5_code 12 = .ok (.iload_n 3, 1) := by decide +kernel
theorem d1_13 : decode method_5_code 13 = .ok (.invokestatic 47, 3) := by decide +kernel
theorem d1_16 : decode method_5_code 16 = .ok (.iload_n 2, 1) := by decide +kernel
theorem d1_17 : decode method_5_code 17 = .ok (.if_icmp .ne 7, 3) := by decide +kernel
theorem d1_20 : decode method_5_code 20 = .ok (.iconst 1, 1) := by decide +kernel
theorem d1_21 : decode method_5_code 21 = .ok (.goto 4, 3) := by decide +kernel
theorem d1_24 : decode method_5_code 24 = .ok (.iconst 0, 1) := by decide +kernel
theorem d1_25 : decode method_5_code 25 = .ok (.ireturn, 1) := by decide +kernel
theorem pn_1 : plainName "com/example/twigmeter/twigmeter/workload/ReachBelowPinLaw" = true := by first | (simp [plainName, overriddenIn]; done) | decide +kernel
theorem pd_0 : parseMethodDescriptor "([II)I" = some ⟨[(.array .int), .int], some .int⟩ := by decide +kernel
theorem pd_1 : parseMethodDescriptor "([III)Z" = some ⟨[(.array .int), .int, .int], some .boolean⟩ := by decide +kernel
theorem ef_1 (m : MethodId) (x0 : Addr) (x1 : Int32) (x2 : Int32) (x3 : Int32) : entryFrame m #[(.ref x0), (.int x1), (.int x2), (.int x3)] 4 = mkF m 0 #[.val (.ref x0), .val (.int x1), .val (.int x2), .val (.int x3)] [] := by first | (simp [entryFrame, mkF, argsToLocals, Value.category]; done) | rfl
theorem own_leaf_1_25_t (ds : Int32) (el : Int32) (d1 : Int32) (d2 : Int32) (d3 : Int32) (he : el = (0 : Int32) ∨ el = (1 : Int32) ∨ el = (2 : Int32) ∨ el = (3 : Int32)) (hc1_2 : ds = (0 : Int32)) (r13 : Int32) (hr13 : r13 = (own_par [(0 : Int32), d1, d2, d3] (0 : Int32))) (m25 : Int32) (hm25 : m25 = (if r13 = el then (1 : Int32) else (0 : Int32))) : (nar .boolean m25) = (own_wn [(0 : Int32), d1, d2, d3] ds el (0 : Int32)) := by rw [own_wn, if_pos hc1_2]; subst_vars; split <;> rfl
theorem own_pre_1_7_he_f (ds : Int32) (el : Int32) (d1 : Int32) (d2 : Int32) (d3 : Int32) (he : el = (0 : Int32) ∨ el = (1 : Int32) ∨ el = (2 : Int32) ∨ el = (3 : Int32)) (hc1_2 : ¬ (ds = (0 : Int32))) : el = (0 : Int32) ∨ el = (1 : Int32) ∨ el = (2 : Int32) ∨ el = (3 : Int32) := he
theorem own_leaf_1_10_f (ds : Int32) (el : Int32) (d1 : Int32) (d2 : Int32) (d3 : Int32) (he : el = (0 : Int32) ∨ el = (1 : Int32) ∨ el = (2 : Int32) ∨ el = (3 : Int32)) (hc1_2 : ¬ (ds = (0 : Int32))) (hp7_he : el = (0 : Int32) ∨ el = (1 : Int32) ∨ el = (2 : Int32) ∨ el = (3 : Int32)) (r7 : Int32) (hr7 : r7 = (own_insub [(0 : Int32), d1, d2, d3] el (0 : Int32))) : (nar .boolean r7) = (own_wn [(0 : Int32), d1, d2, d3] ds el (0 : Int32)) := by rw [own_wn, if_neg hc1_2, hr7]; exact own_insub_b _ _ _
def Q1 (Z : State) (dr : Addr) (ds : Int32) (el : Int32) (jj : Int32) (d1 : Int32) (d2 : Int32) (d3 : Int32) (h0 : Heap) (n0 : Nat) (v : Option Value) (h : Heap) (L : List Loc) : Prop := v = some (.int (own_wn [(0 : Int32), d1, d2, d3] ds el jj)) ∧ Fr n0 L ∧ h = h0
set_option maxRecDepth 65536 in
set_option maxHeartbeats 40000000 in
theorem rm1 (l : Launch) (Z : State) (a0 : Array Value) (hw : ∀ d ∈ tables_1, d.before a0 Z = true) (ws : List Jvm.Cond) (dr : Addr) (ds : Int32) (el : Int32) (jj : Int32) (d1 : Int32) (d2 : Int32) (d3 : Int32) (h0 : Heap) (n0 : Nat) (Z0 : n0 ≤ h0.size) (I0 : own_ia Z h0 dr [(0 : Int32), d1, d2, d3]) (he : el = (0 : Int32) ∨ el = (1 : Int32) ∨ el = (2 : Int32) ∨ el = (3 : Int32)) (hlit_jj : jj = (0 : Int32)) :
    MetFree l (⟨"com/example/twigmeter/twigmeter/workload/ReachBelowPinLaw", "wanted", "([IZII)Z"⟩ : MethodName) (head1 (Jvm.Cond.code (⟨"com/example/twigmeter/twigmeter/workload/ReachBelowPinLaw", "wanted", "([IZII)Z"⟩ : MethodName) method_5_code 4 (some .boolean) :: ws) ({ frames := 1, cells := 0, slots := 0, locals := 14 } : Room)) (fun a U => a = #[(.ref dr), (.int ds), (.int el), (.int jj)] ∧ Z.Warmed39 U.vm ∧ U.heap = h0) (fun _ _ _ _ _ => True) (fun _ U o U' => ∃ v L, o = .returned v ∧ Q1 Z dr ds el jj d1 d2 d3 h0 n0 v U'.heap L ∧ FrameEnd U o U' L ({ frames := 1, cells := 0, slots := 0, locals := 14 } : Room).cells ({ frames := 1, cells := 0, slots := 0, locals := 14 } : Room).slots) := by
  refine MetFree.of_bodySF (plainFor_of_name pn_1) hisR ?_
  intro p e s m args below meth c s₁ Bd hml0 hP hK
  obtain ⟨rfl, hZ, hh⟩ := hP
  have hx := Bd.exec
  have hby := Bd.bytes
  have hml : c.maxLocals = 4 := hml0
  have hown : s.vm.findClass "com/example/twigmeter/twigmeter/workload/ReachBelowPinLaw" = some m.cls := findClass_of_methodNamed Bd.named
  have hnm := (name_of_methodNamed Bd.named Bd.method).1
  have X0 : Stand p l e ({ frames := 1, cells := 0, slots := 0, locals := 14 } : Room) s m #[(.ref dr), (.int ds), (.int el), (.int jj)] below meth c s₁ [] 0 0 := Stand.of_body Bd
  have e0 : s₁.heap = h0 := by rw [← hh, Bd.state]; rfl
  have N0 := Fr.nil n0
  have K0 : Keep h0 h0 [] := Keep.refl h0 _
  have pre0 : ∀ tq, Steps p.tables e below (s₁.setTop (mkF m 0 #[.val (.ref dr), .val (.int ds), .val (.int el), .val (.int jj)] [])) tq → Steps p.tables e below (s₁.setTop (entryFrame m #[(.ref dr), (.int ds), (.int el), (.int jj)] 4)) tq := fun tq kq => castTop (ef_1 m dr ds el jj) kq
  subst hlit_jj
  have pre1 : ∀ tq, Steps p.tables e below (s₁.setTop (mkF m 1 #[.val (.ref dr), .val (.int ds), .val (.int el), .val (.int (0 : Int32))] [(.int ds)])) tq → Steps p.tables e below (s₁.setTop (entryFrame m #[(.ref dr), (.int ds), (.int el), (.int (0 : Int32))] 4)) tq := by
    intro tq kt
    refine pre0 _ ?_
    show Steps p.tables e below (s₁.setTop (mkF m 0 #[.val (.ref dr), .val (.int ds), .val (.int el), .val (.int (0 : Int32))] [])) _
    refine XS.iloadN X0.here hx rfl (hb hby d1_0) rfl ?_
    show Steps p.tables e below (s₁.setTop (mkF m 1 #[.val (.ref dr), .val (.int ds), .val (.int el), .val (.int (0 : Int32))] [(.int ds)])) _
    exact kt
  by_cases hc1_2 : ds = (0 : Int32)
  · skip
    obtain ⟨_, _, ⟨T3, L3, k3, n3⟩, -, X3, ⟨Lc3, hQ3, l3, y3, z3⟩, st3⟩ := Jvm.LawKit.callS X0 hx (y := (⟨"com/example/twigmeter/twigmeter/workload/ReachBelowPinLaw", "parentOf", "([II)I"⟩ : MethodName)) hown (mvT hZ (hw _ (List.mem_of_getElem? (i := 200) rfl))) (mvT hZ (hw _ (List.mem_of_getElem? (i := 201) rfl))) (mvT hZ (hw _ (List.mem_of_getElem? (i := 5) rfl))) (mvT hZ (hw _ (List.mem_of_getElem? (i := 202) rfl))) (by decide) (backOf (W := 0) (rm29 l Z a0 hw [] dr (0 : Int32) d1 d2 d3 h0 n0 Z0 I0 rfl) hZ (hw _ (List.mem_of_getElem? (i := 202) rfl)) (hw _ (List.mem_of_getElem? (i := 5) rfl)) (by decide) (by decide)) (g := (mkF m 13 #[.val (.ref dr), .val (.int ds), .val (.int el), .val (.int (0 : Int32))] [(.int (0 : Int32)), (.ref dr)])) rfl (by rw [hml]; rfl) (argsL := [(.ref dr), (.int (0 : Int32))]) (rest := []) (lenOf pd_0 rfl) rfl (by show 2 * 0 + _ ≤ _; exact Nat.le_of_eq rfl) (hb hby d1_13) (fun _ _ => ⟨rfl, e0, (by decide : 0 + 0 ≤ _), (by decide : 0 + 0 ≤ _)⟩)
    dsimp only [Pt.U, Pt.locs, Pt.cells, Pt.slots] at X3 l3 y3 z3 st3 hQ3
    replace y3 : k3 = 0 := y3
    replace z3 : n3 = 0 := z3
    subst l3 y3 z3
    obtain ⟨rfl, N3q, e3⟩ := hQ3
    have N3 := Fr.app N0 N3q
    obtain ⟨r13, hr13⟩ : ∃ z_q : Int32, z_q = (own_par [(0 : Int32), d1, d2, d3] (0 : Int32)) := ⟨_, rfl⟩
    obtain ⟨m25, hm25⟩ : ∃ z_q : Int32, z_q = (if r13 = el then (1 : Int32) else (0 : Int32)) := ⟨_, rfl⟩
    have pre5 : ∀ tq, Steps p.tables e below (T3.setTop (mkF m 25 #[.val (.ref dr), .val (.int ds), .val (.int el), .val (.int (0 : Int32))] [(.int m25)])) tq → Steps p.tables e below (s₁.setTop (entryFrame m #[(.ref dr), (.int ds), (.int el), (.int (0 : Int32))] 4)) tq := by
      intro tq kt
      refine pre1 _ ?_
      show Steps p.tables e below (s₁.setTop (mkF m 1 #[.val (.ref dr), .val (.int ds), .val (.int el), .val (.int (0 : Int32))] [(.int ds)])) _
      refine XS.ifYes X0.here hx rfl (pc0 := 1) (pc' := 11) rfl (hb hby d1_1) rfl ((if0 _ _).trans (teq hc1_2).1) (by decide) (by decide) ?_
      refine XS.aloadN X0.here hx rfl (hb hby d1_11) rfl rfl ?_
      refine XS.iloadN X0.here hx rfl (hb hby d1_12) rfl ?_
      refine st3 _ ?_
      show Steps p.tables e below (T3.setTop (mkF m 16 #[.val (.ref dr), .val (.int ds), .val (.int el), .val (.int (0 : Int32))] [(.int (own_par [(0 : Int32), d1, d2, d3] (0 : Int32)))])) _
      rw [← hr13]
      show Steps p.tables e below (T3.setTop (mkF m 16 #[.val (.ref dr), .val (.int ds), .val (.int el), .val (.int (0 : Int32))] [(.int r13)])) _
      refine XS.iloadN X3.here hx rfl (hb hby d1_16) rfl ?_
      by_cases d4 : r13 = el
      · skip
        show Steps p.tables e below (T3.setTop (mkF m 17 #[.val (.ref dr), .val (.int ds), .val (.int el), .val (.int (0 : Int32))] [(.int el), (.int r13)])) _
        refine XS.icmpNo X3.here hx rfl (hb hby d1_17) rfl (teq d4).2 ?_
        refine XS.iconst X3.here hx rfl (hb hby d1_20) ?_
        refine XS.goto X3.here hx rfl (pc0 := 21) (pc' := 25) rfl (hb hby d1_21) (by decide) (by decide) ?_
        show Steps p.tables e below (T3.setTop (mkF m 25 #[.val (.ref dr), .val (.int ds), .val (.int el), .val (.int (0 : Int32))] [(.int (1 : Int32))])) _
        exact castTop (by simp only [hm25, if_pos d4]) kt
      · skip
        show Steps p.tables e below (T3.setTop (mkF m 17 #[.val (.ref dr), .val (.int ds), .val (.int el), .val (.int (0 : Int32))] [(.int el), (.int r13)])) _
        refine XS.icmpYes X3.here hx rfl (pc0 := 17) (pc' := 24) rfl (hb hby d1_17) rfl (feq d4).2 (by decide) (by decide) ?_
        refine XS.iconst X3.here hx rfl (hb hby d1_24) ?_
        show Steps p.tables e below (T3.setTop (mkF m 25 #[.val (.ref dr), .val (.int ds), .val (.int el), .val (.int (0 : Int32))] [(.int (0 : Int32))])) _
        exact castTop (by simp only [hm25, if_neg d4]) kt
    obtain ⟨fs, hr, hrun, hended, hW, hsame⟩ := X3.leave (v := some (Value.int (nar .boolean m25))) (fun h => by rw [Bd.returns] at h; cases h)
    have hres6 : (nar .boolean m25) = (own_wn [(0 : Int32), d1, d2, d3] ds el (0 : Int32)) := (own_leaf_1_25_t ds el d1 d2 d3 he hc1_2 r13 hr13 m25 hm25)
    refine ⟨_, _, pre5 _ ?_, hrun, hended, _, _, rfl, ?_, ⟨_, rfl⟩, hW, hsame.mono (by decide) (by decide)⟩
    · skip
      show Steps p.tables e below (T3.setTop (mkF m 25 #[.val (.ref dr), .val (.int ds), .val (.int el), .val (.int (0 : Int32))] [(.int m25)])) _
      exact retN X3 hx (t := .boolean) Bd.returns (by simp) (hb hby d1_25) hr
    · show Q1 Z dr ds el (0 : Int32) d1 d2 d3 h0 n0 _ T3.heap _
      rw [e3]
      exact ⟨congrArg (fun z => some (Value.int z)) hres6, N3, rfl⟩
  · skip
    have hp7_he : el = (0 : Int32) ∨ el = (1 : Int32) ∨ el = (2 : Int32) ∨ el = (3 : Int32) := (own_pre_1_7_he_f ds el d1 d2 d3 he hc1_2)
    obtain ⟨_, _, ⟨T7, L7, k7, n7⟩, -, X7, ⟨Lc7, hQ7, l7, y7, z7⟩, st7⟩ := Jvm.LawKit.callS X0 hx (y := (⟨"com/example/twigmeter/twigmeter/workload/ReachBelowPinLaw", "inSub", "([III)Z"⟩ : MethodName)) hown (mvT hZ (hw _ (List.mem_of_getElem? (i := 7) rfl))) (mvT hZ (hw _ (List.mem_of_getElem? (i := 8) rfl))) (mvT hZ (hw _ (List.mem_of_getElem? (i := 5) rfl))) (mvT hZ (hw _ (List.mem_of_getElem? (i := 9) rfl))) (by decide) (backOf (W := 0) (rm2 l Z a0 hw [] dr el (0 : Int32) d1 d2 d3 h0 n0 Z0 I0 hp7_he rfl) hZ (hw _ (List.mem_of_getElem? (i := 9) rfl)) (hw _ (List.mem_of_getElem? (i := 5) rfl)) (by decide) (by decide)) (g := (mkF m 7 #[.val (.ref dr), .val (.int ds), .val (.int el), .val (.int (0 : Int32))] [(.int (0 : Int32)), (.int el), (.ref dr)])) rfl (by rw [hml]; rfl) (argsL := [(.ref dr), (.int el), (.int (0 : Int32))]) (rest := []) (lenOf pd_1 rfl) rfl (by show 2 * 0 + _ ≤ _; exact Nat.le_of_eq rfl) (hb hby d1_7) (fun _ _ => ⟨rfl, e0, (by decide : 0 + 0 ≤ _), (by decide : 0 + 0 ≤ _)⟩)
    dsimp only [Pt.U, Pt.locs, Pt.cells, Pt.slots] at X7 l7 y7 z7 st7 hQ7
    replace y7 : k7 = 0 := y7
    replace z7 : n7 = 0 := z7
    subst l7 y7 z7
    obtain ⟨rfl, N7q, e7⟩ := hQ7
    have N7 := Fr.app N0 N7q
    obtain ⟨r7, hr7⟩ : ∃ z_q : Int32, z_q = (own_insub [(0 : Int32), d1, d2, d3] el (0 : Int32)) := ⟨_, rfl⟩
    obtain ⟨fs, hr, hrun, hended, hW, hsame⟩ := X7.leave (v := some (Value.int (nar .boolean r7))) (fun h => by rw [Bd.returns] at h; cases h)
    have hres8 : (nar .boolean r7) = (own_wn [(0 : Int32), d1, d2, d3] ds el (0 : Int32)) := (own_leaf_1_10_f ds el d1 d2 d3 he hc1_2 hp7_he r7 hr7)
    refine ⟨_, _, pre1 _ ?_, hrun, hended, _, _, rfl, ?_, ⟨_, rfl⟩, hW, hsame.mono (by decide) (by decide)⟩
    · skip
      show Steps p.tables e below (s₁.setTop (mkF m 1 #[.val (.ref dr), .val (.int ds), .val (.int el), .val (.int (0 : Int32))] [(.int ds)])) _
      refine XS.ifNo X0.here hx rfl (hb hby d1_1) rfl ((if0 _ _).trans (feq hc1_2).1) ?_
      refine XS.aloadN X0.here hx rfl (hb hby d1_4) rfl rfl ?_
      refine XS.iloadN X0.here hx rfl (hb hby d1_5) rfl ?_
      refine XS.iloadN X0.here hx rfl (hb hby d1_6) rfl ?_
      refine st7 _ ?_
      show Steps p.tables e below (T7.setTop (mkF m 10 #[.val (.ref dr), .val (.int ds), .val (.int el), .val (.int (0 : Int32))] [(.int (own_insub [(0 : Int32), d1, d2, d3] el (0 : Int32)))])) _
      rw [← hr7]
      show Steps p.tables e below (T7.setTop (mkF m 10 #[.val (.ref dr), .val (.int ds), .val (.int el), .val (.int (0 : Int32))] [(.int r7)])) _
      exact retN X7 hx (t := .boolean) Bd.returns (by simp) (hb hby d1_10) hr
    · show Q1 Z dr ds el (0 : Int32) d1 d2 d3 h0 n0 _ T7.heap _
      rw [e7]
      exact ⟨congrArg (fun z => some (Value.int z)) hres8, N7, rfl⟩
theorem ef_1_1 (m : MethodId) (x0 : Addr) (x1 : Int32) (x2 : Int32) (x3 : Int32) : entryFrame m #[(.ref x0), (.int x1), (.int x2), (.int x3)] 4 = mkF m 0 #[.val (.ref x0), .val (.int x1), .val (.int x2), .val (.int x3)] [] := by first | (simp [entryFrame, mkF, argsToLocals, Value.category]; done) | rfl
theorem own_leaf_1_1_25_t (ds : Int32) (el : Int32) (d1 : Int32) (d2 : Int32) (d3 : Int32) (he : el = (0 : Int32) ∨ el = (1 : Int32) ∨ el = (2 : Int32) ∨ el = (3 : Int32)) (hc1_2 : ds = (0 : Int32)) (r13 : Int32) (hr13 : r13 = (own_par [(0 : Int32), d1, d2, d3] (1 : Int32))) (m25 : Int32) (hm25 : m25 = (if r13 = el then (1 : Int32) else (0 : Int32))) : (nar .boolean m25) = (own_wn [(0 : Int32), d1, d2, d3] ds el (1 : Int32)) := by rw [own_wn, if_pos hc1_2]; subst_vars; split <;> rfl
theorem own_pre_1_1_7_he_f (ds : Int32) (el : Int32) (d1 : Int32) (d2 : Int32) (d3 : Int32) (he : el = (0 : Int32) ∨ el = (1 : Int32) ∨ el = (2 : Int32) ∨ el = (3 : Int32)) (hc1_2 : ¬ (ds = (0 : Int32))) : el = (0 : Int32) ∨ el = (1 : Int32) ∨ el = (2 : Int32) ∨ el = (3 : Int32) := he
theorem own_leaf_1_1_10_f (ds : Int32) (el : Int32) (d1 : Int32) (d2 : Int32) (d3 : Int32) (he : el = (0 : Int32) ∨ el = (1 : Int32) ∨ el = (2 : Int32) ∨ el = (3 : Int32)) (hc1_2 : ¬ (ds = (0 : Int32))) (hp7_he : el = (0 : Int32) ∨ el = (1 : Int32) ∨ el = (2 : Int32) ∨ el = (3 : Int32)) (r7 : Int32) (hr7 : r7 = (own_insub [(0 : Int32), d1, d2, d3] el (1 : Int32))) : (nar .boolean r7) = (own_wn [(0 : Int32), d1, d2, d3] ds el (1 : Int32)) := by rw [own_wn, if_neg hc1_2, hr7]; exact own_insub_b _ _ _
def Q1_1 (Z : State) (dr : Addr) (ds : Int32) (el : Int32) (jj : Int32) (d1 : Int32) (d2 : Int32) (d3 : Int32) (h0 : Heap) (n0 : Nat) (v : Option Value) (h : Heap) (L : List Loc) : Prop := v = some (.int (own_wn [(0 : Int32), d1, d2, d3] ds el jj)) ∧ Fr n0 L ∧ h = h0
set_option maxRecDepth 65536 in
set_option maxHeartbeats 40000000 in
theorem rm1_1 (l : Launch) (Z : State) (a0 : Array Value) (hw : ∀ d ∈ tables_1, d.before a0 Z = true) (ws : List Jvm.Cond) (dr : Addr) (ds : Int32) (el : Int32) (jj : Int32) (d1 : Int32) (d2 : Int32) (d3 : Int32) (h0 : Heap) (n0 : Nat) (Z0 : n0 ≤ h0.size) (I0 : own_ia Z h0 dr [(0 : Int32), d1, d2, d3]) (he : el = (0 : Int32) ∨ el = (1 : Int32) ∨ el = (2 : Int32) ∨ el = (3 : Int32)) (hlit_jj : jj = (1 : Int32)) :
    MetFree l (⟨"com/example/twigmeter/twigmeter/workload/ReachBelowPinLaw", "wanted", "([IZII)Z"⟩ : MethodName) (head1 (Jvm.Cond.code (⟨"com/example/twigmeter/twigmeter/workload/ReachBelowPinLaw", "wanted", "([IZII)Z"⟩ : MethodName) method_5_code 4 (some .boolean) :: ws) ({ frames := 1, cells := 0, slots := 0, locals := 14 } : Room)) (fun a U => a = #[(.ref dr), (.int ds), (.int el), (.int jj)] ∧ Z.Warmed39 U.vm ∧ U.heap = h0) (fun _ _ _ _ _ => True) (fun _ U o U' => ∃ v L, o = .returned v ∧ Q1_1 Z dr ds el jj d1 d2 d3 h0 n0 v U'.heap L ∧ FrameEnd U o U' L ({ frames := 1, cells := 0, slots := 0, locals := 14 } : Room).cells ({ frames := 1, cells := 0, slots := 0, locals := 14 } : Room).slots) := by
  refine MetFree.of_bodySF (plainFor_of_name pn_1) hisR ?_
  intro p e s m args below meth c s₁ Bd hml0 hP hK
  obtain ⟨rfl, hZ, hh⟩ := hP
  have hx := Bd.exec
  have hby := Bd.bytes
  have hml : c.maxLocals = 4 := hml0
  have hown : s.vm.findClass "com/example/twigmeter/twigmeter/workload/ReachBelowPinLaw" = some m.cls := findClass_of_methodNamed Bd.named
  have hnm := (name_of_methodNamed Bd.named Bd.method).1
  have X0 : Stand p l e ({ frames := 1, cells := 0, slots := 0, locals := 14 } : Room) s m #[(.ref dr), (.int ds), (.int el), (.int jj)] below meth c s₁ [] 0 0 := Stand.of_body Bd
  have e0 : s₁.heap = h0 := by rw [← hh, Bd.state]; rfl
  have N0 := Fr.nil n0
  have K0 : Keep h0 h0 [] := Keep.refl h0 _
  have pre0 : ∀ tq, Steps p.tables e below (s₁.setTop (mkF m 0 #[.val (.ref dr), .val (.int ds), .val (.int el), .val (.int jj)] [])) tq → Steps p.tables e below (s₁.setTop (entryFrame m #[(.ref dr), (.int ds), (.int el), (.int jj)] 4)) tq := fun tq kq => castTop (ef_1_1 m dr ds el jj) kq
  subst hlit_jj
  have pre1 : ∀ tq, Steps p.tables e below (s₁.setTop (mkF m 1 #[.val (.ref dr), .val (.int ds), .val (.int el), .val (.int (1 : Int32))] [(.int ds)])) tq → Steps p.tables e below (s₁.setTop (entryFrame m #[(.ref dr), (.int ds), (.int el), (.int (1 : Int32))] 4)) tq := by
    intro tq kt
    refine pre0 _ ?_
    show Steps p.tables e below (s₁.setTop (mkF m 0 #[.val (.ref dr), .val (.int ds), .val (.int el), .val (.int (1 : Int32))] [])) _
    refine XS.iloadN X0.here hx rfl (hb hby d1_0) rfl ?_
    show Steps p.tables e below (s₁.setTop (mkF m 1 #[.val (.ref dr), .val (.int ds), .val (.int el), .val (.int (1 : Int32))] [(.int ds)])) _
    exact kt
  by_cases hc1_2 : ds = (0 : Int32)
  · skip
    obtain ⟨_, _, ⟨T3, L3, k3, n3⟩, -, X3, ⟨Lc3, hQ3, l3, y3, z3⟩, st3⟩ := Jvm.LawKit.callS X0 hx (y := (⟨"com/example/twigmeter/twigmeter/workload/ReachBelowPinLaw", "parentOf", "([II)I"⟩ : MethodName)) hown (mvT hZ (hw _ (List.mem_of_getElem? (i := 200) rfl))) (mvT hZ (hw _ (List.mem_of_getElem? (i := 201) rfl))) (mvT hZ (hw _ (List.mem_of_getElem? (i := 5) rfl))) (mvT hZ (hw _ (List.mem_of_getElem? (i := 202) rfl))) (by decide) (backOf (W := 0) (rm29_1 l Z a0 hw [] dr (1 : Int32) d1 d2 d3 h0 n0 Z0 I0 rfl) hZ (hw _ (List.mem_of_getElem? (i := 202) rfl)) (hw _ (List.mem_of_getElem? (i := 5) rfl)) (by decide) (by decide)) (g := (mkF m 13 #[.val (.ref dr), .val (.int ds), .val (.int el), .val (.int (1 : Int32))] [(.int (1 : Int32)), (.ref dr)])) rfl (by rw [hml]; rfl) (argsL := [(.ref dr), (.int (1 : Int32))]) (rest := []) (lenOf pd_0 rfl) rfl (by show 2 * 0 + _ ≤ _; exact Nat.le_of_eq rfl) (hb hby d1_13) (fun _ _ => ⟨rfl, e0, (by decide : 0 + 0 ≤ _), (by decide : 0 + 0 ≤ _)⟩)
    dsimp only [Pt.U, Pt.locs, Pt.cells, Pt.slots] at X3 l3 y3 z3 st3 hQ3
    replace y3 : k3 = 0 := y3
    replace z3 : n3 = 0 := z3
    subst l3 y3 z3
    obtain ⟨rfl, N3q, e3⟩ := hQ3
    have N3 := Fr.app N0 N3q
    obtain ⟨r13, hr13⟩ : ∃ z_q : Int32, z_q = (own_par [(0 : Int32), d1, d2, d3] (1 : Int32)) := ⟨_, rfl⟩
    obtain ⟨m25, hm25⟩ : ∃ z_q : Int32, z_q = (if r13 = el then (1 : Int32) else (0 : Int32)) := ⟨_, rfl⟩
    have pre5 : ∀ tq, Steps p.tables e below (T3.setTop (mkF m 25 #[.val (.ref dr), .val (.int ds), .val (.int el), .val (.int (1 : Int32))] [(.int m25)])) tq → Steps p.tables e below (s₁.setTop (entryFrame m #[(.ref dr), (.int ds), (.int el), (.int (1 : Int32))] 4)) tq := by
      intro tq kt
      refine pre1 _ ?_
      show Steps p.tables e below (s₁.setTop (mkF m 1 #[.val (.ref dr), .val (.int ds), .val (.int el), .val (.int (1 : Int32))] [(.int ds)])) _
      refine XS.ifYes X0.here hx rfl (pc0 := 1) (pc' := 11) rfl (hb hby d1_1) rfl ((if0 _ _).trans (teq hc1_2).1) (by decide) (by decide) ?_
      refine XS.aloadN X0.here hx rfl (hb hby d1_11) rfl rfl ?_
      refine XS.iloadN X0.here hx rfl (hb hby d1_12) rfl ?_
      refine st3 _ ?_
      show Steps p.tables e below (T3.setTop (mkF m 16 #[.val (.ref dr), .val (.int ds), .val (.int el), .val (.int (1 : Int32))] [(.int (own_par [(0 : Int32), d1, d2, d3] (1 : Int32)))])) _
      rw [← hr13]
      show Steps p.tables e below (T3.setTop (mkF m 16 #[.val (.ref dr), .val (.int ds), .val (.int el), .val (.int (1 : Int32))] [(.int r13)])) _
      refine XS.iloadN X3.here hx rfl (hb hby d1_16) rfl ?_
      by_cases d4 : r13 = el
      · skip
        show Steps p.tables e below (T3.setTop (mkF m 17 #[.val (.ref dr), .val (.int ds), .val (.int el), .val (.int (1 : Int32))] [(.int el), (.int r13)])) _
        refine XS.icmpNo X3.here hx rfl (hb hby d1_17) rfl (teq d4).2 ?_
        refine XS.iconst X3.here hx rfl (hb hby d1_20) ?_
        refine XS.goto X3.here hx rfl (pc0 := 21) (pc' := 25) rfl (hb hby d1_21) (by decide) (by decide) ?_
        show Steps p.tables e below (T3.setTop (mkF m 25 #[.val (.ref dr), .val (.int ds), .val (.int el), .val (.int (1 : Int32))] [(.int (1 : Int32))])) _
        exact castTop (by simp only [hm25, if_pos d4]) kt
      · skip
        show Steps p.tables e below (T3.setTop (mkF m 17 #[.val (.ref dr), .val (.int ds), .val (.int el), .val (.int (1 : Int32))] [(.int el), (.int r13)])) _
        refine XS.icmpYes X3.here hx rfl (pc0 := 17) (pc' := 24) rfl (hb hby d1_17) rfl (feq d4).2 (by decide) (by decide) ?_
        refine XS.iconst X3.here hx rfl (hb hby d1_24) ?_
        show Steps p.tables e below (T3.setTop (mkF m 25 #[.val (.ref dr), .val (.int ds), .val (.int el), .val (.int (1 : Int32))] [(.int (0 : Int32))])) _
        exact castTop (by simp only [hm25, if_neg d4]) kt
    obtain ⟨fs, hr, hrun, hended, hW, hsame⟩ := X3.leave (v := some (Value.int (nar .boolean m25))) (fun h => by rw [Bd.returns] at h; cases h)
    have hres6 : (nar .boolean m25) = (own_wn [(0 : Int32), d1, d2, d3] ds el (1 : Int32)) := (own_leaf_1_1_25_t ds el d1 d2 d3 he hc1_2 r13 hr13 m25 hm25)
    refine ⟨_, _, pre5 _ ?_, hrun, hended, _, _, rfl, ?_, ⟨_, rfl⟩, hW, hsame.mono (by decide) (by decide)⟩
    · skip
      show Steps p.tables e below (T3.setTop (mkF m 25 #[.val (.ref dr), .val (.int ds), .val (.int el), .val (.int (1 : Int32))] [(.int m25)])) _
      exact retN X3 hx (t := .boolean) Bd.returns (by simp) (hb hby d1_25) hr
    · show Q1_1 Z dr ds el (1 : Int32) d1 d2 d3 h0 n0 _ T3.heap _
      rw [e3]
      exact ⟨congrArg (fun z => some (Value.int z)) hres6, N3, rfl⟩
  · skip
    have hp7_he : el = (0 : Int32) ∨ el = (1 : Int32) ∨ el = (2 : Int32) ∨ el = (3 : Int32) := (own_pre_1_1_7_he_f ds el d1 d2 d3 he hc1_2)
    obtain ⟨_, _, ⟨T7, L7, k7, n7⟩, -, X7, ⟨Lc7, hQ7, l7, y7, z7⟩, st7⟩ := Jvm.LawKit.callS X0 hx (y := (⟨"com/example/twigmeter/twigmeter/workload/ReachBelowPinLaw", "inSub", "([III)Z"⟩ : MethodName)) hown (mvT hZ (hw _ (List.mem_of_getElem? (i := 7) rfl))) (mvT hZ (hw _ (List.mem_of_getElem? (i := 8) rfl))) (mvT hZ (hw _ (List.mem_of_getElem? (i := 5) rfl))) (mvT hZ (hw _ (List.mem_of_getElem? (i := 9) rfl))) (by decide) (backOf (W := 0) (rm2_1 l Z a0 hw [] dr el (1 : Int32) d1 d2 d3 h0 n0 Z0 I0 hp7_he rfl) hZ (hw _ (List.mem_of_getElem? (i := 9) rfl)) (hw _ (List.mem_of_getElem? (i := 5) rfl)) (by decide) (by decide)) (g := (mkF m 7 #[.val (.ref dr), .val (.int ds), .val (.int el), .val (.int (1 : Int32))] [(.int (1 : Int32)), (.int el), (.ref dr)])) rfl (by rw [hml]; rfl) (argsL := [(.ref dr), (.int el), (.int (1 : Int32))]) (rest := []) (lenOf pd_1 rfl) rfl (by show 2 * 0 + _ ≤ _; exact Nat.le_of_eq rfl) (hb hby d1_7) (fun _ _ => ⟨rfl, e0, (by decide : 0 + 0 ≤ _), (by decide : 0 + 0 ≤ _)⟩)
    dsimp only [Pt.U, Pt.locs, Pt.cells, Pt.slots] at X7 l7 y7 z7 st7 hQ7
    replace y7 : k7 = 0 := y7
    replace z7 : n7 = 0 := z7
    subst l7 y7 z7
    obtain ⟨rfl, N7q, e7⟩ := hQ7
    have N7 := Fr.app N0 N7q
    obtain ⟨r7, hr7⟩ : ∃ z_q : Int32, z_q = (own_insub [(0 : Int32), d1, d2, d3] el (1 : Int32)) := ⟨_, rfl⟩
    obtain ⟨fs, hr, hrun, hended, hW, hsame⟩ := X7.leave (v := some (Value.int (nar .boolean r7))) (fun h => by rw [Bd.returns] at h; cases h)
    have hres8 : (nar .boolean r7) = (own_wn [(0 : Int32), d1, d2, d3] ds el (1 : Int32)) := (own_leaf_1_1_10_f ds el d1 d2 d3 he hc1_2 hp7_he r7 hr7)
    refine ⟨_, _, pre1 _ ?_, hrun, hended, _, _, rfl, ?_, ⟨_, rfl⟩, hW, hsame.mono (by decide) (by decide)⟩
    · skip
      show Steps p.tables e below (s₁.setTop (mkF m 1 #[.val (.ref dr), .val (.int ds), .val (.int el), .val (.int (1 : Int32))] [(.int ds)])) _
      refine XS.ifNo X0.here hx rfl (hb hby d1_1) rfl ((if0 _ _).trans (feq hc1_2).1) ?_
      refine XS.aloadN X0.here hx rfl (hb hby d1_4) rfl rfl ?_
      refine XS.iloadN X0.here hx rfl (hb hby d1_5) rfl ?_
      refine XS.iloadN X0.here hx rfl (hb hby d1_6) rfl ?_
      refine st7 _ ?_
      show Steps p.tables e below (T7.setTop (mkF m 10 #[.val (.ref dr), .val (.int ds), .val (.int el), .val (.int (1 : Int32))] [(.int (own_insub [(0 : Int32), d1, d2, d3] el (1 : Int32)))])) _
      rw [← hr7]
      show Steps p.tables e below (T7.setTop (mkF m 10 #[.val (.ref dr), .val (.int ds), .val (.int el), .val (.int (1 : Int32))] [(.int r7)])) _
      exact retN X7 hx (t := .boolean) Bd.returns (by simp) (hb hby d1_10) hr
    · show Q1_1 Z dr ds el (1 : Int32) d1 d2 d3 h0 n0 _ T7.heap _
      rw [e7]
      exact ⟨congrArg (fun z => some (Value.int z)) hres8, N7, rfl⟩
theorem ef_1_2 (m : MethodId) (x0 : Addr) (x1 : Int32) (x2 : Int32) (x3 : Int32) : entryFrame m #[(.ref x0), (.int x1), (.int x2), (.int x3)] 4 = mkF m 0 #[.val (.ref x0), .val (.int x1), .val (.int x2), .val (.int x3)] [] := by first | (simp [entryFrame, mkF, argsToLocals, Value.category]; done) | rfl
theorem own_leaf_1_2_25_t (ds : Int32) (el : Int32) (d1 : Int32) (d2 : Int32) (d3 : Int32) (he : el = (0 : Int32) ∨ el = (1 : Int32) ∨ el = (2 : Int32) ∨ el = (3 : Int32)) (hc1_2 : ds = (0 : Int32)) (r13 : Int32) (hr13 : r13 = (own_par [(0 : Int32), d1, d2, d3] (2 : Int32))) (m25 : Int32) (hm25 : m25 = (if r13 = el then (1 : Int32) else (0 : Int32))) : (nar .boolean m25) = (own_wn [(0 : Int32), d1, d2, d3] ds el (2 : Int32)) := by rw [own_wn, if_pos hc1_2]; subst_vars; split <;> rfl
theorem own_pre_1_2_7_he_f (ds : Int32) (el : Int32) (d1 : Int32) (d2 : Int32) (d3 : Int32) (he : el = (0 : Int32) ∨ el = (1 : Int32) ∨ el = (2 : Int32) ∨ el = (3 : Int32)) (hc1_2 : ¬ (ds = (0 : Int32))) : el = (0 : Int32) ∨ el = (1 : Int32) ∨ el = (2 : Int32) ∨ el = (3 : Int32) := he
theorem own_leaf_1_2_10_f (ds : Int32) (el : Int32) (d1 : Int32) (d2 : Int32) (d3 : Int32) (he : el = (0 : Int32) ∨ el = (1 : Int32) ∨ el = (2 : Int32) ∨ el = (3 : Int32)) (hc1_2 : ¬ (ds = (0 : Int32))) (hp7_he : el = (0 : Int32) ∨ el = (1 : Int32) ∨ el = (2 : Int32) ∨ el = (3 : Int32)) (r7 : Int32) (hr7 : r7 = (own_insub [(0 : Int32), d1, d2, d3] el (2 : Int32))) : (nar .boolean r7) = (own_wn [(0 : Int32), d1, d2, d3] ds el (2 : Int32)) := by rw [own_wn, if_neg hc1_2, hr7]; exact own_insub_b _ _ _
def Q1_2 (Z : State) (dr : Addr) (ds : Int32) (el : Int32) (jj : Int32) (d1 : Int32) (d2 : Int32) (d3 : Int32) (h0 : Heap) (n0 : Nat) (v : Option Value) (h : Heap) (L : List Loc) : Prop := v = some (.int (own_wn [(0 : Int32), d1, d2, d3] ds el jj)) ∧ Fr n0 L ∧ h = h0
set_option maxRecDepth 65536 in
set_option maxHeartbeats 40000000 in
theorem rm1_2 (l : Launch) (Z : State) (a0 : Array Value) (hw : ∀ d ∈ tables_1, d.before a0 Z = true) (ws : List Jvm.Cond) (dr : Addr) (ds : Int32) (el : Int32) (jj : Int32) (d1 : Int32) (d2 : Int32) (d3 : Int32) (h0 : Heap) (n0 : Nat) (Z0 : n0 ≤ h0.size) (I0 : own_ia Z h0 dr [(0 : Int32), d1, d2, d3]) (he : el = (0 : Int32) ∨ el = (1 : Int32) ∨ el = (2 : Int32) ∨ el = (3 : Int32)) (hlit_jj : jj = (2 : Int32)) :
    MetFree l (⟨"com/example/twigmeter/twigmeter/workload/ReachBelowPinLaw", "wanted", "([IZII)Z"⟩ : MethodName) (head1 (Jvm.Cond.code (⟨"com/example/twigmeter/twigmeter/workload/ReachBelowPinLaw", "wanted", "([IZII)Z"⟩ : MethodName) method_5_code 4 (some .boolean) :: ws) ({ frames := 1, cells := 0, slots := 0, locals := 14 } : Room)) (fun a U => a = #[(.ref dr), (.int ds), (.int el), (.int jj)] ∧ Z.Warmed39 U.vm ∧ U.heap = h0) (fun _ _ _ _ _ => True) (fun _ U o U' => ∃ v L, o = .returned v ∧ Q1_2 Z dr ds el jj d1 d2 d3 h0 n0 v U'.heap L ∧ FrameEnd U o U' L ({ frames := 1, cells := 0, slots := 0, locals := 14 } : Room).cells ({ frames := 1, cells := 0, slots := 0, locals := 14 } : Room).slots) := by
  refine MetFree.of_bodySF (plainFor_of_name pn_1) hisR ?_
  intro p e s m args below meth c s₁ Bd hml0 hP hK
  obtain ⟨rfl, hZ, hh⟩ := hP
  have hx := Bd.exec
  have hby := Bd.bytes
  have hml : c.maxLocals = 4 := hml0
  have hown : s.vm.findClass "com/example/twigmeter/twigmeter/workload/ReachBelowPinLaw" = some m.cls := findClass_of_methodNamed Bd.named
  have hnm := (name_of_methodNamed Bd.named Bd.method).1
  have X0 : Stand p l e ({ frames := 1, cells := 0, slots := 0, locals := 14 } : Room) s m #[(.ref dr), (.int ds), (.int el), (.int jj)] below meth c s₁ [] 0 0 := Stand.of_body Bd
  have e0 : s₁.heap = h0 := by rw [← hh, Bd.state]; rfl
  have N0 := Fr.nil n0
  have K0 : Keep h0 h0 [] := Keep.refl h0 _
  have pre0 : ∀ tq, Steps p.tables e below (s₁.setTop (mkF m 0 #[.val (.ref dr), .val (.int ds), .val (.int el), .val (.int jj)] [])) tq → Steps p.tables e below (s₁.setTop (entryFrame m #[(.ref dr), (.int ds), (.int el), (.int jj)] 4)) tq := fun tq kq => castTop (ef_1_2 m dr ds el jj) kq
  subst hlit_jj
  have pre1 : ∀ tq, Steps p.tables e below (s₁.setTop (mkF m 1 #[.val (.ref dr), .val (.int ds), .val (.int el), .val (.int (2 : Int32))] [(.int ds)])) tq → Steps p.tables e below (s₁.setTop (entryFrame m #[(.ref dr), (.int ds), (.int el), (.int (2 : Int32))] 4)) tq := by
    intro tq kt
    refine pre0 _ ?_
    show Steps p.tables e below (s₁.setTop (mkF m 0 #[.val (.ref dr), .val (.int ds), .val (.int el), .val (.int (2 : Int32))] [])) _
    refine XS.iloadN X0.here hx rfl (hb hby d1_0) rfl ?_
    show Steps p.tables e below (s₁.setTop (mkF m 1 #[.val (.ref dr), .val (.int ds), .val (.int el), .val (.int (2 : Int32))] [(.int ds)])) _
    exact kt
  by_cases hc1_2 : ds = (0 : Int32)
  · skip
    obtain ⟨_, _, ⟨T3, L3, k3, n3⟩, -, X3, ⟨Lc3, hQ3, l3, y3, z3⟩, st3⟩ := Jvm.LawKit.callS X0 hx (y := (⟨"com/example/twigmeter/twigmeter/workload/ReachBelowPinLaw", "parentOf", "([II)I"⟩ : MethodName)) hown (mvT hZ (hw _ (List.mem_of_getElem? (i := 200) rfl))) (mvT hZ (hw _ (List.mem_of_getElem? (i := 201) rfl))) (mvT hZ (hw _ (List.mem_of_getElem? (i := 5) rfl))) (mvT hZ (hw _ (List.mem_of_getElem? (i := 202) rfl))) (by decide) (backOf (W := 0) (rm29_2 l Z a0 hw [] dr (2 : Int32) d1 d2 d3 h0 n0 Z0 I0 rfl) hZ (hw _ (List.mem_of_getElem? (i := 202) rfl)) (hw _ (List.mem_of_getElem? (i := 5) rfl)) (by decide) (by decide)) (g := (mkF m 13 #[.val (.ref dr), .val (.int ds), .val (.int el), .val (.int (2 : Int32))] [(.int (2 : Int32)), (.ref dr)])) rfl (by rw [hml]; rfl) (argsL := [(.ref dr), (.int (2 : Int32))]) (rest := []) (lenOf pd_0 rfl) rfl (by show 2 * 0 + _ ≤ _; exact Nat.le_of_eq rfl) (hb hby d1_13) (fun _ _ => ⟨rfl, e0, (by decide : 0 + 0 ≤ _), (by decide : 0 + 0 ≤ _)⟩)
    dsimp only [Pt.U, Pt.locs, Pt.cells, Pt.slots] at X3 l3 y3 z3 st3 hQ3
    replace y3 : k3 = 0 := y3
    replace z3 : n3 = 0 := z3
    subst l3 y3 z3
    obtain ⟨rfl, N3q, e3⟩ := hQ3
    have N3 := Fr.app N0 N3q
    obtain ⟨r13, hr13⟩ : ∃ z_q : Int32, z_q = (own_par [(0 : Int32), d1, d2, d3] (2 : Int32)) := ⟨_, rfl⟩
    obtain ⟨m25, hm25⟩ : ∃ z_q : Int32, z_q = (if r13 = el then (1 : Int32) else (0 : Int32)) := ⟨_, rfl⟩
    have pre5 : ∀ tq, Steps p.tables e below (T3.setTop (mkF m 25 #[.val (.ref dr), .val (.int ds), .val (.int el), .val (.int (2 : Int32))] [(.int m25)])) tq → Steps p.tables e below (s₁.setTop (entryFrame m #[(.ref dr), (.int ds), (.int el), (.int (2 : Int32))] 4)) tq := by
      intro tq kt
      refine pre1 _ ?_
      show Steps p.tables e below (s₁.setTop (mkF m 1 #[.val (.ref dr), .val (.int ds), .val (.int el), .val (.int (2 : Int32))] [(.int ds)])) _
      refine XS.ifYes X0.here hx rfl (pc0 := 1) (pc' := 11) rfl (hb hby d1_1) rfl ((if0 _ _).trans (teq hc1_2).1) (by decide) (by decide) ?_
      refine XS.aloadN X0.here hx rfl (hb hby d1_11) rfl rfl ?_
      refine XS.iloadN X0.here hx rfl (hb hby d1_12) rfl ?_
      refine st3 _ ?_
      show Steps p.tables e below (T3.setTop (mkF m 16 #[.val (.ref dr), .val (.int ds), .val (.int el), .val (.int (2 : Int32))] [(.int (own_par [(0 : Int32), d1, d2, d3] (2 : Int32)))])) _
      rw [← hr13]
      show Steps p.tables e below (T3.setTop (mkF m 16 #[.val (.ref dr), .val (.int ds), .val (.int el), .val (.int (2 : Int32))] [(.int r13)])) _
      refine XS.iloadN X3.here hx rfl (hb hby d1_16) rfl ?_
      by_cases d4 : r13 = el
      · skip
        show Steps p.tables e below (T3.setTop (mkF m 17 #[.val (.ref dr), .val (.int ds), .val (.int el), .val (.int (2 : Int32))] [(.int el), (.int r13)])) _
        refine XS.icmpNo X3.here hx rfl (hb hby d1_17) rfl (teq d4).2 ?_
        refine XS.iconst X3.here hx rfl (hb hby d1_20) ?_
        refine XS.goto X3.here hx rfl (pc0 := 21) (pc' := 25) rfl (hb hby d1_21) (by decide) (by decide) ?_
        show Steps p.tables e below (T3.setTop (mkF m 25 #[.val (.ref dr), .val (.int ds), .val (.int el), .val (.int (2 : Int32))] [(.int (1 : Int32))])) _
        exact castTop (by simp only [hm25, if_pos d4]) kt
      · skip
        show Steps p.tables e below (T3.setTop (mkF m 17 #[.val (.ref dr), .val (.int ds), .val (.int el), .val (.int (2 : Int32))] [(.int el), (.int r13)])) _
        refine XS.icmpYes X3.here hx rfl (pc0 := 17) (pc' := 24) rfl (hb hby d1_17) rfl (feq d4).2 (by decide) (by decide) ?_
        refine XS.iconst X3.here hx rfl (hb hby d1_24) ?_
        show Steps p.tables e below (T3.setTop (mkF m 25 #[.val (.ref dr), .val (.int ds), .val (.int el), .val (.int (2 : Int32))] [(.int (0 : Int32))])) _
        exact castTop (by simp only [hm25, if_neg d4]) kt
    obtain ⟨fs, hr, hrun, hended, hW, hsame⟩ := X3.leave (v := some (Value.int (nar .boolean m25))) (fun h => by rw [Bd.returns] at h; cases h)
    have hres6 : (nar .boolean m25) = (own_wn [(0 : Int32), d1, d2, d3] ds el (2 : Int32)) := (own_leaf_1_2_25_t ds el d1 d2 d3 he hc1_2 r13 hr13 m25 hm25)
    refine ⟨_, _, pre5 _ ?_, hrun, hended, _, _, rfl, ?_, ⟨_, rfl⟩, hW, hsame.mono (by decide) (by decide)⟩
    · skip
      show Steps p.tables e below (T3.setTop (mkF m 25 #[.val (.ref dr), .val (.int ds), .val (.int el), .val (.int (2 : Int32))] [(.int m25)])) _
      exact retN X3 hx (t := .boolean) Bd.returns (by simp) (hb hby d1_25) hr
    · show Q1_2 Z dr ds el (2 : Int32) d1 d2 d3 h0 n0 _ T3.heap _
      rw [e3]
      exact ⟨congrArg (fun z => some (Value.int z)) hres6, N3, rfl⟩
  · skip
    have hp7_he : el = (0 : Int32) ∨ el = (1 : Int32) ∨ el = (2 : Int32) ∨ el = (3 : Int32) := (own_pre_1_2_7_he_f ds el d1 d2 d3 he hc1_2)
    obtain ⟨_, _, ⟨T7, L7, k7, n7⟩, -, X7, ⟨Lc7, hQ7, l7, y7, z7⟩, st7⟩ := Jvm.LawKit.callS X0 hx (y := (⟨"com/example/twigmeter/twigmeter/workload/ReachBelowPinLaw", "inSub", "([III)Z"⟩ : MethodName)) hown (mvT hZ (hw _ (List.mem_of_getElem? (i := 7) rfl))) (mvT hZ (hw _ (List.mem_of_getElem? (i := 8) rfl))) (mvT hZ (hw _ (List.mem_of_getElem? (i := 5) rfl))) (mvT hZ (hw _ (List.mem_of_getElem? (i := 9) rfl))) (by decide) (backOf (W := 0) (rm2_2 l Z a0 hw [] dr el (2 : Int32) d1 d2 d3 h0 n0 Z0 I0 hp7_he rfl) hZ (hw _ (List.mem_of_getElem? (i := 9) rfl)) (hw _ (List.mem_of_getElem? (i := 5) rfl)) (by decide) (by decide)) (g := (mkF m 7 #[.val (.ref dr), .val (.int ds), .val (.int el), .val (.int (2 : Int32))] [(.int (2 : Int32)), (.int el), (.ref dr)])) rfl (by rw [hml]; rfl) (argsL := [(.ref dr), (.int el), (.int (2 : Int32))]) (rest := []) (lenOf pd_1 rfl) rfl (by show 2 * 0 + _ ≤ _; exact Nat.le_of_eq rfl) (hb hby d1_7) (fun _ _ => ⟨rfl, e0, (by decide : 0 + 0 ≤ _), (by decide : 0 + 0 ≤ _)⟩)
    dsimp only [Pt.U, Pt.locs, Pt.cells, Pt.slots] at X7 l7 y7 z7 st7 hQ7
    replace y7 : k7 = 0 := y7
    replace z7 : n7 = 0 := z7
    subst l7 y7 z7
    obtain ⟨rfl, N7q, e7⟩ := hQ7
    have N7 := Fr.app N0 N7q
    obtain ⟨r7, hr7⟩ : ∃ z_q : Int32, z_q = (own_insub [(0 : Int32), d1, d2, d3] el (2 : Int32)) := ⟨_, rfl⟩
    obtain ⟨fs, hr, hrun, hended, hW, hsame⟩ := X7.leave (v := some (Value.int (nar .boolean r7))) (fun h => by rw [Bd.returns] at h; cases h)
    have hres8 : (nar .boolean r7) = (own_wn [(0 : Int32), d1, d2, d3] ds el (2 : Int32)) := (own_leaf_1_2_10_f ds el d1 d2 d3 he hc1_2 hp7_he r7 hr7)
    refine ⟨_, _, pre1 _ ?_, hrun, hended, _, _, rfl, ?_, ⟨_, rfl⟩, hW, hsame.mono (by decide) (by decide)⟩
    · skip
      show Steps p.tables e below (s₁.setTop (mkF m 1 #[.val (.ref dr), .val (.int ds), .val (.int el), .val (.int (2 : Int32))] [(.int ds)])) _
      refine XS.ifNo X0.here hx rfl (hb hby d1_1) rfl ((if0 _ _).trans (feq hc1_2).1) ?_
      refine XS.aloadN X0.here hx rfl (hb hby d1_4) rfl rfl ?_
      refine XS.iloadN X0.here hx rfl (hb hby d1_5) rfl ?_
      refine XS.iloadN X0.here hx rfl (hb hby d1_6) rfl ?_
      refine st7 _ ?_
      show Steps p.tables e below (T7.setTop (mkF m 10 #[.val (.ref dr), .val (.int ds), .val (.int el), .val (.int (2 : Int32))] [(.int (own_insub [(0 : Int32), d1, d2, d3] el (2 : Int32)))])) _
      rw [← hr7]
      show Steps p.tables e below (T7.setTop (mkF m 10 #[.val (.ref dr), .val (.int ds), .val (.int el), .val (.int (2 : Int32))] [(.int r7)])) _
      exact retN X7 hx (t := .boolean) Bd.returns (by simp) (hb hby d1_10) hr
    · show Q1_2 Z dr ds el (2 : Int32) d1 d2 d3 h0 n0 _ T7.heap _
      rw [e7]
      exact ⟨congrArg (fun z => some (Value.int z)) hres8, N7, rfl⟩
theorem ef_1_3 (m : MethodId) (x0 : Addr) (x1 : Int32) (x2 : Int32) (x3 : Int32) : entryFrame m #[(.ref x0), (.int x1), (.int x2), (.int x3)] 4 = mkF m 0 #[.val (.ref x0), .val (.int x1), .val (.int x2), .val (.int x3)] [] := by first | (simp [entryFrame, mkF, argsToLocals, Value.category]; done) | rfl
theorem own_leaf_1_3_25_t (ds : Int32) (el : Int32) (d1 : Int32) (d2 : Int32) (d3 : Int32) (he : el = (0 : Int32) ∨ el = (1 : Int32) ∨ el = (2 : Int32) ∨ el = (3 : Int32)) (hc1_2 : ds = (0 : Int32)) (r13 : Int32) (hr13 : r13 = (own_par [(0 : Int32), d1, d2, d3] (3 : Int32))) (m25 : Int32) (hm25 : m25 = (if r13 = el then (1 : Int32) else (0 : Int32))) : (nar .boolean m25) = (own_wn [(0 : Int32), d1, d2, d3] ds el (3 : Int32)) := by rw [own_wn, if_pos hc1_2]; subst_vars; split <;> rfl
theorem own_pre_1_3_7_he_f (ds : Int32) (el : Int32) (d1 : Int32) (d2 : Int32) (d3 : Int32) (he : el = (0 : Int32) ∨ el = (1 : Int32) ∨ el = (2 : Int32) ∨ el = (3 : Int32)) (hc1_2 : ¬ (ds = (0 : Int32))) : el = (0 : Int32) ∨ el = (1 : Int32) ∨ el = (2 : Int32) ∨ el = (3 : Int32) := he
theorem own_leaf_1_3_10_f (ds : Int32) (el : Int32) (d1 : Int32) (d2 : Int32) (d3 : Int32) (he : el = (0 : Int32) ∨ el = (1 : Int32) ∨ el = (2 : Int32) ∨ el = (3 : Int32)) (hc1_2 : ¬ (ds = (0 : Int32))) (hp7_he : el = (0 : Int32) ∨ el = (1 : Int32) ∨ el = (2 : Int32) ∨ el = (3 : Int32)) (r7 : Int32) (hr7 : r7 = (own_insub [(0 : Int32), d1, d2, d3] el (3 : Int32))) : (nar .boolean r7) = (own_wn [(0 : Int32), d1, d2, d3] ds el (3 : Int32)) := by rw [own_wn, if_neg hc1_2, hr7]; exact own_insub_b _ _ _
def Q1_3 (Z : State) (dr : Addr) (ds : Int32) (el : Int32) (jj : Int32) (d1 : Int32) (d2 : Int32) (d3 : Int32) (h0 : Heap) (n0 : Nat) (v : Option Value) (h : Heap) (L : List Loc) : Prop := v = some (.int (own_wn [(0 : Int32), d1, d2, d3] ds el jj)) ∧ Fr n0 L ∧ h = h0
set_option maxRecDepth 65536 in
set_option maxHeartbeats 40000000 in
theorem rm1_3 (l : Launch) (Z : State) (a0 : Array Value) (hw : ∀ d ∈ tables_1, d.before a0 Z = true) (ws : List Jvm.Cond) (dr : Addr) (ds : Int32) (el : Int32) (jj : Int32) (d1 : Int32) (d2 : Int32) (d3 : Int32) (h0 : Heap) (n0 : Nat) (Z0 : n0 ≤ h0.size) (I0 : own_ia Z h0 dr [(0 : Int32), d1, d2, d3]) (he : el = (0 : Int32) ∨ el = (1 : Int32) ∨ el = (2 : Int32) ∨ el = (3 : Int32)) (hlit_jj : jj = (3 : Int32)) :
    MetFree l (⟨"com/example/twigmeter/twigmeter/workload/ReachBelowPinLaw", "wanted", "([IZII)Z"⟩ : MethodName) (head1 (Jvm.Cond.code (⟨"com/example/twigmeter/twigmeter/workload/ReachBelowPinLaw", "wanted", "([IZII)Z"⟩ : MethodName) method_5_code 4 (some .boolean) :: ws) ({ frames := 1, cells := 0, slots := 0, locals := 14 } : Room)) (fun a U => a = #[(.ref dr), (.int ds), (.int el), (.int jj)] ∧ Z.Warmed39 U.vm ∧ U.heap = h0) (fun _ _ _ _ _ => True) (fun _ U o U' => ∃ v L, o = .returned v ∧ Q1_3 Z dr ds el jj d1 d2 d3 h0 n0 v U'.heap L ∧ FrameEnd U o U' L ({ frames := 1, cells := 0, slots := 0, locals := 14 } : Room).cells ({ frames := 1, cells := 0, slots := 0, locals := 14 } : Room).slots) := by
  refine MetFree.of_bodySF (plainFor_of_name pn_1) hisR ?_
  intro p e s m args below meth c s₁ Bd hml0 hP hK
  obtain ⟨rfl, hZ, hh⟩ := hP
  have hx := Bd.exec
  have hby := Bd.bytes
  have hml : c.maxLocals = 4 := hml0
  have hown : s.vm.findClass "com/example/twigmeter/twigmeter/workload/ReachBelowPinLaw" = some m.cls := findClass_of_methodNamed Bd.named
  have hnm := (name_of_methodNamed Bd.named Bd.method).1
  have X0 : Stand p l e ({ frames := 1, cells := 0, slots := 0, locals := 14 } : Room) s m #[(.ref dr), (.int ds), (.int el), (.int jj)] below meth c s₁ [] 0 0 := Stand.of_body Bd
  have e0 : s₁.heap = h0 := by rw [← hh, Bd.state]; rfl
  have N0 := Fr.nil n0
  have K0 : Keep h0 h0 [] := Keep.refl h0 _
  have pre0 : ∀ tq, Steps p.tables e below (s₁.setTop (mkF m 0 #[.val (.ref dr), .val (.int ds), .val (.int el), .val (.int jj)] [])) tq → Steps p.tables e below (s₁.setTop (entryFrame m #[(.ref dr), (.int ds), (.int el), (.int jj)] 4)) tq := fun tq kq => castTop (ef_1_3 m dr ds el jj) kq
  subst hlit_jj
  have pre1 : ∀ tq, Steps p.tables e below (s₁.setTop (mkF m 1 #[.val (.ref dr), .val (.int ds), .val (.int el), .val (.int (3 : Int32))] [(.int ds)])) tq → Steps p.tables e below (s₁.setTop (entryFrame m #[(.ref dr), (.int ds), (.int el), (.int (3 : Int32))] 4)) tq := by
    intro tq kt
    refine pre0 _ ?_
    show Steps p.tables e below (s₁.setTop (mkF m 0 #[.val (.ref dr), .val (.int ds), .val (.int el), .val (.int (3 : Int32))] [])) _
    refine XS.iloadN X0.here hx rfl (hb hby d1_0) rfl ?_
    show Steps p.tables e below (s₁.setTop (mkF m 1 #[.val (.ref dr), .val (.int ds), .val (.int el), .val (.int (3 : Int32))] [(.int ds)])) _
    exact kt
  by_cases hc1_2 : ds = (0 : Int32)
  · skip
    obtain ⟨_, _, ⟨T3, L3, k3, n3⟩, -, X3, ⟨Lc3, hQ3, l3, y3, z3⟩, st3⟩ := Jvm.LawKit.callS X0 hx (y := (⟨"com/example/twigmeter/twigmeter/workload/ReachBelowPinLaw", "parentOf", "([II)I"⟩ : MethodName)) hown (mvT hZ (hw _ (List.mem_of_getElem? (i := 200) rfl))) (mvT hZ (hw _ (List.mem_of_getElem? (i := 201) rfl))) (mvT hZ (hw _ (List.mem_of_getElem? (i := 5) rfl))) (mvT hZ (hw _ (List.mem_of_getElem? (i := 202) rfl))) (by decide) (backOf (W := 0) (rm29_3 l Z a0 hw [] dr (3 : Int32) d1 d2 d3 h0 n0 Z0 I0 rfl) hZ (hw _ (List.mem_of_getElem? (i := 202) rfl)) (hw _ (List.mem_of_getElem? (i := 5) rfl)) (by decide) (by decide)) (g := (mkF m 13 #[.val (.ref dr), .val (.int ds), .val (.int el), .val (.int (3 : Int32))] [(.int (3 : Int32)), (.ref dr)])) rfl (by rw [hml]; rfl) (argsL := [(.ref dr), (.int (3 : Int32))]) (rest := []) (lenOf pd_0 rfl) rfl (by show 2 * 0 + _ ≤ _; exact Nat.le_of_eq rfl) (hb hby d1_13) (fun _ _ => ⟨rfl, e0, (by decide : 0 + 0 ≤ _), (by decide : 0 + 0 ≤ _)⟩)
    dsimp only [Pt.U, Pt.locs, Pt.cells, Pt.slots] at X3 l3 y3 z3 st3 hQ3
    replace y3 : k3 = 0 := y3
    replace z3 : n3 = 0 := z3
    subst l3 y3 z3
    obtain ⟨rfl, N3q, e3⟩ := hQ3
    have N3 := Fr.app N0 N3q
    obtain ⟨r13, hr13⟩ : ∃ z_q : Int32, z_q = (own_par [(0 : Int32), d1, d2, d3] (3 : Int32)) := ⟨_, rfl⟩
    obtain ⟨m25, hm25⟩ : ∃ z_q : Int32, z_q = (if r13 = el then (1 : Int32) else (0 : Int32)) := ⟨_, rfl⟩
    have pre5 : ∀ tq, Steps p.tables e below (T3.setTop (mkF m 25 #[.val (.ref dr), .val (.int ds), .val (.int el), .val (.int (3 : Int32))] [(.int m25)])) tq → Steps p.tables e below (s₁.setTop (entryFrame m #[(.ref dr), (.int ds), (.int el), (.int (3 : Int32))] 4)) tq := by
      intro tq kt
      refine pre1 _ ?_
      show Steps p.tables e below (s₁.setTop (mkF m 1 #[.val (.ref dr), .val (.int ds), .val (.int el), .val (.int (3 : Int32))] [(.int ds)])) _
      refine XS.ifYes X0.here hx rfl (pc0 := 1) (pc' := 11) rfl (hb hby d1_1) rfl ((if0 _ _).trans (teq hc1_2).1) (by decide) (by decide) ?_
      refine XS.aloadN X0.here hx rfl (hb hby d1_11) rfl rfl ?_
      refine XS.iloadN X0.here hx rfl (hb hby d1_12) rfl ?_
      refine st3 _ ?_
      show Steps p.tables e below (T3.setTop (mkF m 16 #[.val (.ref dr), .val (.int ds), .val (.int el), .val (.int (3 : Int32))] [(.int (own_par [(0 : Int32), d1, d2, d3] (3 : Int32)))])) _
      rw [← hr13]
      show Steps p.tables e below (T3.setTop (mkF m 16 #[.val (.ref dr), .val (.int ds), .val (.int el), .val (.int (3 : Int32))] [(.int r13)])) _
      refine XS.iloadN X3.here hx rfl (hb hby d1_16) rfl ?_
      by_cases d4 : r13 = el
      · skip
        show Steps p.tables e below (T3.setTop (mkF m 17 #[.val (.ref dr), .val (.int ds), .val (.int el), .val (.int (3 : Int32))] [(.int el), (.int r13)])) _
        refine XS.icmpNo X3.here hx rfl (hb hby d1_17) rfl (teq d4).2 ?_
        refine XS.iconst X3.here hx rfl (hb hby d1_20) ?_
        refine XS.goto X3.here hx rfl (pc0 := 21) (pc' := 25) rfl (hb hby d1_21) (by decide) (by decide) ?_
        show Steps p.tables e below (T3.setTop (mkF m 25 #[.val (.ref dr), .val (.int ds), .val (.int el), .val (.int (3 : Int32))] [(.int (1 : Int32))])) _
        exact castTop (by simp only [hm25, if_pos d4]) kt
      · skip
        show Steps p.tables e below (T3.setTop (mkF m 17 #[.val (.ref dr), .val (.int ds), .val (.int el), .val (.int (3 : Int32))] [(.int el), (.int r13)])) _
        refine XS.icmpYes X3.here hx rfl (pc0 := 17) (pc' := 24) rfl (hb hby d1_17) rfl (feq d4).2 (by decide) (by decide) ?_
        refine XS.iconst X3.here hx rfl (hb hby d1_24) ?_
        show Steps p.tables e below (T3.setTop (mkF m 25 #[.val (.ref dr), .val (.int ds), .val (.int el), .val (.int (3 : Int32))] [(.int (0 : Int32))])) _
        exact castTop (by simp only [hm25, if_neg d4]) kt
    obtain ⟨fs, hr, hrun, hended, hW, hsame⟩ := X3.leave (v := some (Value.int (nar .boolean m25))) (fun h => by rw [Bd.returns] at h; cases h)
    have hres6 : (nar .boolean m25) = (own_wn [(0 : Int32), d1, d2, d3] ds el (3 : Int32)) := (own_leaf_1_3_25_t ds el d1 d2 d3 he hc1_2 r13 hr13 m25 hm25)
    refine ⟨_, _, pre5 _ ?_, hrun, hended, _, _, rfl, ?_, ⟨_, rfl⟩, hW, hsame.mono (by decide) (by decide)⟩
    · skip
      show Steps p.tables e below (T3.setTop (mkF m 25 #[.val (.ref dr), .val (.int ds), .val (.int el), .val (.int (3 : Int32))] [(.int m25)])) _
      exact retN X3 hx (t := .boolean) Bd.returns (by simp) (hb hby d1_25) hr
    · show Q1_3 Z dr ds el (3 : Int32) d1 d2 d3 h0 n0 _ T3.heap _
      rw [e3]
      exact ⟨congrArg (fun z => some (Value.int z)) hres6, N3, rfl⟩
  · skip
    have hp7_he : el = (0 : Int32) ∨ el = (1 : Int32) ∨ el = (2 : Int32) ∨ el = (3 : Int32) := (own_pre_1_3_7_he_f ds el d1 d2 d3 he hc1_2)
    obtain ⟨_, _, ⟨T7, L7, k7, n7⟩, -, X7, ⟨Lc7, hQ7, l7, y7, z7⟩, st7⟩ := Jvm.LawKit.callS X0 hx (y := (⟨"com/example/twigmeter/twigmeter/workload/ReachBelowPinLaw", "inSub", "([III)Z"⟩ : MethodName)) hown (mvT hZ (hw _ (List.mem_of_getElem? (i := 7) rfl))) (mvT hZ (hw _ (List.mem_of_getElem? (i := 8) rfl))) (mvT hZ (hw _ (List.mem_of_getElem? (i := 5) rfl))) (mvT hZ (hw _ (List.mem_of_getElem? (i := 9) rfl))) (by decide) (backOf (W := 0) (rm2_3 l Z a0 hw [] dr el (3 : Int32) d1 d2 d3 h0 n0 Z0 I0 hp7_he rfl) hZ (hw _ (List.mem_of_getElem? (i := 9) rfl)) (hw _ (List.mem_of_getElem? (i := 5) rfl)) (by decide) (by decide)) (g := (mkF m 7 #[.val (.ref dr), .val (.int ds), .val (.int el), .val (.int (3 : Int32))] [(.int (3 : Int32)), (.int el), (.ref dr)])) rfl (by rw [hml]; rfl) (argsL := [(.ref dr), (.int el), (.int (3 : Int32))]) (rest := []) (lenOf pd_1 rfl) rfl (by show 2 * 0 + _ ≤ _; exact Nat.le_of_eq rfl) (hb hby d1_7) (fun _ _ => ⟨rfl, e0, (by decide : 0 + 0 ≤ _), (by decide : 0 + 0 ≤ _)⟩)
    dsimp only [Pt.U, Pt.locs, Pt.cells, Pt.slots] at X7 l7 y7 z7 st7 hQ7
    replace y7 : k7 = 0 := y7
    replace z7 : n7 = 0 := z7
    subst l7 y7 z7
    obtain ⟨rfl, N7q, e7⟩ := hQ7
    have N7 := Fr.app N0 N7q
    obtain ⟨r7, hr7⟩ : ∃ z_q : Int32, z_q = (own_insub [(0 : Int32), d1, d2, d3] el (3 : Int32)) := ⟨_, rfl⟩
    obtain ⟨fs, hr, hrun, hended, hW, hsame⟩ := X7.leave (v := some (Value.int (nar .boolean r7))) (fun h => by rw [Bd.returns] at h; cases h)
    have hres8 : (nar .boolean r7) = (own_wn [(0 : Int32), d1, d2, d3] ds el (3 : Int32)) := (own_leaf_1_3_10_f ds el d1 d2 d3 he hc1_2 hp7_he r7 hr7)
    refine ⟨_, _, pre1 _ ?_, hrun, hended, _, _, rfl, ?_, ⟨_, rfl⟩, hW, hsame.mono (by decide) (by decide)⟩
    · skip
      show Steps p.tables e below (s₁.setTop (mkF m 1 #[.val (.ref dr), .val (.int ds), .val (.int el), .val (.int (3 : Int32))] [(.int ds)])) _
      refine XS.ifNo X0.here hx rfl (hb hby d1_1) rfl ((if0 _ _).trans (feq hc1_2).1) ?_
      refine XS.aloadN X0.here hx rfl (hb hby d1_4) rfl rfl ?_
      refine XS.iloadN X0.here hx rfl (hb hby d1_5) rfl ?_
      refine XS.iloadN X0.here hx rfl (hb hby d1_6) rfl ?_
      refine st7 _ ?_
      show Steps p.tables e below (T7.setTop (mkF m 10 #[.val (.ref dr), .val (.int ds), .val (.int el), .val (.int (3 : Int32))] [(.int (own_insub [(0 : Int32), d1, d2, d3] el (3 : Int32)))])) _
      rw [← hr7]
      show Steps p.tables e below (T7.setTop (mkF m 10 #[.val (.ref dr), .val (.int ds), .val (.int el), .val (.int (3 : Int32))] [(.int r7)])) _
      exact retN X7 hx (t := .boolean) Bd.returns (by simp) (hb hby d1_10) hr
    · show Q1_3 Z dr ds el (3 : Int32) d1 d2 d3 h0 n0 _ T7.heap _
      rw [e7]
      exact ⟨congrArg (fun z => some (Value.int z)) hres8, N7, rfl⟩
theorem d3_0 : decode method_8_code 0 = .ok (.iconst 0, 1) := by decide +kernel
theorem d3_1 : decode method_8_code 1 = .ok (.istore_n 2, 1) := by decide +kernel
theorem d3_2 : decode method_8_code 2 = .ok (.iconst (-1), 1) := by decide +kernel
theorem d3_3 : decode method_8_code 3 = .ok (.istore_n 3, 1) := by decide +kernel
theorem d3_4 : decode method_8_code 4 = .ok (.aload_n 0, 1) := by decide +kernel
theorem d3_5 : decode method_8_code 5 = .ok (.iconst 0, 1) := by decide +kernel
theorem d3_6 : decode method_8_code 6 = .ok (.baload, 1) := by decide +kernel
theorem d3_7 : decode method_8_code 7 = .ok (.ifCond .eq 13, 3) := by decide +kernel
theorem d3_10 : decode method_8_code 10 = .ok (.iload_n 2, 1) := by decide +kernel
theorem d3_11 : decode method_8_code 11 = .ok (.iload_n 1, 1) := by decide +kernel
theorem d3_12 : decode method_8_code 12 = .ok (.if_icmp .ne 5, 3) := by decide +kernel
theorem d3_15 : decode method_8_code 15 = .ok (.iconst 0, 1) := by decide +kernel
theorem d3_16 : decode method_8_code 16 = .ok (.istore_n 3, 1) := by decide +kernel
theorem d3_17 : decode method_8_code 17 = .ok (.iinc 2 1, 3) := by decide +kernel
theorem d3_20 : decode method_8_code 20 = .ok (.aload_n 0, 1) := by decide +kernel
theorem d3_21 : decode method_8_code 21 = .ok (.iconst 1, 1) := by decide +kernel
theorem d3_22 : decode method_8_code 22 = .ok (.baload, 1) := by decide +kernel
theorem d3_23 : decode method_8_code 23 = .ok (.ifCond .eq 13, 3) := by decide +kernel
theorem d3_26 : decode method_8_code 26 = .ok (.iload_n 2, 1) := by decide +kernel
theorem d3_27 : decode method_8_code 27 = .ok (.iload_n 1, 1) := by decide +kernel
theorem d3_28 : decode method_8_code 28 = .ok (.if_icmp .ne 5, 3) := by decide +kernel
theorem d3_31 : decode method_8_code 31 = .ok (.iconst 1, 1) := by decide +kernel
theorem d3_32 : decode method_8_code 32 = .ok (.istore_n 3, 1) := by decide +kernel
theorem d3_33 : decode method_8_code 33 = .ok (.iinc 2 1, 3) := by decide +kernel
theorem d3_36 : decode method_8_code 36 = .ok (.aload_n 0, 1) := by decide +kernel
theorem d3_37 : decode method_8_code 37 = .ok (.iconst 2, 1) := by decide +kernel
theorem d3_38 : decode method_8_code 38 = .ok (.baload, 1) := by decide +kernel
theorem d3_39 : decode method_8_code 39 = .ok (.ifCond .eq 13, 3) := by decide +kernel
theorem d3_42 : decode method_8_code 42 = .ok (.iload_n 2, 1) := by decide +kernel
theorem d3_43 : decode method_8_code 43 = .ok (.iload_n 1, 1) := by decide +kernel
theorem d3_44 : decode method_8_code 44 = .ok (.if_icmp .ne 5, 3) := by decide +kernel
theorem d3_47 : decode method_8_code 47 = .ok (.iconst 2, 1) := by decide +kernel
theorem d3_48 : decode method_8_code 48 = .ok (.istore_n 3, 1) := by decide +kernel
theorem d3_49 : decode method_8_code 49 = .ok (.iinc 2 1, 3) := by decide +kernel
theorem d3_52 : decode method_8_code 52 = .ok (.aload_n 0, 1) := by decide +kernel
theorem d3_53 : decode method_8_code 53 = .ok (.iconst 3, 1) := by decide +kernel
theorem d3_54 : decode method_8_code 54 = .ok (.baload, 1) := by decide +kernel
theorem d3_55 : decode method_8_code 55 = .ok (.ifCond .eq 13, 3) := by decide +kernel
theorem d3_58 : decode method_8_code 58 = .ok (.iload_n 2, 1) := by decide +kernel
theorem d3_59 : decode method_8_code 59 = .ok (.iload_n 1, 1) := by decide +kernel
theorem d3_60 : decode method_8_code 60 = .ok (.if_icmp .ne 5, 3) := by decide +kernel
theorem d3_63 : decode method_8_code 63 = .ok (.iconst 3, 1) := by decide +kernel
theorem d3_64 : decode method_8_code 64 = .ok (.istore_n 3, 1) := by decide +kernel
theorem d3_65 : decode method_8_code 65 = .ok (.iinc 2 1, 3) := by decide +kernel
theorem d3_68 : decode method_8_code 68 = .ok (.iload_n 3, 1) := by decide +kernel
theorem d3_69 : decode method_8_code 69 = .ok (.ireturn, 1) := by decide +kernel
theorem pn_3 : plainName "com/example/twigmeter/twigmeter/workload/ReachBelowPinLaw" = true := by first | (simp [plainName, overriddenIn]; done) | decide +kernel
theorem ef_3 (m : MethodId) (x0 : Addr) (x1 : Int32) : entryFrame m #[(.ref x0), (.int x1)] 4 = mkF m 0 #[.val (.ref x0), .val (.int x1), .unset, .unset] [] := by first | (simp [entryFrame, mkF, argsToLocals, Value.category]; done) | rfl
def own_f3 (pl : Int32) (bq0 : Int32) (bq1 : Int32) (bq2 : Int32) (bq3 : Int32) : Int32 := (if bq3 = (0 : Int32) then (if bq2 = (0 : Int32) then (if bq1 = (0 : Int32) then (if bq0 = (0 : Int32) then (-1 : Int32) else (if (0 : Int32) = pl then (0 : Int32) else (-1 : Int32))) else (if (if bq0 = (0 : Int32) then (0 : Int32) else (1 : Int32)) = pl then (1 : Int32) else (if bq0 = (0 : Int32) then (-1 : Int32) else (if (0 : Int32) = pl then (0 : Int32) else (-1 : Int32))))) else (if (if bq1 = (0 : Int32) then (if bq0 = (0 : Int32) then (0 : Int32) else (1 : Int32)) else ((if bq0 = (0 : Int32) then (0 : Int32) else (1 : Int32)) + (1 : Int32))) = pl then (2 : Int32) else (if bq1 = (0 : Int32) then (if bq0 = (0 : Int32) then (-1 : Int32) else (if (0 : Int32) = pl then (0 : Int32) else (-1 : Int32))) else (if (if bq0 = (0 : Int32) then (0 : Int32) else (1 : Int32)) = pl then (1 : Int32) else (if bq0 = (0 : Int32) then (-1 : Int32) else (if (0 : Int32) = pl then (0 : Int32) else (-1 : Int32))))))) else (if (if bq2 = (0 : Int32) then (if bq1 = (0 : Int32) then (if bq0 = (0 : Int32) then (0 : Int32) else (1 : Int32)) else ((if bq0 = (0 : Int32) then (0 : Int32) else (1 : Int32)) + (1 : Int32))) else ((if bq1 = (0 : Int32) then (if bq0 = (0 : Int32) then (0 : Int32) else (1 : Int32)) else ((if bq0 = (0 : Int32) then (0 : Int32) else (1 : Int32)) + (1 : Int32))) + (1 : Int32))) = pl then (3 : Int32) else (if bq2 = (0 : Int32) then (if bq1 = (0 : Int32) then (if bq0 = (0 : Int32) then (-1 : Int32) else (if (0 : Int32) = pl then (0 : Int32) else (-1 : Int32))) else (if (if bq0 = (0 : Int32) then (0 : Int32) else (1 : Int32)) = pl then (1 : Int32) else (if bq0 = (0 : Int32) then (-1 : Int32) else (if (0 : Int32) = pl then (0 : Int32) else (-1 : Int32))))) else (if (if bq1 = (0 : Int32) then (if bq0 = (0 : Int32) then (0 : Int32) else (1 : Int32)) else ((if bq0 = (0 : Int32) then (0 : Int32) else (1 : Int32)) + (1 : Int32))) = pl then (2 : Int32) else (if bq1 = (0 : Int32) then (if bq0 = (0 : Int32) then (-1 : Int32) else (if (0 : Int32) = pl then (0 : Int32) else (-1 : Int32))) else (if (if bq0 = (0 : Int32) then (0 : Int32) else (1 : Int32)) = pl then (1 : Int32) else (if bq0 = (0 : Int32) then (-1 : Int32) else (if (0 : Int32) = pl then (0 : Int32) else (-1 : Int32)))))))))
def Q3 (Z : State) (qr : Addr) (pl : Int32) (bq0 : Int32) (bq1 : Int32) (bq2 : Int32) (bq3 : Int32) (kc : ClassId) (h0 : Heap) (n0 : Nat) (v : Option Value) (h : Heap) (L : List Loc) : Prop := v = some (.int (own_f3 pl bq0 bq1 bq2 bq3)) ∧ Fr n0 L ∧ h = h0
set_option maxRecDepth 65536 in
set_option maxHeartbeats 40000000 in
theorem rm3 (l : Launch) (Z : State) (a0 : Array Value) (hw : ∀ d ∈ tables_1, d.before a0 Z = true) (ws : List Jvm.Cond) (qr : Addr) (pl : Int32) (bq0 : Int32) (bq1 : Int32) (bq2 : Int32) (bq3 : Int32) (kc : ClassId) (h0 : Heap) (n0 : Nat) (Z0 : n0 ≤ h0.size) (I0 : Arv Z h0 qr kc .boolean (4 : Int32) [(.int bq0), (.int bq1), (.int bq2), (.int bq3)] (.int (0 : Int32))) :
    MetFree l (⟨"com/example/twigmeter/twigmeter/workload/ReachBelowPinLaw", "kth", "([ZI)I"⟩ : MethodName) (head1 (Jvm.Cond.code (⟨"com/example/twigmeter/twigmeter/workload/ReachBelowPinLaw", "kth", "([ZI)I"⟩ : MethodName) method_8_code 4 (some .int) :: ws) ({ frames := 0, cells := 0, slots := 0, locals := 0 } : Room)) (fun a U => a = #[(.ref qr), (.int pl)] ∧ Z.Warmed39 U.vm ∧ U.heap = h0) (fun _ _ _ _ _ => True) (fun _ U o U' => ∃ v L, o = .returned v ∧ Q3 Z qr pl bq0 bq1 bq2 bq3 kc h0 n0 v U'.heap L ∧ FrameEnd U o U' L ({ frames := 0, cells := 0, slots := 0, locals := 0 } : Room).cells ({ frames := 0, cells := 0, slots := 0, locals := 0 } : Room).slots) := by
  refine MetFree.of_bodySF (plainFor_of_name pn_3) hisR ?_
  intro p e s m args below meth c s₁ Bd hml0 hP hK
  obtain ⟨rfl, hZ, hh⟩ := hP
  have hx := Bd.exec
  have hby := Bd.bytes
  have hml : c.maxLocals = 4 := hml0
  have hown : s.vm.findClass "com/example/twigmeter/twigmeter/workload/ReachBelowPinLaw" = some m.cls := findClass_of_methodNamed Bd.named
  have hnm := (name_of_methodNamed Bd.named Bd.method).1
  have X0 : Stand p l e ({ frames := 0, cells := 0, slots := 0, locals := 0 } : Room) s m #[(.ref qr), (.int pl)] below meth c s₁ [] 0 0 := Stand.of_body Bd
  have e0 : s₁.heap = h0 := by rw [← hh, Bd.state]; rfl
  have N0 := Fr.nil n0
  have K0 : Keep h0 h0 [] := Keep.refl h0 _
  have pre0 : ∀ tq, Steps p.tables e below (s₁.setTop (mkF m 0 #[.val (.ref qr), .val (.int pl), .unset, .unset] [])) tq → Steps p.tables e below (s₁.setTop (entryFrame m #[(.ref qr), (.int pl)] 4)) tq := fun tq kq => castTop (ef_3 m qr pl) kq
  obtain ⟨cl1, Ar1, q1, S1, M1, H1, G1⟩ := id I0
  have hin1 : ¬ ((0 : Int32) < 0 ∨ cl1.slots.size ≤ ((0 : Int32)).toNatClampNeg) := inb_of S1 ⟨by decide, by decide⟩
  have hat1 : cl1.slots[((0 : Int32)).toNatClampNeg]? = some (.int bq0) := Has.at H1 hin1 rfl
  obtain ⟨m20_l2, hm20_l2⟩ : ∃ z_q : Int32, z_q = (if bq0 = (0 : Int32) then (0 : Int32) else (1 : Int32)) := ⟨_, rfl⟩
  obtain ⟨m20_l3, hm20_l3⟩ : ∃ z_q : Int32, z_q = (if bq0 = (0 : Int32) then (-1 : Int32) else (if (0 : Int32) = pl then (0 : Int32) else (-1 : Int32))) := ⟨_, rfl⟩
  have pre4 : ∀ tq, Steps p.tables e below (s₁.setTop (mkF m 20 #[.val (.ref qr), .val (.int pl), .val (.int m20_l2), .val (.int m20_l3)] [])) tq → Steps p.tables e below (s₁.setTop (entryFrame m #[(.ref qr), (.int pl)] 4)) tq := by
    intro tq kt
    refine pre0 _ ?_
    show Steps p.tables e below (s₁.setTop (mkF m 0 #[.val (.ref qr), .val (.int pl), .unset, .unset] [])) _
    refine XS.iconst X0.here hx rfl (hb hby d3_0) ?_
    refine XS.istoreN X0.here hx rfl (hb hby d3_1) rfl (l' := #[.val (.ref qr), .val (.int pl), .val (.int (0 : Int32)), .unset]) rfl ?_
    refine XS.iconst X0.here hx rfl (hb hby d3_2) ?_
    refine XS.istoreN X0.here hx rfl (hb hby d3_3) rfl (l' := #[.val (.ref qr), .val (.int pl), .val (.int (0 : Int32)), .val (.int (-1 : Int32))]) rfl ?_
    refine XS.aloadN X0.here hx rfl (hb hby d3_4) rfl rfl ?_
    refine XS.iconst X0.here hx rfl (hb hby d3_5) ?_
    show Steps p.tables e below (s₁.setTop (mkF m 6 #[.val (.ref qr), .val (.int pl), .val (.int (0 : Int32)), .val (.int (-1 : Int32))] [(.int (0 : Int32)), (.ref qr)])) _
    refine X0.baloadBooleans hx (j := (0 : Int32)) (v := (.int bq0)) (heq_of e0 Ar1.1) (State.isArrayOf_alike hZ.alike Ar1.2.1) Ar1.2.2 hin1 hat1 (g := (mkF m 6 #[.val (.ref qr), .val (.int pl), .val (.int (0 : Int32)), .val (.int (-1 : Int32))] [(.int (0 : Int32)), (.ref qr)])) rfl rfl (hb hby d3_6) _ ?_
    by_cases d2 : bq0 = (0 : Int32)
    · skip
      show Steps p.tables e below (s₁.setTop (mkF m 7 #[.val (.ref qr), .val (.int pl), .val (.int (0 : Int32)), .val (.int (-1 : Int32))] [(.int bq0)])) _
      refine XS.ifYes X0.here hx rfl (pc0 := 7) (pc' := 20) rfl (hb hby d3_7) rfl ((if0 _ _).trans (teq d2).1) (by decide) (by decide) ?_
      show Steps p.tables e below (s₁.setTop (mkF m 20 #[.val (.ref qr), .val (.int pl), .val (.int (0 : Int32)), .val (.int (-1 : Int32))] [])) _
      exact castTop (by simp only [hm20_l2, hm20_l3, if_pos d2]) kt
    · skip
      show Steps p.tables e below (s₁.setTop (mkF m 7 #[.val (.ref qr), .val (.int pl), .val (.int (0 : Int32)), .val (.int (-1 : Int32))] [(.int bq0)])) _
      refine XS.ifNo X0.here hx rfl (hb hby d3_7) rfl ((if0 _ _).trans (feq d2).1) ?_
      refine XS.iloadN X0.here hx rfl (hb hby d3_10) rfl ?_
      refine XS.iloadN X0.here hx rfl (hb hby d3_11) rfl ?_
      by_cases d3 : (0 : Int32) = pl
      · skip
        show Steps p.tables e below (s₁.setTop (mkF m 12 #[.val (.ref qr), .val (.int pl), .val (.int (0 : Int32)), .val (.int (-1 : Int32))] [(.int pl), (.int (0 : Int32))])) _
        refine XS.icmpNo X0.here hx rfl (hb hby d3_12) rfl (teq d3).2 ?_
        refine XS.iconst X0.here hx rfl (hb hby d3_15) ?_
        refine XS.istoreN X0.here hx rfl (hb hby d3_16) rfl (l' := #[.val (.ref qr), .val (.int pl), .val (.int (0 : Int32)), .val (.int (0 : Int32))]) rfl ?_
        refine XS.iinc X0.here hx rfl (hb hby d3_17) rfl (l' := #[.val (.ref qr), .val (.int pl), .val (.int (1 : Int32)), .val (.int (0 : Int32))]) rfl ?_
        show Steps p.tables e below (s₁.setTop (mkF m 20 #[.val (.ref qr), .val (.int pl), .val (.int (1 : Int32)), .val (.int (0 : Int32))] [])) _
        exact castTop (by simp only [hm20_l2, hm20_l3, if_neg d2, if_pos d3]) kt
      · skip
        show Steps p.tables e below (s₁.setTop (mkF m 12 #[.val (.ref qr), .val (.int pl), .val (.int (0 : Int32)), .val (.int (-1 : Int32))] [(.int pl), (.int (0 : Int32))])) _
        refine XS.icmpYes X0.here hx rfl (pc0 := 12) (pc' := 17) rfl (hb hby d3_12) rfl (feq d3).2 (by decide) (by decide) ?_
        refine XS.iinc X0.here hx rfl (hb hby d3_17) rfl (l' := #[.val (.ref qr), .val (.int pl), .val (.int (1 : Int32)), .val (.int (-1 : Int32))]) rfl ?_
        show Steps p.tables e below (s₁.setTop (mkF m 20 #[.val (.ref qr), .val (.int pl), .val (.int (1 : Int32)), .val (.int (-1 : Int32))] [])) _
        exact castTop (by simp only [hm20_l2, hm20_l3, if_neg d2, if_neg d3]) kt
  obtain ⟨cl5, Ar5, q5, S5, M5, H5, G5⟩ := id I0
  have hin5 : ¬ ((1 : Int32) < 0 ∨ cl5.slots.size ≤ ((1 : Int32)).toNatClampNeg) := inb_of S5 ⟨by decide, by decide⟩
  have hat5 : cl5.slots[((1 : Int32)).toNatClampNeg]? = some (.int bq1) := Has.at H5 hin5 rfl
  obtain ⟨m36_l2, hm36_l2⟩ : ∃ z_q : Int32, z_q = (if bq1 = (0 : Int32) then m20_l2 else (m20_l2 + (1 : Int32))) := ⟨_, rfl⟩
  obtain ⟨m36_l3, hm36_l3⟩ : ∃ z_q : Int32, z_q = (if bq1 = (0 : Int32) then m20_l3 else (if m20_l2 = pl then (1 : Int32) else m20_l3)) := ⟨_, rfl⟩
  have pre8 : ∀ tq, Steps p.tables e below (s₁.setTop (mkF m 36 #[.val (.ref qr), .val (.int pl), .val (.int m36_l2), .val (.int m36_l3)] [])) tq → Steps p.tables e below (s₁.setTop (entryFrame m #[(.ref qr), (.int pl)] 4)) tq := by
    intro tq kt
    refine pre4 _ ?_
    show Steps p.tables e below (s₁.setTop (mkF m 20 #[.val (.ref qr), .val (.int pl), .val (.int m20_l2), .val (.int m20_l3)] [])) _
    refine XS.aloadN X0.here hx rfl (hb hby d3_20) rfl rfl ?_
    refine XS.iconst X0.here hx rfl (hb hby d3_21) ?_
    refine X0.baloadBooleans hx (j := (1 : Int32)) (v := (.int bq1)) (heq_of e0 Ar5.1) (State.isArrayOf_alike hZ.alike Ar5.2.1) Ar5.2.2 hin5 hat5 (g := (mkF m 22 #[.val (.ref qr), .val (.int pl), .val (.int m20_l2), .val (.int m20_l3)] [(.int (1 : Int32)), (.ref qr)])) rfl rfl (hb hby d3_22) _ ?_
    by_cases d6 : bq1 = (0 : Int32)
    · skip
      show Steps p.tables e below (s₁.setTop (mkF m 23 #[.val (.ref qr), .val (.int pl), .val (.int m20_l2), .val (.int m20_l3)] [(.int bq1)])) _
      refine XS.ifYes X0.here hx rfl (pc0 := 23) (pc' := 36) rfl (hb hby d3_23) rfl ((if0 _ _).trans (teq d6).1) (by decide) (by decide) ?_
      show Steps p.tables e below (s₁.setTop (mkF m 36 #[.val (.ref qr), .val (.int pl), .val (.int m20_l2), .val (.int m20_l3)] [])) _
      exact castTop (by simp only [hm36_l2, hm36_l3, if_pos d6]) kt
    · skip
      show Steps p.tables e below (s₁.setTop (mkF m 23 #[.val (.ref qr), .val (.int pl), .val (.int m20_l2), .val (.int m20_l3)] [(.int bq1)])) _
      refine XS.ifNo X0.here hx rfl (hb hby d3_23) rfl ((if0 _ _).trans (feq d6).1) ?_
      refine XS.iloadN X0.here hx rfl (hb hby d3_26) rfl ?_
      refine XS.iloadN X0.here hx rfl (hb hby d3_27) rfl ?_
      by_cases d7 : m20_l2 = pl
      · skip
        show Steps p.tables e below (s₁.setTop (mkF m 28 #[.val (.ref qr), .val (.int pl), .val (.int m20_l2), .val (.int m20_l3)] [(.int pl), (.int m20_l2)])) _
        refine XS.icmpNo X0.here hx rfl (hb hby d3_28) rfl (teq d7).2 ?_
        refine XS.iconst X0.here hx rfl (hb hby d3_31) ?_
        refine XS.istoreN X0.here hx rfl (hb hby d3_32) rfl (l' := #[.val (.ref qr), .val (.int pl), .val (.int m20_l2), .val (.int (1 : Int32))]) rfl ?_
        refine XS.iinc X0.here hx rfl (hb hby d3_33) rfl (l' := #[.val (.ref qr), .val (.int pl), .val (.int (m20_l2 + (1 : Int32))), .val (.int (1 : Int32))]) rfl ?_
        show Steps p.tables e below (s₁.setTop (mkF m 36 #[.val (.ref qr), .val (.int pl), .val (.int (m20_l2 + (1 : Int32))), .val (.int (1 : Int32))] [])) _
        exact castTop (by simp only [hm36_l2, hm36_l3, if_neg d6, if_pos d7]) kt
      · skip
        show Steps p.tables e below (s₁.setTop (mkF m 28 #[.val (.ref qr), .val (.int pl), .val (.int m20_l2), .val (.int m20_l3)] [(.int pl), (.int m20_l2)])) _
        refine XS.icmpYes X0.here hx rfl (pc0 := 28) (pc' := 33) rfl (hb hby d3_28) rfl (feq d7).2 (by decide) (by decide) ?_
        refine XS.iinc X0.here hx rfl (hb hby d3_33) rfl (l' := #[.val (.ref qr), .val (.int pl), .val (.int (m20_l2 + (1 : Int32))), .val (.int m20_l3)]) rfl ?_
        show Steps p.tables e below (s₁.setTop (mkF m 36 #[.val (.ref qr), .val (.int pl), .val (.int (m20_l2 + (1 : Int32))), .val (.int m20_l3)] [])) _
        exact castTop (by simp only [hm36_l2, hm36_l3, if_neg d6, if_neg d7]) kt
  obtain ⟨cl9, Ar9, q9, S9, M9, H9, G9⟩ := id I0
  have hin9 : ¬ ((2 : Int32) < 0 ∨ cl9.slots.size ≤ ((2 : Int32)).toNatClampNeg) := inb_of S9 ⟨by decide, by decide⟩
  have hat9 : cl9.slots[((2 : Int32)).toNatClampNeg]? = some (.int bq2) := Has.at H9 hin9 rfl
  obtain ⟨m52_l2, hm52_l2⟩ : ∃ z_q : Int32, z_q = (if bq2 = (0 : Int32) then m36_l2 else (m36_l2 + (1 : Int32))) := ⟨_, rfl⟩
  obtain ⟨m52_l3, hm52_l3⟩ : ∃ z_q : Int32, z_q = (if bq2 = (0 : Int32) then m36_l3 else (if m36_l2 = pl then (2 : Int32) else m36_l3)) := ⟨_, rfl⟩
  have pre12 : ∀ tq, Steps p.tables e below (s₁.setTop (mkF m 52 #[.val (.ref qr), .val (.int pl), .val (.int m52_l2), .val (.int m52_l3)] [])) tq → Steps p.tables e below (s₁.setTop (entryFrame m #[(.ref qr), (.int pl)] 4)) tq := by
    intro tq kt
    refine pre8 _ ?_
    show Steps p.tables e below (s₁.setTop (mkF m 36 #[.val (.ref qr), .val (.int pl), .val (.int m36_l2), .val (.int m36_l3)] [])) _
    refine XS.aloadN X0.here hx rfl (hb hby d3_36) rfl rfl ?_
    refine XS.iconst X0.here hx rfl (hb hby d3_37) ?_
    refine X0.baloadBooleans hx (j := (2 : Int32)) (v := (.int bq2)) (heq_of e0 Ar9.1) (State.isArrayOf_alike hZ.alike Ar9.2.1) Ar9.2.2 hin9 hat9 (g := (mkF m 38 #[.val (.ref qr), .val (.int pl), .val (.int m36_l2), .val (.int m36_l3)] [(.int (2 : Int32)), (.ref qr)])) rfl rfl (hb hby d3_38) _ ?_
    by_cases d10 : bq2 = (0 : Int32)
    · skip
      show Steps p.tables e below (s₁.setTop (mkF m 39 #[.val (.ref qr), .val (.int pl), .val (.int m36_l2), .val (.int m36_l3)] [(.int bq2)])) _
      refine XS.ifYes X0.here hx rfl (pc0 := 39) (pc' := 52) rfl (hb hby d3_39) rfl ((if0 _ _).trans (teq d10).1) (by decide) (by decide) ?_
      show Steps p.tables e below (s₁.setTop (mkF m 52 #[.val (.ref qr), .val (.int pl), .val (.int m36_l2), .val (.int m36_l3)] [])) _
      exact castTop (by simp only [hm52_l2, hm52_l3, if_pos d10]) kt
    · skip
      show Steps p.tables e below (s₁.setTop (mkF m 39 #[.val (.ref qr), .val (.int pl), .val (.int m36_l2), .val (.int m36_l3)] [(.int bq2)])) _
      refine XS.ifNo X0.here hx rfl (hb hby d3_39) rfl ((if0 _ _).trans (feq d10).1) ?_
      refine XS.iloadN X0.here hx rfl (hb hby d3_42) rfl ?_
      refine XS.iloadN X0.here hx rfl (hb hby d3_43) rfl ?_
      by_cases d11 : m36_l2 = pl
      · skip
        show Steps p.tables e below (s₁.setTop (mkF m 44 #[.val (.ref qr), .val (.int pl), .val (.int m36_l2), .val (.int m36_l3)] [(.int pl), (.int m36_l2)])) _
        refine XS.icmpNo X0.here hx rfl (hb hby d3_44) rfl (teq d11).2 ?_
        refine XS.iconst X0.here hx rfl (hb hby d3_47) ?_
        refine XS.istoreN X0.here hx rfl (hb hby d3_48) rfl (l' := #[.val (.ref qr), .val (.int pl), .val (.int m36_l2), .val (.int (2 : Int32))]) rfl ?_
        refine XS.iinc X0.here hx rfl (hb hby d3_49) rfl (l' := #[.val (.ref qr), .val (.int pl), .val (.int (m36_l2 + (1 : Int32))), .val (.int (2 : Int32))]) rfl ?_
        show Steps p.tables e below (s₁.setTop (mkF m 52 #[.val (.ref qr), .val (.int pl), .val (.int (m36_l2 + (1 : Int32))), .val (.int (2 : Int32))] [])) _
        exact castTop (by simp only [hm52_l2, hm52_l3, if_neg d10, if_pos d11]) kt
      · skip
        show Steps p.tables e below (s₁.setTop (mkF m 44 #[.val (.ref qr), .val (.int pl), .val (.int m36_l2), .val (.int m36_l3)] [(.int pl), (.int m36_l2)])) _
        refine XS.icmpYes X0.here hx rfl (pc0 := 44) (pc' := 49) rfl (hb hby d3_44) rfl (feq d11).2 (by decide) (by decide) ?_
        refine XS.iinc X0.here hx rfl (hb hby d3_49) rfl (l' := #[.val (.ref qr), .val (.int pl), .val (.int (m36_l2 + (1 : Int32))), .val (.int m36_l3)]) rfl ?_
        show Steps p.tables e below (s₁.setTop (mkF m 52 #[.val (.ref qr), .val (.int pl), .val (.int (m36_l2 + (1 : Int32))), .val (.int m36_l3)] [])) _
        exact castTop (by simp only [hm52_l2, hm52_l3, if_neg d10, if_neg d11]) kt
  obtain ⟨cl13, Ar13, q13, S13, M13, H13, G13⟩ := id I0
  have hin13 : ¬ ((3 : Int32) < 0 ∨ cl13.slots.size ≤ ((3 : Int32)).toNatClampNeg) := inb_of S13 ⟨by decide, by decide⟩
  have hat13 : cl13.slots[((3 : Int32)).toNatClampNeg]? = some (.int bq3) := Has.at H13 hin13 rfl
  obtain ⟨m68_l2, hm68_l2⟩ : ∃ z_q : Int32, z_q = (if bq3 = (0 : Int32) then m52_l2 else (m52_l2 + (1 : Int32))) := ⟨_, rfl⟩
  obtain ⟨m68_l3, hm68_l3⟩ : ∃ z_q : Int32, z_q = (if bq3 = (0 : Int32) then m52_l3 else (if m52_l2 = pl then (3 : Int32) else m52_l3)) := ⟨_, rfl⟩
  have pre16 : ∀ tq, Steps p.tables e below (s₁.setTop (mkF m 68 #[.val (.ref qr), .val (.int pl), .val (.int m68_l2), .val (.int m68_l3)] [])) tq → Steps p.tables e below (s₁.setTop (entryFrame m #[(.ref qr), (.int pl)] 4)) tq := by
    intro tq kt
    refine pre12 _ ?_
    show Steps p.tables e below (s₁.setTop (mkF m 52 #[.val (.ref qr), .val (.int pl), .val (.int m52_l2), .val (.int m52_l3)] [])) _
    refine XS.aloadN X0.here hx rfl (hb hby d3_52) rfl rfl ?_
    refine XS.iconst X0.here hx rfl (hb hby d3_53) ?_
    refine X0.baloadBooleans hx (j := (3 : Int32)) (v := (.int bq3)) (heq_of e0 Ar13.1) (State.isArrayOf_alike hZ.alike Ar13.2.1) Ar13.2.2 hin13 hat13 (g := (mkF m 54 #[.val (.ref qr), .val (.int pl), .val (.int m52_l2), .val (.int m52_l3)] [(.int (3 : Int32)), (.ref qr)])) rfl rfl (hb hby d3_54) _ ?_
    by_cases d14 : bq3 = (0 : Int32)
    · skip
      show Steps p.tables e below (s₁.setTop (mkF m 55 #[.val (.ref qr), .val (.int pl), .val (.int m52_l2), .val (.int m52_l3)] [(.int bq3)])) _
      refine XS.ifYes X0.here hx rfl (pc0 := 55) (pc' := 68) rfl (hb hby d3_55) rfl ((if0 _ _).trans (teq d14).1) (by decide) (by decide) ?_
      show Steps p.tables e below (s₁.setTop (mkF m 68 #[.val (.ref qr), .val (.int pl), .val (.int m52_l2), .val (.int m52_l3)] [])) _
      exact castTop (by simp only [hm68_l2, hm68_l3, if_pos d14]) kt
    · skip
      show Steps p.tables e below (s₁.setTop (mkF m 55 #[.val (.ref qr), .val (.int pl), .val (.int m52_l2), .val (.int m52_l3)] [(.int bq3)])) _
      refine XS.ifNo X0.here hx rfl (hb hby d3_55) rfl ((if0 _ _).trans (feq d14).1) ?_
      refine XS.iloadN X0.here hx rfl (hb hby d3_58) rfl ?_
      refine XS.iloadN X0.here hx rfl (hb hby d3_59) rfl ?_
      by_cases d15 : m52_l2 = pl
      · skip
        show Steps p.tables e below (s₁.setTop (mkF m 60 #[.val (.ref qr), .val (.int pl), .val (.int m52_l2), .val (.int m52_l3)] [(.int pl), (.int m52_l2)])) _
        refine XS.icmpNo X0.here hx rfl (hb hby d3_60) rfl (teq d15).2 ?_
        refine XS.iconst X0.here hx rfl (hb hby d3_63) ?_
        refine XS.istoreN X0.here hx rfl (hb hby d3_64) rfl (l' := #[.val (.ref qr), .val (.int pl), .val (.int m52_l2), .val (.int (3 : Int32))]) rfl ?_
        refine XS.iinc X0.here hx rfl (hb hby d3_65) rfl (l' := #[.val (.ref qr), .val (.int pl), .val (.int (m52_l2 + (1 : Int32))), .val (.int (3 : Int32))]) rfl ?_
        show Steps p.tables e below (s₁.setTop (mkF m 68 #[.val (.ref qr), .val (.int pl), .val (.int (m52_l2 + (1 : Int32))), .val (.int (3 : Int32))] [])) _
        exact castTop (by simp only [hm68_l2, hm68_l3, if_neg d14, if_pos d15]) kt
      · skip
        show Steps p.tables e below (s₁.setTop (mkF m 60 #[.val (.ref qr), .val (.int pl), .val (.int m52_l2), .val (.int m52_l3)] [(.int pl), (.int m52_l2)])) _
        refine XS.icmpYes X0.here hx rfl (pc0 := 60) (pc' := 65) rfl (hb hby d3_60) rfl (feq d15).2 (by decide) (by decide) ?_
        refine XS.iinc X0.here hx rfl (hb hby d3_65) rfl (l' := #[.val (.ref qr), .val (.int pl), .val (.int (m52_l2 + (1 : Int32))), .val (.int m52_l3)]) rfl ?_
        show Steps p.tables e below (s₁.setTop (mkF m 68 #[.val (.ref qr), .val (.int pl), .val (.int (m52_l2 + (1 : Int32))), .val (.int m52_l3)] [])) _
        exact castTop (by simp only [hm68_l2, hm68_l3, if_neg d14, if_neg d15]) kt
  obtain ⟨fs, hr, hrun, hended, hW, hsame⟩ := X0.leave (v := some (Value.int m68_l3)) (fun h => by rw [Bd.returns] at h; cases h)
  have hres17 : m68_l3 = (own_f3 pl bq0 bq1 bq2 bq3) := by subst_vars; rfl
  refine ⟨_, _, pre16 _ ?_, hrun, hended, _, _, rfl, ?_, ⟨_, rfl⟩, hW, hsame.mono (by decide) (by decide)⟩
  · skip
    show Steps p.tables e below (s₁.setTop (mkF m 68 #[.val (.ref qr), .val (.int pl), .val (.int m68_l2), .val (.int m68_l3)] [])) _
    refine XS.iloadN X0.here hx rfl (hb hby d3_68) rfl ?_
    show Steps p.tables e below (s₁.setTop (mkF m 69 #[.val (.ref qr), .val (.int pl), .val (.int m68_l2), .val (.int m68_l3)] [(.int m68_l3)])) _
    exact retI X0 hx Bd.returns (hb hby d3_69) hr
  · show Q3 Z qr pl bq0 bq1 bq2 bq3 kc h0 n0 _ s₁.heap _
    rw [e0]
    exact ⟨congrArg (fun z => some (Value.int z)) hres17, N0, rfl⟩
theorem d9_0 : decode jdk_22_method_1_code 0 = .ok (.aload_n 0, 1) := by decide +kernel
theorem d9_1 : decode jdk_22_method_1_code 1 = .ok (.invokespecial 1, 3) := by decide +kernel
theorem d9_4 : decode jdk_22_method_1_code 4 = .ok (.return_, 1) := by decide +kernel
theorem pn_9 : plainName "java/util/AbstractCollection" = true := by first | (simp [plainName, overriddenIn]; done) | decide +kernel
theorem ef_9 (m : MethodId) (x0 : Addr) : entryFrame m #[(.ref x0)] 1 = mkF m 0 #[.val (.ref x0)] [] := by first | (simp [entryFrame, mkF, argsToLocals, Value.category]; done) | rfl
def Q9 (Z : State) (ob : Addr) (h0 : Heap) (n0 : Nat) (v : Option Value) (h : Heap) (L : List Loc) : Prop := v = none ∧ Fr n0 L ∧ h = h0
set_option maxRecDepth 65536 in
set_option maxHeartbeats 40000000 in
theorem rm9 (l : Launch) (Z : State) (a0 : Array Value) (hw : ∀ d ∈ tables_1, d.before a0 Z = true) (ws : List Jvm.Cond) (ob : Addr) (h0 : Heap) (n0 : Nat) (Z0 : n0 ≤ h0.size)  :
    MetFree l (⟨"java/util/AbstractCollection", "<init>", "()V"⟩ : MethodName) (head1 (Jvm.Cond.code (⟨"java/util/AbstractCollection", "<init>", "()V"⟩ : MethodName) jdk_22_method_1_code 1 none :: ws) ({ frames := 1, cells := 0, slots := 0, locals := 12 } : Room)) (fun a U => a = #[(.ref ob)] ∧ Z.Warmed39 U.vm ∧ U.heap = h0) (fun _ _ _ _ _ => True) (fun _ U o U' => ∃ v L, o = .returned v ∧ Q9 Z ob h0 n0 v U'.heap L ∧ FrameEnd U o U' L ({ frames := 1, cells := 0, slots := 0, locals := 12 } : Room).cells ({ frames := 1, cells := 0, slots := 0, locals := 12 } : Room).slots) := by
  refine MetFree.of_bodySF (plainFor_of_name pn_9) hisR ?_
  intro p e s m args below meth c s₁ Bd hml0 hP hK
  obtain ⟨rfl, hZ, hh⟩ := hP
  have hx := Bd.exec
  have hby := Bd.bytes
  have hml : c.maxLocals = 1 := hml0
  have hown : s.vm.findClass "java/util/AbstractCollection" = some m.cls := findClass_of_methodNamed Bd.named
  have hnm := (name_of_methodNamed Bd.named Bd.method).1
  have X0 : Stand p l e ({ frames := 1, cells := 0, slots := 0, locals := 12 } : Room) s m #[(.ref ob)] below meth c s₁ [] 0 0 := Stand.of_body Bd
  have e0 : s₁.heap = h0 := by rw [← hh, Bd.state]; rfl
  have N0 := Fr.nil n0
  have K0 : Keep h0 h0 [] := Keep.refl h0 _
  have pre0 : ∀ tq, Steps p.tables e below (s₁.setTop (mkF m 0 #[.val (.ref ob)] [])) tq → Steps p.tables e below (s₁.setTop (entryFrame m #[(.ref ob)] 1)) tq := fun tq kq => castTop (ef_9 m ob) kq
  obtain ⟨T1, X1, e1, st1⟩ := initO X0 hx hZ hown (hw _ (List.mem_of_getElem? (i := 47) rfl)) (hw _ (List.mem_of_getElem? (i := 20) rfl)) (hw _ (List.mem_of_getElem? (i := 21) rfl)) e0 (g := (mkF m 1 #[.val (.ref ob)] [(.ref ob)])) rfl (by rw [hml]; rfl) rfl (hb hby d9_1) (by decide) (W := 0) (by show 2 * 0 + _ ≤ _; exact Nat.le_of_eq rfl) (by decide)
  obtain ⟨fs, hr, hrun, hended, hW, hsame⟩ := X1.leave (v := none) (fun _ => rfl)
  refine ⟨_, _, pre0 _ ?_, hrun, hended, _, _, rfl, ?_, ⟨_, rfl⟩, hW, hsame.mono (by decide) (by decide)⟩
  · skip
    show Steps p.tables e below (s₁.setTop (mkF m 0 #[.val (.ref ob)] [])) _
    refine XS.aloadN X0.here hx rfl (hb hby d9_0) rfl rfl ?_
    refine st1 _ ?_
    show Steps p.tables e below (T1.setTop (mkF m 4 #[.val (.ref ob)] [])) _
    exact X1.returnOut hx Bd.returns (hb hby d9_4) hr
  · show Q9 Z ob h0 n0 _ T1.heap _
    rw [e1]
    exact ⟨rfl, N0, rfl⟩
theorem d8_0 : decode jdk_39_method_1_code 0 = .ok (.aload_n 0, 1) := by decide +kernel
theorem d8_1 : decode jdk_39_method_1_code 1 = .ok (.invokespecial 1, 3) := by decide +kernel
theorem d8_4 : decode jdk_39_method_1_code 4 = .ok (.aload_n 0, 1) := by decide +kernel
theorem d8_5 : decode jdk_39_method_1_code 5 = .ok (.iconst 0, 1) := by decide +kernel
theorem d8_6 : decode jdk_39_method_1_code 6 = .ok (.putfield 7, 3) := by decide +kernel
theorem d8_9 : decode jdk_39_method_1_code 9 = .ok (.return_, 1) := by decide +kernel
theorem pn_8 : plainName "java/util/AbstractList" = true := by first | (simp [plainName, overriddenIn]; done) | decide +kernel
theorem pd_2 : parseMethodDescriptor "()V" = some ⟨[], none⟩ := by decide +kernel
theorem ef_8 (m : MethodId) (x0 : Addr) : entryFrame m #[(.ref x0)] 1 = mkF m 0 #[.val (.ref x0)] [] := by first | (simp [entryFrame, mkF, argsToLocals, Value.category]; done) | rfl
def Q8 (Z : State) (ob : Addr) (h0 : Heap) (n0 : Nat) (v : Option Value) (h : Heap) (L : List Loc) : Prop := v = none ∧ Fr n0 L ∧ Keep h0 h [ob] ∧ Exa Z h ob "java/util/ArrayList" ∧ Fld Z h ob "java/util/ArrayList" "elementData" "[Ljava/lang/Object;" .null
set_option maxRecDepth 65536 in
set_option maxHeartbeats 40000000 in
theorem rm8 (l : Launch) (Z : State) (a0 : Array Value) (hw : ∀ d ∈ tables_1, d.before a0 Z = true) (ws : List Jvm.Cond) (ob : Addr) (h0 : Heap) (n0 : Nat) (Z0 : n0 ≤ h0.size) (I0 : Fld Z h0 ob "java/util/AbstractList" "modCount" "I" (.int (0 : Int32))) (I1 : Fld Z h0 ob "java/util/ArrayList" "elementData" "[Ljava/lang/Object;" .null) (I2 : Exa Z h0 ob "java/util/ArrayList") (g_ob : n0 ≤ ob) :
    MetFree l (⟨"java/util/AbstractList", "<init>", "()V"⟩ : MethodName) (head1 (Jvm.Cond.code (⟨"java/util/AbstractList", "<init>", "()V"⟩ : MethodName) jdk_39_method_1_code 1 none :: ws) ({ frames := 2, cells := 0, slots := 0, locals := 24 } : Room)) (fun a U => a = #[(.ref ob)] ∧ Z.Warmed39 U.vm ∧ U.heap = h0) (fun _ _ _ _ _ => True) (fun _ U o U' => ∃ v L, o = .returned v ∧ Q8 Z ob h0 n0 v U'.heap L ∧ FrameEnd U o U' L ({ frames := 2, cells := 0, slots := 0, locals := 24 } : Room).cells ({ frames := 2, cells := 0, slots := 0, locals := 24 } : Room).slots) := by
  refine MetFree.of_bodySF (plainFor_of_name pn_8) hisR ?_
  intro p e s m args below meth c s₁ Bd hml0 hP hK
  obtain ⟨rfl, hZ, hh⟩ := hP
  have hx := Bd.exec
  have hby := Bd.bytes
  have hml : c.maxLocals = 1 := hml0
  have hown : s.vm.findClass "java/util/AbstractList" = some m.cls := findClass_of_methodNamed Bd.named
  have hnm := (name_of_methodNamed Bd.named Bd.method).1
  have X0 : Stand p l e ({ frames := 2, cells := 0, slots := 0, locals := 24 } : Room) s m #[(.ref ob)] below meth c s₁ [] 0 0 := Stand.of_body Bd
  have e0 : s₁.heap = h0 := by rw [← hh, Bd.state]; rfl
  have N0 := Fr.nil n0
  have K0 : Keep h0 h0 [ob] := Keep.refl h0 _
  have pre0 : ∀ tq, Steps p.tables e below (s₁.setTop (mkF m 0 #[.val (.ref ob)] [])) tq → Steps p.tables e below (s₁.setTop (entryFrame m #[(.ref ob)] 1)) tq := fun tq kq => castTop (ef_8 m ob) kq
  obtain ⟨_, _, ⟨T1, L1, k1, n1⟩, -, X1, ⟨Lc1, hQ1, l1, y1, z1⟩, st1⟩ := X0.specialBack hx (y := (⟨"java/util/AbstractCollection", "<init>", "()V"⟩ : MethodName)) rfl hown (mvT hZ (hw _ (List.mem_of_getElem? (i := 41) rfl))) (mvT hZ (hw _ (List.mem_of_getElem? (i := 42) rfl))) (mvT hZ (hw _ (List.mem_of_getElem? (i := 46) rfl))) (by decide) (backOf (W := 0) (rm9 l Z a0 hw [] ob h0 n0 Z0 ) hZ (hw _ (List.mem_of_getElem? (i := 46) rfl)) (hw _ (List.mem_of_getElem? (i := 45) rfl)) (by decide) (by decide)) (g := (mkF m 1 #[.val (.ref ob)] [(.ref ob)])) rfl (by rw [hml]; rfl) (Steps.refl _) (a := ob) (argsL := []) (rest := []) (lenOf pd_2 rfl) rfl (by show 2 * 0 + _ ≤ _; exact Nat.le_of_eq rfl) (hb hby d8_1) (fun _ _ => ⟨rfl, e0, (by decide : 0 + 0 ≤ _), (by decide : 0 + 0 ≤ _)⟩)
  dsimp only [Pt.U, Pt.locs, Pt.cells, Pt.slots] at X1 l1 y1 z1 st1 hQ1
  replace y1 : k1 = 0 := y1
  replace z1 : n1 = 0 := z1
  subst l1 y1 z1
  obtain ⟨rfl, N1q, e1⟩ := hQ1
  have N1 := Fr.app N0 N1q
  obtain ⟨T2, hX2, X2, e2, W2, st2⟩ := putF X1 hx hZ hown (host := "") (Or.inl (hw _ (List.mem_of_getElem? (i := 48) rfl))) Via.refl e1 I0 I2 (Or.inl (hw _ (List.mem_of_getElem? (i := 49) rfl))) (hw _ (List.mem_of_getElem? (i := 30) rfl)) (ty := .int) (by decide) rfl rfl (g := (mkF m 6 #[.val (.ref ob)] [(.int (0 : Int32)), (.ref ob)])) rfl rfl (hb hby d8_6)
  have N2 := Fr.snoc X2 N1 g_ob
  have F3 : Fld Z hX2 ob "java/util/AbstractList" "modCount" "I" (.int (0 : Int32)) := I0.same W2
  have F4 : Fld Z hX2 ob "java/util/ArrayList" "elementData" "[Ljava/lang/Object;" .null := I1.other W2 (Or.inr (slot_ne (Or.inl (hw _ (List.mem_of_getElem? (i := 52) rfl))) (Or.inl (hw _ (List.mem_of_getElem? (i := 49) rfl))) (by decide) (t := (.array (.object "java/lang/Object"))) (t' := .int) (by decide) (by decide)))
  have F5 : Exa Z hX2 ob "java/util/ArrayList" := I2.wr W2
  have Z6 : n0 ≤ hX2.size := Nat.le_trans Z0 (Keep.of_wr W2).1
  have K7 : Keep h0 hX2 [ob] := K0.wr W2 (Or.inl (List.mem_of_getElem? (i := 0) rfl))
  obtain ⟨fs, hr, hrun, hended, hW, hsame⟩ := X2.leave (v := none) (fun _ => rfl)
  refine ⟨_, _, pre0 _ ?_, hrun, hended, _, _, rfl, ?_, ⟨_, rfl⟩, hW, hsame.mono (by decide) (by decide)⟩
  · skip
    show Steps p.tables e below (s₁.setTop (mkF m 0 #[.val (.ref ob)] [])) _
    refine XS.aloadN X0.here hx rfl (hb hby d8_0) rfl rfl ?_
    refine st1.trans ?_
    show Steps p.tables e below (T1.setTop (mkF m 4 #[.val (.ref ob)] [])) _
    refine XS.aloadN X1.here hx rfl (hb hby d8_4) rfl rfl ?_
    refine XS.iconst X1.here hx rfl (hb hby d8_5) ?_
    refine st2 _ ?_
    show Steps p.tables e below (T2.setTop (mkF m 9 #[.val (.ref ob)] [])) _
    exact X2.returnOut hx Bd.returns (hb hby d8_9) hr
  · show Q8 Z ob h0 n0 _ T2.heap _
    rw [e2]
    exact ⟨rfl, N2, K7, F5, F4⟩
theorem d7_0 : decode jdk_38_method_2_code 0 = .ok (.aload_n 0, 1) := by decide +kernel
theorem d7_1 : decode jdk_38_method_2_code 1 = .ok (.invokespecial 1, 3) := by decide +kernel
theorem d7_4 : decode jdk_38_method_2_code 4 = .ok (.aload_n 0, 1) := by decide +kernel
theorem d7_5 : decode jdk_38_method_2_code 5 = .ok (.getstatic 39, 3) := by decide +kernel
theorem d7_8 : decode jdk_38_method_2_code 8 = .ok (.putfield 9, 3) := by decide +kernel
theorem d7_11 : decode jdk_38_method_2_code 11 = .ok (.return_, 1) := by decide +kernel
theorem pn_7 : plainName "java/util/ArrayList" = true := by first | (simp [plainName, overriddenIn]; done) | decide +kernel
theorem ef_7 (m : MethodId) (x0 : Addr) : entryFrame m #[(.ref x0)] 1 = mkF m 0 #[.val (.ref x0)] [] := by first | (simp [entryFrame, mkF, argsToLocals, Value.category]; done) | rfl
def Q7 (Z : State) (ob : Addr) (dd : Addr) (h0 : Heap) (n0 : Nat) (v : Option Value) (h : Heap) (L : List Loc) : Prop := v = none ∧ Fr n0 L ∧ Keep h0 h [ob] ∧ Exa Z h ob "java/util/ArrayList"
set_option maxRecDepth 65536 in
set_option maxHeartbeats 40000000 in
theorem rm7 (l : Launch) (Z : State) (a0 : Array Value) (hw : ∀ d ∈ tables_1, d.before a0 Z = true) (ws : List Jvm.Cond) (ob : Addr) (dd : Addr) (h0 : Heap) (n0 : Nat) (Z0 : n0 ≤ h0.size) (I0 : Fld Z h0 ob "java/util/AbstractList" "modCount" "I" (.int (0 : Int32))) (I1 : Fld Z h0 ob "java/util/ArrayList" "elementData" "[Ljava/lang/Object;" .null) (I2 : Exa Z h0 ob "java/util/ArrayList") (I3 : Sta Z h0 "java/util/ArrayList" "DEFAULTCAPACITY_EMPTY_ELEMENTDATA" "[Ljava/lang/Object;" (.ref dd)) (g_ob : n0 ≤ ob) :
    MetFree l (⟨"java/util/ArrayList", "<init>", "()V"⟩ : MethodName) (head1 (Jvm.Cond.code (⟨"java/util/ArrayList", "<init>", "()V"⟩ : MethodName) jdk_38_method_2_code 1 none :: ws) ({ frames := 3, cells := 0, slots := 0, locals := 36 } : Room)) (fun a U => a = #[(.ref ob)] ∧ Z.Warmed39 U.vm ∧ U.heap = h0) (fun _ _ _ _ _ => True) (fun _ U o U' => ∃ v L, o = .returned v ∧ Q7 Z ob dd h0 n0 v U'.heap L ∧ FrameEnd U o U' L ({ frames := 3, cells := 0, slots := 0, locals := 36 } : Room).cells ({ frames := 3, cells := 0, slots := 0, locals := 36 } : Room).slots) := by
  refine MetFree.of_bodySF (plainFor_of_name pn_7) hisR ?_
  intro p e s m args below meth c s₁ Bd hml0 hP hK
  obtain ⟨rfl, hZ, hh⟩ := hP
  have hx := Bd.exec
  have hby := Bd.bytes
  have hml : c.maxLocals = 1 := hml0
  have hown : s.vm.findClass "java/util/ArrayList" = some m.cls := findClass_of_methodNamed Bd.named
  have hnm := (name_of_methodNamed Bd.named Bd.method).1
  have X0 : Stand p l e ({ frames := 3, cells := 0, slots := 0, locals := 36 } : Room) s m #[(.ref ob)] below meth c s₁ [] 0 0 := Stand.of_body Bd
  have e0 : s₁.heap = h0 := by rw [← hh, Bd.state]; rfl
  have N0 := Fr.nil n0
  have K0 : Keep h0 h0 [ob] := Keep.refl h0 _
  have pre0 : ∀ tq, Steps p.tables e below (s₁.setTop (mkF m 0 #[.val (.ref ob)] [])) tq → Steps p.tables e below (s₁.setTop (entryFrame m #[(.ref ob)] 1)) tq := fun tq kq => castTop (ef_7 m ob) kq
  obtain ⟨_, _, ⟨T1, L1, k1, n1⟩, -, X1, ⟨Lc1, hQ1, l1, y1, z1⟩, st1⟩ := X0.specialBack hx (y := (⟨"java/util/AbstractList", "<init>", "()V"⟩ : MethodName)) rfl hown (mvT hZ (hw _ (List.mem_of_getElem? (i := 35) rfl))) (mvT hZ (hw _ (List.mem_of_getElem? (i := 36) rfl))) (mvT hZ (hw _ (List.mem_of_getElem? (i := 40) rfl))) (by decide) (backOf (W := 0) (rm8 l Z a0 hw [] ob h0 n0 Z0 I0 I1 I2 g_ob) hZ (hw _ (List.mem_of_getElem? (i := 40) rfl)) (hw _ (List.mem_of_getElem? (i := 39) rfl)) (by decide) (by decide)) (g := (mkF m 1 #[.val (.ref ob)] [(.ref ob)])) rfl (by rw [hml]; rfl) (Steps.refl _) (a := ob) (argsL := []) (rest := []) (lenOf pd_2 rfl) rfl (by show 2 * 0 + _ ≤ _; exact Nat.le_of_eq rfl) (hb hby d7_1) (fun _ _ => ⟨rfl, e0, (by decide : 0 + 0 ≤ _), (by decide : 0 + 0 ≤ _)⟩)
  dsimp only [Pt.U, Pt.locs, Pt.cells, Pt.slots] at X1 l1 y1 z1 st1 hQ1
  replace y1 : k1 = 0 := y1
  replace z1 : n1 = 0 := z1
  subst l1 y1 z1
  obtain ⟨rfl, N1q, K1q, F2, F3⟩ := hQ1
  have N1 := Fr.app N0 N1q
  have F4 : Exa Z T1.heap ob "java/util/ArrayList" := I2.keep K1q
  have F5 : Sta Z T1.heap "java/util/ArrayList" "DEFAULTCAPACITY_EMPTY_ELEMENTDATA" "[Ljava/lang/Object;" (.ref dd) := sta_keepL I3 K1q (allS (exa_plain I2) all0)
  have Z6 : n0 ≤ T1.heap.size := Nat.le_trans Z0 K1q.1
  have K7 : Keep h0 T1.heap [ob] := K0.trans K1q (allS (Or.inl (List.mem_of_getElem? (i := 0) rfl)) all0)
  obtain ⟨T8, X8, e8, st8⟩ := getS2 X1 hx hZ hown (host := "") (Or.inl (hw _ (List.mem_of_getElem? (i := 50) rfl))) Via.refl rfl F5 (g := (mkF m 5 #[.val (.ref ob)] [(.ref ob)])) rfl (hb hby d7_5)
  obtain ⟨T9, hX9, X9, e9, W9, st9⟩ := putF X8 hx hZ hown (host := "") (Or.inl (hw _ (List.mem_of_getElem? (i := 51) rfl))) Via.refl e8 F3 F2 (Or.inl (hw _ (List.mem_of_getElem? (i := 52) rfl))) (hw _ (List.mem_of_getElem? (i := 30) rfl)) (ty := (.array (.object "java/lang/Object"))) (by decide) rfl rfl (g := (mkF m 8 #[.val (.ref ob)] [(.ref dd), (.ref ob)])) rfl rfl (hb hby d7_8)
  have N9 := Fr.snoc X9 N1 g_ob
  have F10 : Fld Z hX9 ob "java/util/ArrayList" "elementData" "[Ljava/lang/Object;" (.ref dd) := F3.same W9
  have F11 : Exa Z hX9 ob "java/util/ArrayList" := F2.wr W9
  have F12 : Sta Z hX9 "java/util/ArrayList" "DEFAULTCAPACITY_EMPTY_ELEMENTDATA" "[Ljava/lang/Object;" (.ref dd) := F5.wr W9
  have Z13 : n0 ≤ hX9.size := Nat.le_trans Z6 (Keep.of_wr W9).1
  have K14 : Keep h0 hX9 [ob] := K7.wr W9 (Or.inl (List.mem_of_getElem? (i := 0) rfl))
  obtain ⟨fs, hr, hrun, hended, hW, hsame⟩ := X9.leave (v := none) (fun _ => rfl)
  refine ⟨_, _, pre0 _ ?_, hrun, hended, _, _, rfl, ?_, ⟨_, rfl⟩, hW, hsame.mono (by decide) (by decide)⟩
  · skip
    show Steps p.tables e below (s₁.setTop (mkF m 0 #[.val (.ref ob)] [])) _
    refine XS.aloadN X0.here hx rfl (hb hby d7_0) rfl rfl ?_
    refine st1.trans ?_
    show Steps p.tables e below (T1.setTop (mkF m 4 #[.val (.ref ob)] [])) _
    refine XS.aloadN X1.here hx rfl (hb hby d7_4) rfl rfl ?_
    refine st8 _ ?_
    show Steps p.tables e below (T8.setTop (mkF m 8 #[.val (.ref ob)] [(.ref dd), (.ref ob)])) _
    refine st9 _ ?_
    show Steps p.tables e below (T9.setTop (mkF m 11 #[.val (.ref ob)] [])) _
    exact X9.returnOut hx Bd.returns (hb hby d7_11) hr
  · show Q7 Z ob dd h0 n0 _ T9.heap _
    rw [e9]
    exact ⟨rfl, N9, K14, F11⟩
theorem d11_0 : decode jdk_71_method_1_code 0 = .ok (.aload_n 0, 1) := by decide +kernel
theorem d11_1 : decode jdk_71_method_1_code 1 = .ok (.invokespecial 1, 3) := by decide +kernel
theorem d11_4 : decode jdk_71_method_1_code 4 = .ok (.return_, 1) := by decide +kernel
theorem pn_11 : plainName "java/util/AbstractMap" = true := by first | (simp [plainName, overriddenIn]; done) | decide +kernel
theorem ef_11 (m : MethodId) (x0 : Addr) : entryFrame m #[(.ref x0)] 1 = mkF m 0 #[.val (.ref x0)] [] := by first | (simp [entryFrame, mkF, argsToLocals, Value.category]; done) | rfl
def Q11 (Z : State) (ob : Addr) (h0 : Heap) (n0 : Nat) (v : Option Value) (h : Heap) (L : List Loc) : Prop := v = none ∧ Fr n0 L ∧ h = h0
set_option maxRecDepth 65536 in
set_option maxHeartbeats 40000000 in
theorem rm11 (l : Launch) (Z : State) (a0 : Array Value) (hw : ∀ d ∈ tables_1, d.before a0 Z = true) (ws : List Jvm.Cond) (ob : Addr) (h0 : Heap) (n0 : Nat) (Z0 : n0 ≤ h0.size)  :
    MetFree l (⟨"java/util/AbstractMap", "<init>", "()V"⟩ : MethodName) (head1 (Jvm.Cond.code (⟨"java/util/AbstractMap", "<init>", "()V"⟩ : MethodName) jdk_71_method_1_code 1 none :: ws) ({ frames := 1, cells := 0, slots := 0, locals := 12 } : Room)) (fun a U => a = #[(.ref ob)] ∧ Z.Warmed39 U.vm ∧ U.heap = h0) (fun _ _ _ _ _ => True) (fun _ U o U' => ∃ v L, o = .returned v ∧ Q11 Z ob h0 n0 v U'.heap L ∧ FrameEnd U o U' L ({ frames := 1, cells := 0, slots := 0, locals := 12 } : Room).cells ({ frames := 1, cells := 0, slots := 0, locals := 12 } : Room).slots) := by
  refine MetFree.of_bodySF (plainFor_of_name pn_11) hisR ?_
  intro p e s m args below meth c s₁ Bd hml0 hP hK
  obtain ⟨rfl, hZ, hh⟩ := hP
  have hx := Bd.exec
  have hby := Bd.bytes
  have hml : c.maxLocals = 1 := hml0
  have hown : s.vm.findClass "java/util/AbstractMap" = some m.cls := findClass_of_methodNamed Bd.named
  have hnm := (name_of_methodNamed Bd.named Bd.method).1
  have X0 : Stand p l e ({ frames := 1, cells := 0, slots := 0, locals := 12 } : Room) s m #[(.ref ob)] below meth c s₁ [] 0 0 := Stand.of_body Bd
  have e0 : s₁.heap = h0 := by rw [← hh, Bd.state]; rfl
  have N0 := Fr.nil n0
  have K0 : Keep h0 h0 [] := Keep.refl h0 _
  have pre0 : ∀ tq, Steps p.tables e below (s₁.setTop (mkF m 0 #[.val (.ref ob)] [])) tq → Steps p.tables e below (s₁.setTop (entryFrame m #[(.ref ob)] 1)) tq := fun tq kq => castTop (ef_11 m ob) kq
  obtain ⟨T1, X1, e1, st1⟩ := initO X0 hx hZ hown (hw _ (List.mem_of_getElem? (i := 69) rfl)) (hw _ (List.mem_of_getElem? (i := 20) rfl)) (hw _ (List.mem_of_getElem? (i := 21) rfl)) e0 (g := (mkF m 1 #[.val (.ref ob)] [(.ref ob)])) rfl (by rw [hml]; rfl) rfl (hb hby d11_1) (by decide) (W := 0) (by show 2 * 0 + _ ≤ _; exact Nat.le_of_eq rfl) (by decide)
  obtain ⟨fs, hr, hrun, hended, hW, hsame⟩ := X1.leave (v := none) (fun _ => rfl)
  refine ⟨_, _, pre0 _ ?_, hrun, hended, _, _, rfl, ?_, ⟨_, rfl⟩, hW, hsame.mono (by decide) (by decide)⟩
  · skip
    show Steps p.tables e below (s₁.setTop (mkF m 0 #[.val (.ref ob)] [])) _
    refine XS.aloadN X0.here hx rfl (hb hby d11_0) rfl rfl ?_
    refine st1 _ ?_
    show Steps p.tables e below (T1.setTop (mkF m 4 #[.val (.ref ob)] [])) _
    exact X1.returnOut hx Bd.returns (hb hby d11_4) hr
  · show Q11 Z ob h0 n0 _ T1.heap _
    rw [e1]
    exact ⟨rfl, N0, rfl⟩
theorem d10_0 : decode jdk_69_method_7_code 0 = .ok (.aload_n 0, 1) := by decide +kernel
theorem d10_1 : decode jdk_69_method_7_code 1 = .ok (.invokespecial 43, 3) := by decide +kernel
theorem d10_4 : decode jdk_69_method_7_code 4 = .ok (.aload_n 0, 1) := by decide +kernel
theorem d10_5 : decode jdk_69_method_7_code 5 = .ok (.ldc 92, 2) := by decide +kernel
theorem d10_7 : decode jdk_69_method_7_code 7 = .ok (.putfield 81, 3) := by decide +kernel
theorem d10_10 : decode jdk_69_method_7_code 10 = .ok (.return_, 1) := by decide +kernel
theorem pn_10 : plainName "java/util/HashMap" = true := by first | (simp [plainName, overriddenIn]; done) | decide +kernel
theorem ef_10 (m : MethodId) (x0 : Addr) : entryFrame m #[(.ref x0)] 1 = mkF m 0 #[.val (.ref x0)] [] := by first | (simp [entryFrame, mkF, argsToLocals, Value.category]; done) | rfl
def Q10 (Z : State) (ob : Addr) (h0 : Heap) (n0 : Nat) (v : Option Value) (h : Heap) (L : List Loc) : Prop := v = none ∧ Fr n0 L ∧ Keep h0 h [ob] ∧ Exa Z h ob "java/util/HashMap"
set_option maxRecDepth 65536 in
set_option maxHeartbeats 40000000 in
theorem rm10 (l : Launch) (Z : State) (a0 : Array Value) (hw : ∀ d ∈ tables_1, d.before a0 Z = true) (ws : List Jvm.Cond) (ob : Addr) (h0 : Heap) (n0 : Nat) (Z0 : n0 ≤ h0.size) (I0 : Fld Z h0 ob "java/util/HashMap" "loadFactor" "F" (.float (0 : UInt32))) (I1 : Exa Z h0 ob "java/util/HashMap") (g_ob : n0 ≤ ob) :
    MetFree l (⟨"java/util/HashMap", "<init>", "()V"⟩ : MethodName) (head1 (Jvm.Cond.code (⟨"java/util/HashMap", "<init>", "()V"⟩ : MethodName) jdk_69_method_7_code 1 none :: ws) ({ frames := 2, cells := 0, slots := 0, locals := 24 } : Room)) (fun a U => a = #[(.ref ob)] ∧ Z.Warmed39 U.vm ∧ U.heap = h0) (fun _ _ _ _ _ => True) (fun _ U o U' => ∃ v L, o = .returned v ∧ Q10 Z ob h0 n0 v U'.heap L ∧ FrameEnd U o U' L ({ frames := 2, cells := 0, slots := 0, locals := 24 } : Room).cells ({ frames := 2, cells := 0, slots := 0, locals := 24 } : Room).slots) := by
  refine MetFree.of_bodySF (plainFor_of_name pn_10) hisR ?_
  intro p e s m args below meth c s₁ Bd hml0 hP hK
  obtain ⟨rfl, hZ, hh⟩ := hP
  have hx := Bd.exec
  have hby := Bd.bytes
  have hml : c.maxLocals = 1 := hml0
  have hown : s.vm.findClass "java/util/HashMap" = some m.cls := findClass_of_methodNamed Bd.named
  have hnm := (name_of_methodNamed Bd.named Bd.method).1
  have X0 : Stand p l e ({ frames := 2, cells := 0, slots := 0, locals := 24 } : Room) s m #[(.ref ob)] below meth c s₁ [] 0 0 := Stand.of_body Bd
  have e0 : s₁.heap = h0 := by rw [← hh, Bd.state]; rfl
  have N0 := Fr.nil n0
  have K0 : Keep h0 h0 [ob] := Keep.refl h0 _
  have pre0 : ∀ tq, Steps p.tables e below (s₁.setTop (mkF m 0 #[.val (.ref ob)] [])) tq → Steps p.tables e below (s₁.setTop (entryFrame m #[(.ref ob)] 1)) tq := fun tq kq => castTop (ef_10 m ob) kq
  obtain ⟨_, _, ⟨T1, L1, k1, n1⟩, -, X1, ⟨Lc1, hQ1, l1, y1, z1⟩, st1⟩ := X0.specialBack hx (y := (⟨"java/util/AbstractMap", "<init>", "()V"⟩ : MethodName)) rfl hown (mvT hZ (hw _ (List.mem_of_getElem? (i := 63) rfl))) (mvT hZ (hw _ (List.mem_of_getElem? (i := 64) rfl))) (mvT hZ (hw _ (List.mem_of_getElem? (i := 68) rfl))) (by decide) (backOf (W := 0) (rm11 l Z a0 hw [] ob h0 n0 Z0 ) hZ (hw _ (List.mem_of_getElem? (i := 68) rfl)) (hw _ (List.mem_of_getElem? (i := 67) rfl)) (by decide) (by decide)) (g := (mkF m 1 #[.val (.ref ob)] [(.ref ob)])) rfl (by rw [hml]; rfl) (Steps.refl _) (a := ob) (argsL := []) (rest := []) (lenOf pd_2 rfl) rfl (by show 2 * 0 + _ ≤ _; exact Nat.le_of_eq rfl) (hb hby d10_1) (fun _ _ => ⟨rfl, e0, (by decide : 0 + 0 ≤ _), (by decide : 0 + 0 ≤ _)⟩)
  dsimp only [Pt.U, Pt.locs, Pt.cells, Pt.slots] at X1 l1 y1 z1 st1 hQ1
  replace y1 : k1 = 0 := y1
  replace z1 : n1 = 0 := z1
  subst l1 y1 z1
  obtain ⟨rfl, N1q, e1⟩ := hQ1
  have N1 := Fr.app N0 N1q
  obtain ⟨T2, hX2, X2, e2, W2, st2⟩ := putF X1 hx hZ hown (host := "") (Or.inl (hw _ (List.mem_of_getElem? (i := 71) rfl))) Via.refl e1 I0 I1 (Or.inr ⟨(hw _ (List.mem_of_getElem? (i := 72) rfl)), rfl, hnm⟩) (hw _ (List.mem_of_getElem? (i := 58) rfl)) (ty := .float) (by decide) rfl rfl (g := (mkF m 7 #[.val (.ref ob)] [(.float (1061158912 : UInt32)), (.ref ob)])) rfl rfl (hb hby d10_7)
  have N2 := Fr.snoc X2 N1 g_ob
  have F3 : Fld Z hX2 ob "java/util/HashMap" "loadFactor" "F" (.float (1061158912 : UInt32)) := I0.same W2
  have F4 : Exa Z hX2 ob "java/util/HashMap" := I1.wr W2
  have Z5 : n0 ≤ hX2.size := Nat.le_trans Z0 (Keep.of_wr W2).1
  have K6 : Keep h0 hX2 [ob] := K0.wr W2 (Or.inl (List.mem_of_getElem? (i := 0) rfl))
  obtain ⟨fs, hr, hrun, hended, hW, hsame⟩ := X2.leave (v := none) (fun _ => rfl)
  refine ⟨_, _, pre0 _ ?_, hrun, hended, _, _, rfl, ?_, ⟨_, rfl⟩, hW, hsame.mono (by decide) (by decide)⟩
  · skip
    show Steps p.tables e below (s₁.setTop (mkF m 0 #[.val (.ref ob)] [])) _
    refine XS.aloadN X0.here hx rfl (hb hby d10_0) rfl rfl ?_
    refine st1.trans ?_
    show Steps p.tables e below (T1.setTop (mkF m 4 #[.val (.ref ob)] [])) _
    refine XS.aloadN X1.here hx rfl (hb hby d10_4) rfl rfl ?_
    refine X1.ldcFloatC hx hown (mvT hZ (hw _ (List.mem_of_getElem? (i := 70) rfl))) (g := (mkF m 5 #[.val (.ref ob)] [(.ref ob)])) rfl (hb hby d10_5) _ ?_
    show Steps p.tables e below (T1.setTop (mkF m 7 #[.val (.ref ob)] [(.float (1061158912 : UInt32)), (.ref ob)])) _
    refine st2 _ ?_
    show Steps p.tables e below (T2.setTop (mkF m 10 #[.val (.ref ob)] [])) _
    exact X2.returnOut hx Bd.returns (hb hby d10_10) hr
  · show Q10 Z ob h0 n0 _ T2.heap _
    rw [e2]
    exact ⟨rfl, N2, K6, F4⟩
theorem d12_0 : decode prog_57_method_1_code 0 = .ok (.aload_n 0, 1) := by decide +kernel
theorem d12_1 : decode prog_57_method_1_code 1 = .ok (.invokespecial 1, 3) := by decide +kernel
theorem d12_4 : decode prog_57_method_1_code 4 = .ok (.aload_n 0, 1) := by decide +kernel
theorem d12_5 : decode prog_57_method_1_code 5 = .ok (.new 7, 3) := by decide +kernel
theorem d12_8 : decode prog_57_method_1_code 8 = .ok (.dup, 1) := by decide +kernel
theorem d12_9 : decode prog_57_method_1_code 9 = .ok (.invokespecial 9, 3) := by decide +kernel
theorem d12_12 : decode prog_57_method_1_code 12 = .ok (.putfield 10, 3) := by decide +kernel
theorem d12_15 : decode prog_57_method_1_code 15 = .ok (.aload_n 0, 1) := by decide +kernel
theorem d12_16 : decode prog_57_method_1_code 16 = .ok (.new 16, 3) := by decide +kernel
theorem d12_19 : decode prog_57_method_1_code 19 = .ok (.dup, 1) := by decide +kernel
theorem d12_20 : decode prog_57_method_1_code 20 = .ok (.invokespecial 18, 3) := by decide +kernel
theorem d12_23 : decode prog_57_method_1_code 23 = .ok (.putfield 19, 3) := by decide +kernel
theorem d12_26 : decode prog_57_method_1_code 26 = .ok (.return_, 1) := by decide +kernel
theorem pn_12 : plainName "com/example/twigmeter/twigmeter/xml/ArrayNumbers" = true := by first | (simp [plainName, overriddenIn]; done) | decide +kernel
theorem ef_12 (m : MethodId) (x0 : Addr) : entryFrame m #[(.ref x0)] 1 = mkF m 0 #[.val (.ref x0)] [] := by first | (simp [entryFrame, mkF, argsToLocals, Value.category]; done) | rfl
def Q12 (Z : State) (ob : Addr) (dd : Addr) (h0 : Heap) (n0 : Nat) (v : Option Value) (h : Heap) (L : List Loc) : Prop := v = none ∧ Fr n0 L ∧ Keep h0 h [ob] ∧ Exa Z h ob "com/example/twigmeter/twigmeter/xml/ArrayNumbers"
set_option maxRecDepth 65536 in
set_option maxHeartbeats 40000000 in
theorem rm12 (l : Launch) (Z : State) (a0 : Array Value) (hw : ∀ d ∈ tables_1, d.before a0 Z = true) (ws : List Jvm.Cond) (ob : Addr) (dd : Addr) (h0 : Heap) (n0 : Nat) (Z0 : n0 ≤ h0.size) (I0 : Fld Z h0 ob "com/example/twigmeter/twigmeter/xml/ArrayNumbers" "arrays" "Ljava/util/List;" .null) (I1 : Fld Z h0 ob "com/example/twigmeter/twigmeter/xml/ArrayNumbers" "numbers" "Ljava/util/Map;" .null) (I2 : Exa Z h0 ob "com/example/twigmeter/twigmeter/xml/ArrayNumbers") (I3 : Sta Z h0 "java/util/ArrayList" "DEFAULTCAPACITY_EMPTY_ELEMENTDATA" "[Ljava/lang/Object;" (.ref dd)) (g_ob : n0 ≤ ob) :
    MetFree l (⟨"com/example/twigmeter/twigmeter/xml/ArrayNumbers", "<init>", "()V"⟩ : MethodName) (head1 (Jvm.Cond.code (⟨"com/example/twigmeter/twigmeter/xml/ArrayNumbers", "<init>", "()V"⟩ : MethodName) prog_57_method_1_code 1 none :: ws) ({ frames := 4, cells := 2, slots := 11, locals := 50 } : Room)) (fun a U => a = #[(.ref ob)] ∧ Z.Warmed39 U.vm ∧ U.heap = h0) (fun _ _ _ _ _ => True) (fun _ U o U' => ∃ v L, o = .returned v ∧ Q12 Z ob dd h0 n0 v U'.heap L ∧ FrameEnd U o U' L ({ frames := 4, cells := 2, slots := 11, locals := 50 } : Room).cells ({ frames := 4, cells := 2, slots := 11, locals := 50 } : Room).slots) := by
  refine MetFree.of_bodySF (plainFor_of_name pn_12) hisR ?_
  intro p e s m args below meth c s₁ Bd hml0 hP hK
  obtain ⟨rfl, hZ, hh⟩ := hP
  have hx := Bd.exec
  have hby := Bd.bytes
  have hml : c.maxLocals = 1 := hml0
  have hown : s.vm.findClass "com/example/twigmeter/twigmeter/xml/ArrayNumbers" = some m.cls := findClass_of_methodNamed Bd.named
  have hnm := (name_of_methodNamed Bd.named Bd.method).1
  have X0 : Stand p l e ({ frames := 4, cells := 2, slots := 11, locals := 50 } : Room) s m #[(.ref ob)] below meth c s₁ [] 0 0 := Stand.of_body Bd
  have e0 : s₁.heap = h0 := by rw [← hh, Bd.state]; rfl
  have N0 := Fr.nil n0
  have K0 : Keep h0 h0 [ob] := Keep.refl h0 _
  have pre0 : ∀ tq, Steps p.tables e below (s₁.setTop (mkF m 0 #[.val (.ref ob)] [])) tq → Steps p.tables e below (s₁.setTop (entryFrame m #[(.ref ob)] 1)) tq := fun tq kq => castTop (ef_12 m ob) kq
  obtain ⟨T1, X1, e1, st1⟩ := initO X0 hx hZ hown (hw _ (List.mem_of_getElem? (i := 81) rfl)) (hw _ (List.mem_of_getElem? (i := 20) rfl)) (hw _ (List.mem_of_getElem? (i := 21) rfl)) e0 (g := (mkF m 1 #[.val (.ref ob)] [(.ref ob)])) rfl (by rw [hml]; rfl) rfl (hb hby d12_1) (by decide) (W := 0) (by show 2 * 0 + _ ≤ _; exact Nat.le_of_eq rfl) (by decide)
  obtain ⟨T2, hX2, X2, e2, E2, A2, D2, -, st2⟩ := newO X1 hx hZ hown (hw _ (List.mem_of_getElem? (i := 82) rfl)) (hw _ (List.mem_of_getElem? (i := 30) rfl)) (hw _ (List.mem_of_getElem? (i := 31) rfl)) e1 (g := (mkF m 5 #[.val (.ref ob)] [(.ref ob)])) rfl (hb hby d12_5) (by decide) (by decide)
  obtain ⟨b2, g2⟩ : ∃ z_q, z_q = h0.size := ⟨_, rfl⟩
  rw [← g2] at A2 D2 st2
  have g_b2 : n0 ≤ b2 := Nat.le_trans Z0 (Nat.le_of_eq g2.symm)
  have sz_b2 : h0.size ≤ b2 := Nat.le_trans K0.1 (Nat.le_of_eq g2.symm)
  have ne_ob_b2 : ob ≠ b2 := Nat.ne_of_lt (Nat.lt_of_lt_of_le I0.lt (Nat.le_of_eq g2.symm))
  have F3 : Fld Z hX2 ob "com/example/twigmeter/twigmeter/xml/ArrayNumbers" "arrays" "Ljava/util/List;" .null := I0.ext E2
  have F4 : Fld Z hX2 ob "com/example/twigmeter/twigmeter/xml/ArrayNumbers" "numbers" "Ljava/util/Map;" .null := I1.ext E2
  have F5 : Exa Z hX2 ob "com/example/twigmeter/twigmeter/xml/ArrayNumbers" := I2.ext E2
  have F6 : Sta Z hX2 "java/util/ArrayList" "DEFAULTCAPACITY_EMPTY_ELEMENTDATA" "[Ljava/lang/Object;" (.ref dd) := I3.ext E2
  have Z7 : n0 ≤ hX2.size := Nat.le_trans Z0 E2.1
  have K8 : Keep h0 hX2 [ob] := K0.ext E2
  have F9 : Fld Z hX2 b2 "java/util/AbstractList" "modCount" "I" (.int (0 : Int32)) := D2 (Or.inl (hw _ (List.mem_of_getElem? (i := 49) rfl))) (ty := .int) (by decide)
  have F10 : Fld Z hX2 b2 "java/util/ArrayList" "elementData" "[Ljava/lang/Object;" .null := D2 (Or.inl (hw _ (List.mem_of_getElem? (i := 52) rfl))) (ty := (.array (.object "java/lang/Object"))) (by decide)
  obtain ⟨_, _, ⟨T11, L11, k11, n11⟩, -, X11, ⟨Lc11, hQ11, l11, y11, z11⟩, st11⟩ := X2.specialBack hx (y := (⟨"java/util/ArrayList", "<init>", "()V"⟩ : MethodName)) rfl hown (mvT hZ (hw _ (List.mem_of_getElem? (i := 83) rfl))) (mvT hZ (hw _ (List.mem_of_getElem? (i := 33) rfl))) (mvT hZ (hw _ (List.mem_of_getElem? (i := 34) rfl))) (by decide) (backOf (W := 2) (rm7 l Z a0 hw [] b2 dd hX2 n0 Z7 F9 F10 A2 F6 g_b2) hZ (hw _ (List.mem_of_getElem? (i := 34) rfl)) (hw _ (List.mem_of_getElem? (i := 31) rfl)) (by decide) (by decide)) (g := (mkF m 9 #[.val (.ref ob)] [(.ref b2), (.ref b2), (.ref ob)])) rfl (by rw [hml]; rfl) (Steps.refl _) (a := b2) (argsL := []) (rest := [(.ref b2), (.ref ob)]) (lenOf pd_2 rfl) rfl (by show 2 * 0 + _ ≤ _; exact Nat.le_of_eq rfl) (hb hby d12_9) (fun _ _ => ⟨rfl, e2, (by decide : 1 + 0 ≤ _), (by decide : 3 + 0 ≤ _)⟩)
  dsimp only [Pt.U, Pt.locs, Pt.cells, Pt.slots] at X11 l11 y11 z11 st11 hQ11
  replace y11 : k11 = 1 := y11
  replace z11 : n11 = 3 := z11
  subst l11 y11 z11
  obtain ⟨rfl, N11q, K11q, F12⟩ := hQ11
  have N11 := Fr.app N0 N11q
  have F13 : Fld Z T11.heap ob "com/example/twigmeter/twigmeter/xml/ArrayNumbers" "arrays" "Ljava/util/List;" .null := F3.keep K11q (ninS ne_ob_b2 nin0)
  have F14 : Fld Z T11.heap ob "com/example/twigmeter/twigmeter/xml/ArrayNumbers" "numbers" "Ljava/util/Map;" .null := F4.keep K11q (ninS ne_ob_b2 nin0)
  have F15 : Exa Z T11.heap ob "com/example/twigmeter/twigmeter/xml/ArrayNumbers" := F5.keep K11q
  have F16 : Sta Z T11.heap "java/util/ArrayList" "DEFAULTCAPACITY_EMPTY_ELEMENTDATA" "[Ljava/lang/Object;" (.ref dd) := sta_keepL F6 K11q (allS (exa_plain A2) all0)
  have F17 : Exa Z T11.heap b2 "java/util/ArrayList" := A2.keep K11q
  have Z18 : n0 ≤ T11.heap.size := Nat.le_trans Z7 K11q.1
  have K19 : Keep h0 T11.heap [ob] := K8.trans K11q (allS (Or.inr sz_b2) all0)
  obtain ⟨T20, hX20, X20, e20, W20, st20⟩ := putF X11 hx hZ hown (host := "") (Or.inl (hw _ (List.mem_of_getElem? (i := 84) rfl))) Via.refl rfl F13 F15 (Or.inr ⟨(hw _ (List.mem_of_getElem? (i := 85) rfl)), rfl, hnm⟩) (hw _ (List.mem_of_getElem? (i := 76) rfl)) (ty := (.object "java/util/List")) (by decide) rfl rfl (g := (mkF m 12 #[.val (.ref ob)] [(.ref b2), (.ref ob)])) rfl rfl (hb hby d12_12)
  have N20 := Fr.snoc X20 N11 g_ob
  have F21 : Fld Z hX20 ob "com/example/twigmeter/twigmeter/xml/ArrayNumbers" "arrays" "Ljava/util/List;" (.ref b2) := F13.same W20
  have F22 : Fld Z hX20 ob "com/example/twigmeter/twigmeter/xml/ArrayNumbers" "numbers" "Ljava/util/Map;" .null := F14.other W20 (Or.inr (slot_ne (Or.inr (hw _ (List.mem_of_getElem? (i := 89) rfl))) (Or.inr (hw _ (List.mem_of_getElem? (i := 85) rfl))) (by decide) (t := (.object "java/util/Map")) (t' := (.object "java/util/List")) (by decide) (by decide)))
  have F23 : Exa Z hX20 ob "com/example/twigmeter/twigmeter/xml/ArrayNumbers" := F15.wr W20
  have F24 : Sta Z hX20 "java/util/ArrayList" "DEFAULTCAPACITY_EMPTY_ELEMENTDATA" "[Ljava/lang/Object;" (.ref dd) := F16.wr W20
  have F25 : Exa Z hX20 b2 "java/util/ArrayList" := F12.wr W20
  have Z26 : n0 ≤ hX20.size := Nat.le_trans Z18 (Keep.of_wr W20).1
  have K27 : Keep h0 hX20 [ob] := K19.wr W20 (Or.inl (List.mem_of_getElem? (i := 0) rfl))
  obtain ⟨T28, hX28, X28, e28, E28, A28, D28, -, st28⟩ := newO X20 hx hZ hown (hw _ (List.mem_of_getElem? (i := 86) rfl)) (hw _ (List.mem_of_getElem? (i := 58) rfl)) (hw _ (List.mem_of_getElem? (i := 59) rfl)) e20 (g := (mkF m 16 #[.val (.ref ob)] [(.ref ob)])) rfl (hb hby d12_16) (by decide) (by decide)
  obtain ⟨b28, g28⟩ : ∃ z_q, z_q = hX20.size := ⟨_, rfl⟩
  rw [← g28] at A28 D28 st28
  have g_b28 : n0 ≤ b28 := Nat.le_trans Z26 (Nat.le_of_eq g28.symm)
  have sz_b28 : h0.size ≤ b28 := Nat.le_trans K27.1 (Nat.le_of_eq g28.symm)
  have ne_ob_b28 : ob ≠ b28 := Nat.ne_of_lt (Nat.lt_of_lt_of_le F22.lt (Nat.le_of_eq g28.symm))
  have ne_b2_b28 : b2 ≠ b28 := Nat.ne_of_lt (Nat.lt_of_lt_of_le F25.lt (Nat.le_of_eq g28.symm))
  have F29 : Fld Z hX28 ob "com/example/twigmeter/twigmeter/xml/ArrayNumbers" "numbers" "Ljava/util/Map;" .null := F22.ext E28
  have F30 : Exa Z hX28 ob "com/example/twigmeter/twigmeter/xml/ArrayNumbers" := F23.ext E28
  have F31 : Sta Z hX28 "java/util/ArrayList" "DEFAULTCAPACITY_EMPTY_ELEMENTDATA" "[Ljava/lang/Object;" (.ref dd) := F24.ext E28
  have F32 : Exa Z hX28 b2 "java/util/ArrayList" := F25.ext E28
  have F33 : Fld Z hX28 ob "com/example/twigmeter/twigmeter/xml/ArrayNumbers" "arrays" "Ljava/util/List;" (.ref b2) := F21.ext E28
  have Z34 : n0 ≤ hX28.size := Nat.le_trans Z26 E28.1
  have K35 : Keep h0 hX28 [ob] := K27.ext E28
  have F36 : Fld Z hX28 b28 "java/util/HashMap" "loadFactor" "F" (.float (0 : UInt32)) := D28 (Or.inr (hw _ (List.mem_of_getElem? (i := 72) rfl))) (ty := .float) (by decide)
  obtain ⟨_, _, ⟨T37, L37, k37, n37⟩, -, X37, ⟨Lc37, hQ37, l37, y37, z37⟩, st37⟩ := X28.specialBack hx (y := (⟨"java/util/HashMap", "<init>", "()V"⟩ : MethodName)) rfl hown (mvT hZ (hw _ (List.mem_of_getElem? (i := 87) rfl))) (mvT hZ (hw _ (List.mem_of_getElem? (i := 61) rfl))) (mvT hZ (hw _ (List.mem_of_getElem? (i := 62) rfl))) (by decide) (backOf (W := 2) (rm10 l Z a0 hw [] b28 hX28 n0 Z34 F36 A28 g_b28) hZ (hw _ (List.mem_of_getElem? (i := 62) rfl)) (hw _ (List.mem_of_getElem? (i := 59) rfl)) (by decide) (by decide)) (g := (mkF m 20 #[.val (.ref ob)] [(.ref b28), (.ref b28), (.ref ob)])) rfl (by rw [hml]; rfl) (Steps.refl _) (a := b28) (argsL := []) (rest := [(.ref b28), (.ref ob)]) (lenOf pd_2 rfl) rfl (by show 2 * 0 + _ ≤ _; exact Nat.le_of_eq rfl) (hb hby d12_20) (fun _ _ => ⟨rfl, e28, (by decide : 2 + 0 ≤ _), (by decide : 11 + 0 ≤ _)⟩)
  dsimp only [Pt.U, Pt.locs, Pt.cells, Pt.slots] at X37 l37 y37 z37 st37 hQ37
  replace y37 : k37 = 2 := y37
  replace z37 : n37 = 11 := z37
  subst l37 y37 z37
  obtain ⟨rfl, N37q, K37q, F38⟩ := hQ37
  have N37 := Fr.app N20 N37q
  have F39 : Fld Z T37.heap ob "com/example/twigmeter/twigmeter/xml/ArrayNumbers" "numbers" "Ljava/util/Map;" .null := F29.keep K37q (ninS ne_ob_b28 nin0)
  have F40 : Exa Z T37.heap ob "com/example/twigmeter/twigmeter/xml/ArrayNumbers" := F30.keep K37q
  have F41 : Sta Z T37.heap "java/util/ArrayList" "DEFAULTCAPACITY_EMPTY_ELEMENTDATA" "[Ljava/lang/Object;" (.ref dd) := sta_keepL F31 K37q (allS (exa_plain A28) all0)
  have F42 : Exa Z T37.heap b2 "java/util/ArrayList" := F32.keep K37q
  have F43 : Fld Z T37.heap ob "com/example/twigmeter/twigmeter/xml/ArrayNumbers" "arrays" "Ljava/util/List;" (.ref b2) := F33.keep K37q (ninS ne_ob_b28 nin0)
  have F44 : Exa Z T37.heap b28 "java/util/HashMap" := A28.keep K37q
  have Z45 : n0 ≤ T37.heap.size := Nat.le_trans Z34 K37q.1
  have K46 : Keep h0 T37.heap [ob] := K35.trans K37q (allS (Or.inr sz_b28) all0)
  obtain ⟨T47, hX47, X47, e47, W47, st47⟩ := putF X37 hx hZ hown (host := "") (Or.inl (hw _ (List.mem_of_getElem? (i := 88) rfl))) Via.refl rfl F39 F40 (Or.inr ⟨(hw _ (List.mem_of_getElem? (i := 89) rfl)), rfl, hnm⟩) (hw _ (List.mem_of_getElem? (i := 76) rfl)) (ty := (.object "java/util/Map")) (by decide) rfl rfl (g := (mkF m 23 #[.val (.ref ob)] [(.ref b28), (.ref ob)])) rfl rfl (hb hby d12_23)
  have N47 := Fr.snoc X47 N37 g_ob
  have F48 : Fld Z hX47 ob "com/example/twigmeter/twigmeter/xml/ArrayNumbers" "numbers" "Ljava/util/Map;" (.ref b28) := F39.same W47
  have F49 : Exa Z hX47 ob "com/example/twigmeter/twigmeter/xml/ArrayNumbers" := F40.wr W47
  have F50 : Sta Z hX47 "java/util/ArrayList" "DEFAULTCAPACITY_EMPTY_ELEMENTDATA" "[Ljava/lang/Object;" (.ref dd) := F41.wr W47
  have F51 : Exa Z hX47 b2 "java/util/ArrayList" := F42.wr W47
  have F52 : Fld Z hX47 ob "com/example/twigmeter/twigmeter/xml/ArrayNumbers" "arrays" "Ljava/util/List;" (.ref b2) := F43.other W47 (Or.inr (slot_ne (Or.inr (hw _ (List.mem_of_getElem? (i := 85) rfl))) (Or.inr (hw _ (List.mem_of_getElem? (i := 89) rfl))) (by decide) (t := (.object "java/util/List")) (t' := (.object "java/util/Map")) (by decide) (by decide)))
  have F53 : Exa Z hX47 b28 "java/util/HashMap" := F38.wr W47
  have Z54 : n0 ≤ hX47.size := Nat.le_trans Z45 (Keep.of_wr W47).1
  have K55 : Keep h0 hX47 [ob] := K46.wr W47 (Or.inl (List.mem_of_getElem? (i := 0) rfl))
  obtain ⟨fs, hr, hrun, hended, hW, hsame⟩ := X47.leave (v := none) (fun _ => rfl)
  refine ⟨_, _, pre0 _ ?_, hrun, hended, _, _, rfl, ?_, ⟨_, rfl⟩, hW, hsame.mono (by decide) (by decide)⟩
  · skip
    show Steps p.tables e below (s₁.setTop (mkF m 0 #[.val (.ref ob)] [])) _
    refine XS.aloadN X0.here hx rfl (hb hby d12_0) rfl rfl ?_
    refine st1 _ ?_
    show Steps p.tables e below (T1.setTop (mkF m 4 #[.val (.ref ob)] [])) _
    refine XS.aloadN X1.here hx rfl (hb hby d12_4) rfl rfl ?_
    refine st2 _ ?_
    show Steps p.tables e below (T2.setTop (mkF m 8 #[.val (.ref ob)] [(.ref b2), (.ref ob)])) _
    refine XS.dup X2.here hx rfl (hb hby d12_8) rfl rfl ?_
    refine st11.trans ?_
    show Steps p.tables e below (T11.setTop (mkF m 12 #[.val (.ref ob)] [(.ref b2), (.ref ob)])) _
    refine st20 _ ?_
    show Steps p.tables e below (T20.setTop (mkF m 15 #[.val (.ref ob)] [])) _
    refine XS.aloadN X20.here hx rfl (hb hby d12_15) rfl rfl ?_
    refine st28 _ ?_
    show Steps p.tables e below (T28.setTop (mkF m 19 #[.val (.ref ob)] [(.ref b28), (.ref ob)])) _
    refine XS.dup X28.here hx rfl (hb hby d12_19) rfl rfl ?_
    refine st37.trans ?_
    show Steps p.tables e below (T37.setTop (mkF m 23 #[.val (.ref ob)] [(.ref b28), (.ref ob)])) _
    refine st47 _ ?_
    show Steps p.tables e below (T47.setTop (mkF m 26 #[.val (.ref ob)] [])) _
    exact X47.returnOut hx Bd.returns (hb hby d12_26) hr
  · show Q12 Z ob dd h0 n0 _ T47.heap _
    rw [e47]
    exact ⟨rfl, N47, K55, F49⟩
theorem d6_0 : decode prog_67_method_1_code 0 = .ok (.aload_n 0, 1) := by decide +kernel
theorem d6_1 : decode prog_67_method_1_code 1 = .ok (.invokespecial 1, 3) := by decide +kernel
theorem d6_4 : decode prog_67_method_1_code 4 = .ok (.aload_n 0, 1) := by decide +kernel
theorem d6_5 : decode prog_67_method_1_code 5 = .ok (.new 7, 3) := by decide +kernel
theorem d6_8 : decode prog_67_method_1_code 8 = .ok (.dup, 1) := by decide +kernel
theorem d6_9 : decode prog_67_method_1_code 9 = .ok (.invokespecial 9, 3) := by decide +kernel
theorem d6_12 : decode prog_67_method_1_code 12 = .ok (.putfield 10, 3) := by decide +kernel
theorem d6_15 : decode prog_67_method_1_code 15 = .ok (.aload_n 0, 1) := by decide +kernel
theorem d6_16 : decode prog_67_method_1_code 16 = .ok (.new 7, 3) := by decide +kernel
theorem d6_19 : decode prog_67_method_1_code 19 = .ok (.dup, 1) := by decide +kernel
theorem d6_20 : decode prog_67_method_1_code 20 = .ok (.invokespecial 9, 3) := by decide +kernel
theorem d6_23 : decode prog_67_method_1_code 23 = .ok (.putfield 16, 3) := by decide +kernel
theorem d6_26 : decode prog_67_method_1_code 26 = .ok (.aload_n 0, 1) := by decide +kernel
theorem d6_27 : decode prog_67_method_1_code 27 = .ok (.new 19, 3) := by decide +kernel
theorem d6_30 : decode prog_67_method_1_code 30 = .ok (.dup, 1) := by decide +kernel
theorem d6_31 : decode prog_67_method_1_code 31 = .ok (.invokespecial 21, 3) := by decide +kernel
theorem d6_34 : decode prog_67_method_1_code 34 = .ok (.putfield 22, 3) := by decide +kernel
theorem d6_37 : decode prog_67_method_1_code 37 = .ok (.aload_n 0, 1) := by decide +kernel
theorem d6_38 : decode prog_67_method_1_code 38 = .ok (.new 26, 3) := by decide +kernel
theorem d6_41 : decode prog_67_method_1_code 41 = .ok (.dup, 1) := by decide +kernel
theorem d6_42 : decode prog_67_method_1_code 42 = .ok (.invokespecial 28, 3) := by decide +kernel
theorem d6_45 : decode prog_67_method_1_code 45 = .ok (.putfield 29, 3) := by decide +kernel
theorem d6_48 : decode prog_67_method_1_code 48 = .ok (.return_, 1) := by decide +kernel
theorem pn_6 : plainName "com/example/twigmeter/twigmeter/xml/NameTable" = true := by first | (simp [plainName, overriddenIn]; done) | decide +kernel
theorem ef_6 (m : MethodId) (x0 : Addr) : entryFrame m #[(.ref x0)] 1 = mkF m 0 #[.val (.ref x0)] [] := by first | (simp [entryFrame, mkF, argsToLocals, Value.category]; done) | rfl
def Q6 (Z : State) (ob : Addr) (dd : Addr) (h0 : Heap) (n0 : Nat) (v : Option Value) (h : Heap) (L : List Loc) : Prop := v = none ∧ Fr n0 L ∧ Keep h0 h [ob] ∧ Exa Z h ob "com/example/twigmeter/twigmeter/xml/NameTable"
set_option maxRecDepth 65536 in
set_option maxHeartbeats 40000000 in
theorem rm6 (l : Launch) (Z : State) (a0 : Array Value) (hw : ∀ d ∈ tables_1, d.before a0 Z = true) (ws : List Jvm.Cond) (ob : Addr) (dd : Addr) (h0 : Heap) (n0 : Nat) (Z0 : n0 ≤ h0.size) (I0 : Fld Z h0 ob "com/example/twigmeter/twigmeter/xml/NameTable" "namespaces" "Ljava/util/List;" .null) (I1 : Fld Z h0 ob "com/example/twigmeter/twigmeter/xml/NameTable" "localNames" "Ljava/util/List;" .null) (I2 : Fld Z h0 ob "com/example/twigmeter/twigmeter/xml/NameTable" "nameNumbers" "Ljava/util/Map;" .null) (I3 : Fld Z h0 ob "com/example/twigmeter/twigmeter/xml/NameTable" "attributeSets" "Lcom/example/twigmeter/twigmeter/xml/ArrayNumbers;" .null) (I4 : Exa Z h0 ob "com/example/twigmeter/twigmeter/xml/NameTable") (I5 : Sta Z h0 "java/util/ArrayList" "DEFAULTCAPACITY_EMPTY_ELEMENTDATA" "[Ljava/lang/Object;" (.ref dd)) (g_ob : n0 ≤ ob) :
    MetFree l (⟨"com/example/twigmeter/twigmeter/xml/NameTable", "<init>", "()V"⟩ : MethodName) (head1 (Jvm.Cond.code (⟨"com/example/twigmeter/twigmeter/xml/NameTable", "<init>", "()V"⟩ : MethodName) prog_67_method_1_code 1 none :: ws) ({ frames := 5, cells := 6, slots := 27, locals := 64 } : Room)) (fun a U => a = #[(.ref ob)] ∧ Z.Warmed39 U.vm ∧ U.heap = h0) (fun _ _ _ _ _ => True) (fun _ U o U' => ∃ v L, o = .returned v ∧ Q6 Z ob dd h0 n0 v U'.heap L ∧ FrameEnd U o U' L ({ frames := 5, cells := 6, slots := 27, locals := 64 } : Room).cells ({ frames := 5, cells := 6, slots := 27, locals := 64 } : Room).slots) := by
  refine MetFree.of_bodySF (plainFor_of_name pn_6) hisR ?_
  intro p e s m args below meth c s₁ Bd hml0 hP hK
  obtain ⟨rfl, hZ, hh⟩ := hP
  have hx := Bd.exec
  have hby := Bd.bytes
  have hml : c.maxLocals = 1 := hml0
  have hown : s.vm.findClass "com/example/twigmeter/twigmeter/xml/NameTable" = some m.cls := findClass_of_methodNamed Bd.named
  have hnm := (name_of_methodNamed Bd.named Bd.method).1
  have X0 : Stand p l e ({ frames := 5, cells := 6, slots := 27, locals := 64 } : Room) s m #[(.ref ob)] below meth c s₁ [] 0 0 := Stand.of_body Bd
  have e0 : s₁.heap = h0 := by rw [← hh, Bd.state]; rfl
  have N0 := Fr.nil n0
  have K0 : Keep h0 h0 [ob] := Keep.refl h0 _
  have pre0 : ∀ tq, Steps p.tables e below (s₁.setTop (mkF m 0 #[.val (.ref ob)] [])) tq → Steps p.tables e below (s₁.setTop (entryFrame m #[(.ref ob)] 1)) tq := fun tq kq => castTop (ef_6 m ob) kq
  obtain ⟨T1, X1, e1, st1⟩ := initO X0 hx hZ hown (hw _ (List.mem_of_getElem? (i := 28) rfl)) (hw _ (List.mem_of_getElem? (i := 20) rfl)) (hw _ (List.mem_of_getElem? (i := 21) rfl)) e0 (g := (mkF m 1 #[.val (.ref ob)] [(.ref ob)])) rfl (by rw [hml]; rfl) rfl (hb hby d6_1) (by decide) (W := 0) (by show 2 * 0 + _ ≤ _; exact Nat.le_of_eq rfl) (by decide)
  obtain ⟨T2, hX2, X2, e2, E2, A2, D2, -, st2⟩ := newO X1 hx hZ hown (hw _ (List.mem_of_getElem? (i := 29) rfl)) (hw _ (List.mem_of_getElem? (i := 30) rfl)) (hw _ (List.mem_of_getElem? (i := 31) rfl)) e1 (g := (mkF m 5 #[.val (.ref ob)] [(.ref ob)])) rfl (hb hby d6_5) (by decide) (by decide)
  obtain ⟨b2, g2⟩ : ∃ z_q, z_q = h0.size := ⟨_, rfl⟩
  rw [← g2] at A2 D2 st2
  have g_b2 : n0 ≤ b2 := Nat.le_trans Z0 (Nat.le_of_eq g2.symm)
  have sz_b2 : h0.size ≤ b2 := Nat.le_trans K0.1 (Nat.le_of_eq g2.symm)
  have ne_ob_b2 : ob ≠ b2 := Nat.ne_of_lt (Nat.lt_of_lt_of_le I0.lt (Nat.le_of_eq g2.symm))
  have F3 : Fld Z hX2 ob "com/example/twigmeter/twigmeter/xml/NameTable" "namespaces" "Ljava/util/List;" .null := I0.ext E2
  have F4 : Fld Z hX2 ob "com/example/twigmeter/twigmeter/xml/NameTable" "localNames" "Ljava/util/List;" .null := I1.ext E2
  have F5 : Fld Z hX2 ob "com/example/twigmeter/twigmeter/xml/NameTable" "nameNumbers" "Ljava/util/Map;" .null := I2.ext E2
  have F6 : Fld Z hX2 ob "com/example/twigmeter/twigmeter/xml/NameTable" "attributeSets" "Lcom/example/twigmeter/twigmeter/xml/ArrayNumbers;" .null := I3.ext E2
  have F7 : Exa Z hX2 ob "com/example/twigmeter/twigmeter/xml/NameTable" := I4.ext E2
  have F8 : Sta Z hX2 "java/util/ArrayList" "DEFAULTCAPACITY_EMPTY_ELEMENTDATA" "[Ljava/lang/Object;" (.ref dd) := I5.ext E2
  have Z9 : n0 ≤ hX2.size := Nat.le_trans Z0 E2.1
  have K10 : Keep h0 hX2 [ob] := K0.ext E2
  have F11 : Fld Z hX2 b2 "java/util/AbstractList" "modCount" "I" (.int (0 : Int32)) := D2 (Or.inl (hw _ (List.mem_of_getElem? (i := 49) rfl))) (ty := .int) (by decide)
  have F12 : Fld Z hX2 b2 "java/util/ArrayList" "elementData" "[Ljava/lang/Object;" .null := D2 (Or.inl (hw _ (List.mem_of_getElem? (i := 52) rfl))) (ty := (.array (.object "java/lang/Object"))) (by decide)
  obtain ⟨_, _, ⟨T13, L13, k13, n13⟩, -, X13, ⟨Lc13, hQ13, l13, y13, z13⟩, st13⟩ := X2.specialBack hx (y := (⟨"java/util/ArrayList", "<init>", "()V"⟩ : MethodName)) rfl hown (mvT hZ (hw _ (List.mem_of_getElem? (i := 32) rfl))) (mvT hZ (hw _ (List.mem_of_getElem? (i := 33) rfl))) (mvT hZ (hw _ (List.mem_of_getElem? (i := 34) rfl))) (by decide) (backOf (W := 2) (rm7 l Z a0 hw [] b2 dd hX2 n0 Z9 F11 F12 A2 F8 g_b2) hZ (hw _ (List.mem_of_getElem? (i := 34) rfl)) (hw _ (List.mem_of_getElem? (i := 31) rfl)) (by decide) (by decide)) (g := (mkF m 9 #[.val (.ref ob)] [(.ref b2), (.ref b2), (.ref ob)])) rfl (by rw [hml]; rfl) (Steps.refl _) (a := b2) (argsL := []) (rest := [(.ref b2), (.ref ob)]) (lenOf pd_2 rfl) rfl (by show 2 * 0 + _ ≤ _; exact Nat.le_of_eq rfl) (hb hby d6_9) (fun _ _ => ⟨rfl, e2, (by decide : 1 + 0 ≤ _), (by decide : 3 + 0 ≤ _)⟩)
  dsimp only [Pt.U, Pt.locs, Pt.cells, Pt.slots] at X13 l13 y13 z13 st13 hQ13
  replace y13 : k13 = 1 := y13
  replace z13 : n13 = 3 := z13
  subst l13 y13 z13
  obtain ⟨rfl, N13q, K13q, F14⟩ := hQ13
  have N13 := Fr.app N0 N13q
  have F15 : Fld Z T13.heap ob "com/example/twigmeter/twigmeter/xml/NameTable" "namespaces" "Ljava/util/List;" .null := F3.keep K13q (ninS ne_ob_b2 nin0)
  have F16 : Fld Z T13.heap ob "com/example/twigmeter/twigmeter/xml/NameTable" "localNames" "Ljava/util/List;" .null := F4.keep K13q (ninS ne_ob_b2 nin0)
  have F17 : Fld Z T13.heap ob "com/example/twigmeter/twigmeter/xml/NameTable" "nameNumbers" "Ljava/util/Map;" .null := F5.keep K13q (ninS ne_ob_b2 nin0)
  have F18 : Fld Z T13.heap ob "com/example/twigmeter/twigmeter/xml/NameTable" "attributeSets" "Lcom/example/twigmeter/twigmeter/xml/ArrayNumbers;" .null := F6.keep K13q (ninS ne_ob_b2 nin0)
  have F19 : Exa Z T13.heap ob "com/example/twigmeter/twigmeter/xml/NameTable" := F7.keep K13q
  have F20 : Sta Z T13.heap "java/util/ArrayList" "DEFAULTCAPACITY_EMPTY_ELEMENTDATA" "[Ljava/lang/Object;" (.ref dd) := sta_keepL F8 K13q (allS (exa_plain A2) all0)
  have F21 : Exa Z T13.heap b2 "java/util/ArrayList" := A2.keep K13q
  have Z22 : n0 ≤ T13.heap.size := Nat.le_trans Z9 K13q.1
  have K23 : Keep h0 T13.heap [ob] := K10.trans K13q (allS (Or.inr sz_b2) all0)
  obtain ⟨T24, hX24, X24, e24, W24, st24⟩ := putF X13 hx hZ hown (host := "") (Or.inl (hw _ (List.mem_of_getElem? (i := 53) rfl))) Via.refl rfl F15 F19 (Or.inr ⟨(hw _ (List.mem_of_getElem? (i := 54) rfl)), rfl, hnm⟩) (hw _ (List.mem_of_getElem? (i := 23) rfl)) (ty := (.object "java/util/List")) (by decide) rfl rfl (g := (mkF m 12 #[.val (.ref ob)] [(.ref b2), (.ref ob)])) rfl rfl (hb hby d6_12)
  have N24 := Fr.snoc X24 N13 g_ob
  have F25 : Fld Z hX24 ob "com/example/twigmeter/twigmeter/xml/NameTable" "namespaces" "Ljava/util/List;" (.ref b2) := F15.same W24
  have F26 : Fld Z hX24 ob "com/example/twigmeter/twigmeter/xml/NameTable" "localNames" "Ljava/util/List;" .null := F16.other W24 (Or.inr (slot_ne (Or.inr (hw _ (List.mem_of_getElem? (i := 56) rfl))) (Or.inr (hw _ (List.mem_of_getElem? (i := 54) rfl))) (by decide) (t := (.object "java/util/List")) (t' := (.object "java/util/List")) (by decide) (by decide)))
  have F27 : Fld Z hX24 ob "com/example/twigmeter/twigmeter/xml/NameTable" "nameNumbers" "Ljava/util/Map;" .null := F17.other W24 (Or.inr (slot_ne (Or.inr (hw _ (List.mem_of_getElem? (i := 74) rfl))) (Or.inr (hw _ (List.mem_of_getElem? (i := 54) rfl))) (by decide) (t := (.object "java/util/Map")) (t' := (.object "java/util/List")) (by decide) (by decide)))
  have F28 : Fld Z hX24 ob "com/example/twigmeter/twigmeter/xml/NameTable" "attributeSets" "Lcom/example/twigmeter/twigmeter/xml/ArrayNumbers;" .null := F18.other W24 (Or.inr (slot_ne (Or.inr (hw _ (List.mem_of_getElem? (i := 91) rfl))) (Or.inr (hw _ (List.mem_of_getElem? (i := 54) rfl))) (by decide) (t := (.object "com/example/twigmeter/twigmeter/xml/ArrayNumbers")) (t' := (.object "java/util/List")) (by decide) (by decide)))
  have F29 : Exa Z hX24 ob "com/example/twigmeter/twigmeter/xml/NameTable" := F19.wr W24
  have F30 : Sta Z hX24 "java/util/ArrayList" "DEFAULTCAPACITY_EMPTY_ELEMENTDATA" "[Ljava/lang/Object;" (.ref dd) := F20.wr W24
  have F31 : Exa Z hX24 b2 "java/util/ArrayList" := F14.wr W24
  have Z32 : n0 ≤ hX24.size := Nat.le_trans Z22 (Keep.of_wr W24).1
  have K33 : Keep h0 hX24 [ob] := K23.wr W24 (Or.inl (List.mem_of_getElem? (i := 0) rfl))
  obtain ⟨T34, hX34, X34, e34, E34, A34, D34, -, st34⟩ := newO X24 hx hZ hown (hw _ (List.mem_of_getElem? (i := 29) rfl)) (hw _ (List.mem_of_getElem? (i := 30) rfl)) (hw _ (List.mem_of_getElem? (i := 31) rfl)) e24 (g := (mkF m 16 #[.val (.ref ob)] [(.ref ob)])) rfl (hb hby d6_16) (by decide) (by decide)
  obtain ⟨b34, g34⟩ : ∃ z_q, z_q = hX24.size := ⟨_, rfl⟩
  rw [← g34] at A34 D34 st34
  have g_b34 : n0 ≤ b34 := Nat.le_trans Z32 (Nat.le_of_eq g34.symm)
  have sz_b34 : h0.size ≤ b34 := Nat.le_trans K33.1 (Nat.le_of_eq g34.symm)
  have ne_ob_b34 : ob ≠ b34 := Nat.ne_of_lt (Nat.lt_of_lt_of_le F26.lt (Nat.le_of_eq g34.symm))
  have ne_b2_b34 : b2 ≠ b34 := Nat.ne_of_lt (Nat.lt_of_lt_of_le F31.lt (Nat.le_of_eq g34.symm))
  have F35 : Fld Z hX34 ob "com/example/twigmeter/twigmeter/xml/NameTable" "localNames" "Ljava/util/List;" .null := F26.ext E34
  have F36 : Fld Z hX34 ob "com/example/twigmeter/twigmeter/xml/NameTable" "nameNumbers" "Ljava/util/Map;" .null := F27.ext E34
  have F37 : Fld Z hX34 ob "com/example/twigmeter/twigmeter/xml/NameTable" "attributeSets" "Lcom/example/twigmeter/twigmeter/xml/ArrayNumbers;" .null := F28.ext E34
  have F38 : Exa Z hX34 ob "com/example/twigmeter/twigmeter/xml/NameTable" := F29.ext E34
  have F39 : Sta Z hX34 "java/util/ArrayList" "DEFAULTCAPACITY_EMPTY_ELEMENTDATA" "[Ljava/lang/Object;" (.ref dd) := F30.ext E34
  have F40 : Exa Z hX34 b2 "java/util/ArrayList" := F31.ext E34
  have F41 : Fld Z hX34 ob "com/example/twigmeter/twigmeter/xml/NameTable" "namespaces" "Ljava/util/List;" (.ref b2) := F25.ext E34
  have Z42 : n0 ≤ hX34.size := Nat.le_trans Z32 E34.1
  have K43 : Keep h0 hX34 [ob] := K33.ext E34
  have F44 : Fld Z hX34 b34 "java/util/AbstractList" "modCount" "I" (.int (0 : Int32)) := D34 (Or.inl (hw _ (List.mem_of_getElem? (i := 49) rfl))) (ty := .int) (by decide)
  have F45 : Fld Z hX34 b34 "java/util/ArrayList" "elementData" "[Ljava/lang/Object;" .null := D34 (Or.inl (hw _ (List.mem_of_getElem? (i := 52) rfl))) (ty := (.array (.object "java/lang/Object"))) (by decide)
  obtain ⟨_, _, ⟨T46, L46, k46, n46⟩, -, X46, ⟨Lc46, hQ46, l46, y46, z46⟩, st46⟩ := X34.specialBack hx (y := (⟨"java/util/ArrayList", "<init>", "()V"⟩ : MethodName)) rfl hown (mvT hZ (hw _ (List.mem_of_getElem? (i := 32) rfl))) (mvT hZ (hw _ (List.mem_of_getElem? (i := 33) rfl))) (mvT hZ (hw _ (List.mem_of_getElem? (i := 34) rfl))) (by decide) (backOf (W := 2) (rm7 l Z a0 hw [] b34 dd hX34 n0 Z42 F44 F45 A34 F39 g_b34) hZ (hw _ (List.mem_of_getElem? (i := 34) rfl)) (hw _ (List.mem_of_getElem? (i := 31) rfl)) (by decide) (by decide)) (g := (mkF m 20 #[.val (.ref ob)] [(.ref b34), (.ref b34), (.ref ob)])) rfl (by rw [hml]; rfl) (Steps.refl _) (a := b34) (argsL := []) (rest := [(.ref b34), (.ref ob)]) (lenOf pd_2 rfl) rfl (by show 2 * 0 + _ ≤ _; exact Nat.le_of_eq rfl) (hb hby d6_20) (fun _ _ => ⟨rfl, e34, (by decide : 2 + 0 ≤ _), (by decide : 6 + 0 ≤ _)⟩)
  dsimp only [Pt.U, Pt.locs, Pt.cells, Pt.slots] at X46 l46 y46 z46 st46 hQ46
  replace y46 : k46 = 2 := y46
  replace z46 : n46 = 6 := z46
  subst l46 y46 z46
  obtain ⟨rfl, N46q, K46q, F47⟩ := hQ46
  have N46 := Fr.app N24 N46q
  have F48 : Fld Z T46.heap ob "com/example/twigmeter/twigmeter/xml/NameTable" "localNames" "Ljava/util/List;" .null := F35.keep K46q (ninS ne_ob_b34 nin0)
  have F49 : Fld Z T46.heap ob "com/example/twigmeter/twigmeter/xml/NameTable" "nameNumbers" "Ljava/util/Map;" .null := F36.keep K46q (ninS ne_ob_b34 nin0)
  have F50 : Fld Z T46.heap ob "com/example/twigmeter/twigmeter/xml/NameTable" "attributeSets" "Lcom/example/twigmeter/twigmeter/xml/ArrayNumbers;" .null := F37.keep K46q (ninS ne_ob_b34 nin0)
  have F51 : Exa Z T46.heap ob "com/example/twigmeter/twigmeter/xml/NameTable" := F38.keep K46q
  have F52 : Sta Z T46.heap "java/util/ArrayList" "DEFAULTCAPACITY_EMPTY_ELEMENTDATA" "[Ljava/lang/Object;" (.ref dd) := sta_keepL F39 K46q (allS (exa_plain A34) all0)
  have F53 : Exa Z T46.heap b2 "java/util/ArrayList" := F40.keep K46q
  have F54 : Fld Z T46.heap ob "com/example/twigmeter/twigmeter/xml/NameTable" "namespaces" "Ljava/util/List;" (.ref b2) := F41.keep K46q (ninS ne_ob_b34 nin0)
  have F55 : Exa Z T46.heap b34 "java/util/ArrayList" := A34.keep K46q
  have Z56 : n0 ≤ T46.heap.size := Nat.le_trans Z42 K46q.1
  have K57 : Keep h0 T46.heap [ob] := K43.trans K46q (allS (Or.inr sz_b34) all0)
  obtain ⟨T58, hX58, X58, e58, W58, st58⟩ := putF X46 hx hZ hown (host := "") (Or.inl (hw _ (List.mem_of_getElem? (i := 55) rfl))) Via.refl rfl F48 F51 (Or.inr ⟨(hw _ (List.mem_of_getElem? (i := 56) rfl)), rfl, hnm⟩) (hw _ (List.mem_of_getElem? (i := 23) rfl)) (ty := (.object "java/util/List")) (by decide) rfl rfl (g := (mkF m 23 #[.val (.ref ob)] [(.ref b34), (.ref ob)])) rfl rfl (hb hby d6_23)
  have N58 := Fr.snoc X58 N46 g_ob
  have F59 : Fld Z hX58 ob "com/example/twigmeter/twigmeter/xml/NameTable" "localNames" "Ljava/util/List;" (.ref b34) := F48.same W58
  have F60 : Fld Z hX58 ob "com/example/twigmeter/twigmeter/xml/NameTable" "nameNumbers" "Ljava/util/Map;" .null := F49.other W58 (Or.inr (slot_ne (Or.inr (hw _ (List.mem_of_getElem? (i := 74) rfl))) (Or.inr (hw _ (List.mem_of_getElem? (i := 56) rfl))) (by decide) (t := (.object "java/util/Map")) (t' := (.object "java/util/List")) (by decide) (by decide)))
  have F61 : Fld Z hX58 ob "com/example/twigmeter/twigmeter/xml/NameTable" "attributeSets" "Lcom/example/twigmeter/twigmeter/xml/ArrayNumbers;" .null := F50.other W58 (Or.inr (slot_ne (Or.inr (hw _ (List.mem_of_getElem? (i := 91) rfl))) (Or.inr (hw _ (List.mem_of_getElem? (i := 56) rfl))) (by decide) (t := (.object "com/example/twigmeter/twigmeter/xml/ArrayNumbers")) (t' := (.object "java/util/List")) (by decide) (by decide)))
  have F62 : Exa Z hX58 ob "com/example/twigmeter/twigmeter/xml/NameTable" := F51.wr W58
  have F63 : Sta Z hX58 "java/util/ArrayList" "DEFAULTCAPACITY_EMPTY_ELEMENTDATA" "[Ljava/lang/Object;" (.ref dd) := F52.wr W58
  have F64 : Exa Z hX58 b2 "java/util/ArrayList" := F53.wr W58
  have F65 : Fld Z hX58 ob "com/example/twigmeter/twigmeter/xml/NameTable" "namespaces" "Ljava/util/List;" (.ref b2) := F54.other W58 (Or.inr (slot_ne (Or.inr (hw _ (List.mem_of_getElem? (i := 54) rfl))) (Or.inr (hw _ (List.mem_of_getElem? (i := 56) rfl))) (by decide) (t := (.object "java/util/List")) (t' := (.object "java/util/List")) (by decide) (by decide)))
  have F66 : Exa Z hX58 b34 "java/util/ArrayList" := F47.wr W58
  have Z67 : n0 ≤ hX58.size := Nat.le_trans Z56 (Keep.of_wr W58).1
  have K68 : Keep h0 hX58 [ob] := K57.wr W58 (Or.inl (List.mem_of_getElem? (i := 0) rfl))
  obtain ⟨T69, hX69, X69, e69, E69, A69, D69, -, st69⟩ := newO X58 hx hZ hown (hw _ (List.mem_of_getElem? (i := 57) rfl)) (hw _ (List.mem_of_getElem? (i := 58) rfl)) (hw _ (List.mem_of_getElem? (i := 59) rfl)) e58 (g := (mkF m 27 #[.val (.ref ob)] [(.ref ob)])) rfl (hb hby d6_27) (by decide) (by decide)
  obtain ⟨b69, g69⟩ : ∃ z_q, z_q = hX58.size := ⟨_, rfl⟩
  rw [← g69] at A69 D69 st69
  have g_b69 : n0 ≤ b69 := Nat.le_trans Z67 (Nat.le_of_eq g69.symm)
  have sz_b69 : h0.size ≤ b69 := Nat.le_trans K68.1 (Nat.le_of_eq g69.symm)
  have ne_ob_b69 : ob ≠ b69 := Nat.ne_of_lt (Nat.lt_of_lt_of_le F60.lt (Nat.le_of_eq g69.symm))
  have ne_b2_b69 : b2 ≠ b69 := Nat.ne_of_lt (Nat.lt_of_lt_of_le F64.lt (Nat.le_of_eq g69.symm))
  have ne_b34_b69 : b34 ≠ b69 := Nat.ne_of_lt (Nat.lt_of_lt_of_le F66.lt (Nat.le_of_eq g69.symm))
  have F70 : Fld Z hX69 ob "com/example/twigmeter/twigmeter/xml/NameTable" "nameNumbers" "Ljava/util/Map;" .null := F60.ext E69
  have F71 : Fld Z hX69 ob "com/example/twigmeter/twigmeter/xml/NameTable" "attributeSets" "Lcom/example/twigmeter/twigmeter/xml/ArrayNumbers;" .null := F61.ext E69
  have F72 : Exa Z hX69 ob "com/example/twigmeter/twigmeter/xml/NameTable" := F62.ext E69
  have F73 : Sta Z hX69 "java/util/ArrayList" "DEFAULTCAPACITY_EMPTY_ELEMENTDATA" "[Ljava/lang/Object;" (.ref dd) := F63.ext E69
  have F74 : Exa Z hX69 b2 "java/util/ArrayList" := F64.ext E69
  have F75 : Fld Z hX69 ob "com/example/twigmeter/twigmeter/xml/NameTable" "namespaces" "Ljava/util/List;" (.ref b2) := F65.ext E69
  have F76 : Exa Z hX69 b34 "java/util/ArrayList" := F66.ext E69
  have F77 : Fld Z hX69 ob "com/example/twigmeter/twigmeter/xml/NameTable" "localNames" "Ljava/util/List;" (.ref b34) := F59.ext E69
  have Z78 : n0 ≤ hX69.size := Nat.le_trans Z67 E69.1
  have K79 : Keep h0 hX69 [ob] := K68.ext E69
  have F80 : Fld Z hX69 b69 "java/util/HashMap" "loadFactor" "F" (.float (0 : UInt32)) := D69 (Or.inr (hw _ (List.mem_of_getElem? (i := 72) rfl))) (ty := .float) (by decide)
  obtain ⟨_, _, ⟨T81, L81, k81, n81⟩, -, X81, ⟨Lc81, hQ81, l81, y81, z81⟩, st81⟩ := X69.specialBack hx (y := (⟨"java/util/HashMap", "<init>", "()V"⟩ : MethodName)) rfl hown (mvT hZ (hw _ (List.mem_of_getElem? (i := 60) rfl))) (mvT hZ (hw _ (List.mem_of_getElem? (i := 61) rfl))) (mvT hZ (hw _ (List.mem_of_getElem? (i := 62) rfl))) (by decide) (backOf (W := 2) (rm10 l Z a0 hw [] b69 hX69 n0 Z78 F80 A69 g_b69) hZ (hw _ (List.mem_of_getElem? (i := 62) rfl)) (hw _ (List.mem_of_getElem? (i := 59) rfl)) (by decide) (by decide)) (g := (mkF m 31 #[.val (.ref ob)] [(.ref b69), (.ref b69), (.ref ob)])) rfl (by rw [hml]; rfl) (Steps.refl _) (a := b69) (argsL := []) (rest := [(.ref b69), (.ref ob)]) (lenOf pd_2 rfl) rfl (by show 2 * 0 + _ ≤ _; exact Nat.le_of_eq rfl) (hb hby d6_31) (fun _ _ => ⟨rfl, e69, (by decide : 3 + 0 ≤ _), (by decide : 14 + 0 ≤ _)⟩)
  dsimp only [Pt.U, Pt.locs, Pt.cells, Pt.slots] at X81 l81 y81 z81 st81 hQ81
  replace y81 : k81 = 3 := y81
  replace z81 : n81 = 14 := z81
  subst l81 y81 z81
  obtain ⟨rfl, N81q, K81q, F82⟩ := hQ81
  have N81 := Fr.app N58 N81q
  have F83 : Fld Z T81.heap ob "com/example/twigmeter/twigmeter/xml/NameTable" "nameNumbers" "Ljava/util/Map;" .null := F70.keep K81q (ninS ne_ob_b69 nin0)
  have F84 : Fld Z T81.heap ob "com/example/twigmeter/twigmeter/xml/NameTable" "attributeSets" "Lcom/example/twigmeter/twigmeter/xml/ArrayNumbers;" .null := F71.keep K81q (ninS ne_ob_b69 nin0)
  have F85 : Exa Z T81.heap ob "com/example/twigmeter/twigmeter/xml/NameTable" := F72.keep K81q
  have F86 : Sta Z T81.heap "java/util/ArrayList" "DEFAULTCAPACITY_EMPTY_ELEMENTDATA" "[Ljava/lang/Object;" (.ref dd) := sta_keepL F73 K81q (allS (exa_plain A69) all0)
  have F87 : Exa Z T81.heap b2 "java/util/ArrayList" := F74.keep K81q
  have F88 : Fld Z T81.heap ob "com/example/twigmeter/twigmeter/xml/NameTable" "namespaces" "Ljava/util/List;" (.ref b2) := F75.keep K81q (ninS ne_ob_b69 nin0)
  have F89 : Exa Z T81.heap b34 "java/util/ArrayList" := F76.keep K81q
  have F90 : Fld Z T81.heap ob "com/example/twigmeter/twigmeter/xml/NameTable" "localNames" "Ljava/util/List;" (.ref b34) := F77.keep K81q (ninS ne_ob_b69 nin0)
  have F91 : Exa Z T81.heap b69 "java/util/HashMap" := A69.keep K81q
  have Z92 : n0 ≤ T81.heap.size := Nat.le_trans Z78 K81q.1
  have K93 : Keep h0 T81.heap [ob] := K79.trans K81q (allS (Or.inr sz_b69) all0)
  obtain ⟨T94, hX94, X94, e94, W94, st94⟩ := putF X81 hx hZ hown (host := "") (Or.inl (hw _ (List.mem_of_getElem? (i := 73) rfl))) Via.refl rfl F83 F85 (Or.inr ⟨(hw _ (List.mem_of_getElem? (i := 74) rfl)), rfl, hnm⟩) (hw _ (List.mem_of_getElem? (i := 23) rfl)) (ty := (.object "java/util/Map")) (by decide) rfl rfl (g := (mkF m 34 #[.val (.ref ob)] [(.ref b69), (.ref ob)])) rfl rfl (hb hby d6_34)
  have N94 := Fr.snoc X94 N81 g_ob
  have F95 : Fld Z hX94 ob "com/example/twigmeter/twigmeter/xml/NameTable" "nameNumbers" "Ljava/util/Map;" (.ref b69) := F83.same W94
  have F96 : Fld Z hX94 ob "com/example/twigmeter/twigmeter/xml/NameTable" "attributeSets" "Lcom/example/twigmeter/twigmeter/xml/ArrayNumbers;" .null := F84.other W94 (Or.inr (slot_ne (Or.inr (hw _ (List.mem_of_getElem? (i := 91) rfl))) (Or.inr (hw _ (List.mem_of_getElem? (i := 74) rfl))) (by decide) (t := (.object "com/example/twigmeter/twigmeter/xml/ArrayNumbers")) (t' := (.object "java/util/Map")) (by decide) (by decide)))
  have F97 : Exa Z hX94 ob "com/example/twigmeter/twigmeter/xml/NameTable" := F85.wr W94
  have F98 : Sta Z hX94 "java/util/ArrayList" "DEFAULTCAPACITY_EMPTY_ELEMENTDATA" "[Ljava/lang/Object;" (.ref dd) := F86.wr W94
  have F99 : Exa Z hX94 b2 "java/util/ArrayList" := F87.wr W94
  have F100 : Fld Z hX94 ob "com/example/twigmeter/twigmeter/xml/NameTable" "namespaces" "Ljava/util/List;" (.ref b2) := F88.other W94 (Or.inr (slot_ne (Or.inr (hw _ (List.mem_of_getElem? (i := 54) rfl))) (Or.inr (hw _ (List.mem_of_getElem? (i := 74) rfl))) (by decide) (t := (.object "java/util/List")) (t' := (.object "java/util/Map")) (by decide) (by decide)))
  have F101 : Exa Z hX94 b34 "java/util/ArrayList" := F89.wr W94
  have F102 : Fld Z hX94 ob "com/example/twigmeter/twigmeter/xml/NameTable" "localNames" "Ljava/util/List;" (.ref b34) := F90.other W94 (Or.inr (slot_ne (Or.inr (hw _ (List.mem_of_getElem? (i := 56) rfl))) (Or.inr (hw _ (List.mem_of_getElem? (i := 74) rfl))) (by decide) (t := (.object "java/util/List")) (t' := (.object "java/util/Map")) (by decide) (by decide)))
  have F103 : Exa Z hX94 b69 "java/util/HashMap" := F82.wr W94
  have Z104 : n0 ≤ hX94.size := Nat.le_trans Z92 (Keep.of_wr W94).1
  have K105 : Keep h0 hX94 [ob] := K93.wr W94 (Or.inl (List.mem_of_getElem? (i := 0) rfl))
  obtain ⟨T106, hX106, X106, e106, E106, A106, D106, -, st106⟩ := newO X94 hx hZ hown (hw _ (List.mem_of_getElem? (i := 75) rfl)) (hw _ (List.mem_of_getElem? (i := 76) rfl)) (hw _ (List.mem_of_getElem? (i := 77) rfl)) e94 (g := (mkF m 38 #[.val (.ref ob)] [(.ref ob)])) rfl (hb hby d6_38) (by decide) (by decide)
  obtain ⟨b106, g106⟩ : ∃ z_q, z_q = hX94.size := ⟨_, rfl⟩
  rw [← g106] at A106 D106 st106
  have g_b106 : n0 ≤ b106 := Nat.le_trans Z104 (Nat.le_of_eq g106.symm)
  have sz_b106 : h0.size ≤ b106 := Nat.le_trans K105.1 (Nat.le_of_eq g106.symm)
  have ne_ob_b106 : ob ≠ b106 := Nat.ne_of_lt (Nat.lt_of_lt_of_le F96.lt (Nat.le_of_eq g106.symm))
  have ne_b2_b106 : b2 ≠ b106 := Nat.ne_of_lt (Nat.lt_of_lt_of_le F99.lt (Nat.le_of_eq g106.symm))
  have ne_b34_b106 : b34 ≠ b106 := Nat.ne_of_lt (Nat.lt_of_lt_of_le F101.lt (Nat.le_of_eq g106.symm))
  have ne_b69_b106 : b69 ≠ b106 := Nat.ne_of_lt (Nat.lt_of_lt_of_le F103.lt (Nat.le_of_eq g106.symm))
  have F107 : Fld Z hX106 ob "com/example/twigmeter/twigmeter/xml/NameTable" "attributeSets" "Lcom/example/twigmeter/twigmeter/xml/ArrayNumbers;" .null := F96.ext E106
  have F108 : Exa Z hX106 ob "com/example/twigmeter/twigmeter/xml/NameTable" := F97.ext E106
  have F109 : Sta Z hX106 "java/util/ArrayList" "DEFAULTCAPACITY_EMPTY_ELEMENTDATA" "[Ljava/lang/Object;" (.ref dd) := F98.ext E106
  have F110 : Exa Z hX106 b2 "java/util/ArrayList" := F99.ext E106
  have F111 : Fld Z hX106 ob "com/example/twigmeter/twigmeter/xml/NameTable" "namespaces" "Ljava/util/List;" (.ref b2) := F100.ext E106
  have F112 : Exa Z hX106 b34 "java/util/ArrayList" := F101.ext E106
  have F113 : Fld Z hX106 ob "com/example/twigmeter/twigmeter/xml/NameTable" "localNames" "Ljava/util/List;" (.ref b34) := F102.ext E106
  have F114 : Exa Z hX106 b69 "java/util/HashMap" := F103.ext E106
  have F115 : Fld Z hX106 ob "com/example/twigmeter/twigmeter/xml/NameTable" "nameNumbers" "Ljava/util/Map;" (.ref b69) := F95.ext E106
  have Z116 : n0 ≤ hX106.size := Nat.le_trans Z104 E106.1
  have K117 : Keep h0 hX106 [ob] := K105.ext E106
  have F118 : Fld Z hX106 b106 "com/example/twigmeter/twigmeter/xml/ArrayNumbers" "arrays" "Ljava/util/List;" .null := D106 (Or.inr (hw _ (List.mem_of_getElem? (i := 85) rfl))) (ty := (.object "java/util/List")) (by decide)
  have F119 : Fld Z hX106 b106 "com/example/twigmeter/twigmeter/xml/ArrayNumbers" "numbers" "Ljava/util/Map;" .null := D106 (Or.inr (hw _ (List.mem_of_getElem? (i := 89) rfl))) (ty := (.object "java/util/Map")) (by decide)
  obtain ⟨_, _, ⟨T120, L120, k120, n120⟩, -, X120, ⟨Lc120, hQ120, l120, y120, z120⟩, st120⟩ := X106.specialBack hx (y := (⟨"com/example/twigmeter/twigmeter/xml/ArrayNumbers", "<init>", "()V"⟩ : MethodName)) rfl hown (mvT hZ (hw _ (List.mem_of_getElem? (i := 78) rfl))) (mvT hZ (hw _ (List.mem_of_getElem? (i := 79) rfl))) (mvT hZ (hw _ (List.mem_of_getElem? (i := 80) rfl))) (by decide) (backOf (W := 2) (rm12 l Z a0 hw [] b106 dd hX106 n0 Z116 F118 F119 A106 F109 g_b106) hZ (hw _ (List.mem_of_getElem? (i := 80) rfl)) (hw _ (List.mem_of_getElem? (i := 77) rfl)) (by decide) (by decide)) (g := (mkF m 42 #[.val (.ref ob)] [(.ref b106), (.ref b106), (.ref ob)])) rfl (by rw [hml]; rfl) (Steps.refl _) (a := b106) (argsL := []) (rest := [(.ref b106), (.ref ob)]) (lenOf pd_2 rfl) rfl (by show 2 * 0 + _ ≤ _; exact Nat.le_of_eq rfl) (hb hby d6_42) (fun _ _ => ⟨rfl, e106, (by decide : 4 + 2 ≤ _), (by decide : 16 + 11 ≤ _)⟩)
  dsimp only [Pt.U, Pt.locs, Pt.cells, Pt.slots] at X120 l120 y120 z120 st120 hQ120
  replace y120 : k120 = 6 := y120
  replace z120 : n120 = 27 := z120
  subst l120 y120 z120
  obtain ⟨rfl, N120q, K120q, F121⟩ := hQ120
  have N120 := Fr.app N94 N120q
  have F122 : Fld Z T120.heap ob "com/example/twigmeter/twigmeter/xml/NameTable" "attributeSets" "Lcom/example/twigmeter/twigmeter/xml/ArrayNumbers;" .null := F107.keep K120q (ninS ne_ob_b106 nin0)
  have F123 : Exa Z T120.heap ob "com/example/twigmeter/twigmeter/xml/NameTable" := F108.keep K120q
  have F124 : Sta Z T120.heap "java/util/ArrayList" "DEFAULTCAPACITY_EMPTY_ELEMENTDATA" "[Ljava/lang/Object;" (.ref dd) := sta_keepL F109 K120q (allS (exa_plain A106) all0)
  have F125 : Exa Z T120.heap b2 "java/util/ArrayList" := F110.keep K120q
  have F126 : Fld Z T120.heap ob "com/example/twigmeter/twigmeter/xml/NameTable" "namespaces" "Ljava/util/List;" (.ref b2) := F111.keep K120q (ninS ne_ob_b106 nin0)
  have F127 : Exa Z T120.heap b34 "java/util/ArrayList" := F112.keep K120q
  have F128 : Fld Z T120.heap ob "com/example/twigmeter/twigmeter/xml/NameTable" "localNames" "Ljava/util/List;" (.ref b34) := F113.keep K120q (ninS ne_ob_b106 nin0)
  have F129 : Exa Z T120.heap b69 "java/util/HashMap" := F114.keep K120q
  have F130 : Fld Z T120.heap ob "com/example/twigmeter/twigmeter/xml/NameTable" "nameNumbers" "Ljava/util/Map;" (.ref b69) := F115.keep K120q (ninS ne_ob_b106 nin0)
  have F131 : Exa Z T120.heap b106 "com/example/twigmeter/twigmeter/xml/ArrayNumbers" := A106.keep K120q
  have Z132 : n0 ≤ T120.heap.size := Nat.le_trans Z116 K120q.1
  have K133 : Keep h0 T120.heap [ob] := K117.trans K120q (allS (Or.inr sz_b106) all0)
  obtain ⟨T134, hX134, X134, e134, W134, st134⟩ := putF X120 hx hZ hown (host := "") (Or.inl (hw _ (List.mem_of_getElem? (i := 90) rfl))) Via.refl rfl F122 F123 (Or.inr ⟨(hw _ (List.mem_of_getElem? (i := 91) rfl)), rfl, hnm⟩) (hw _ (List.mem_of_getElem? (i := 23) rfl)) (ty := (.object "com/example/twigmeter/twigmeter/xml/ArrayNumbers")) (by decide) rfl rfl (g := (mkF m 45 #[.val (.ref ob)] [(.ref b106), (.ref ob)])) rfl rfl (hb hby d6_45)
  have N134 := Fr.snoc X134 N120 g_ob
  have F135 : Fld Z hX134 ob "com/example/twigmeter/twigmeter/xml/NameTable" "attributeSets" "Lcom/example/twigmeter/twigmeter/xml/ArrayNumbers;" (.ref b106) := F122.same W134
  have F136 : Exa Z hX134 ob "com/example/twigmeter/twigmeter/xml/NameTable" := F123.wr W134
  have F137 : Sta Z hX134 "java/util/ArrayList" "DEFAULTCAPACITY_EMPTY_ELEMENTDATA" "[Ljava/lang/Object;" (.ref dd) := F124.wr W134
  have F138 : Exa Z hX134 b2 "java/util/ArrayList" := F125.wr W134
  have F139 : Fld Z hX134 ob "com/example/twigmeter/twigmeter/xml/NameTable" "namespaces" "Ljava/util/List;" (.ref b2) := F126.other W134 (Or.inr (slot_ne (Or.inr (hw _ (List.mem_of_getElem? (i := 54) rfl))) (Or.inr (hw _ (List.mem_of_getElem? (i := 91) rfl))) (by decide) (t := (.object "java/util/List")) (t' := (.object "com/example/twigmeter/twigmeter/xml/ArrayNumbers")) (by decide) (by decide)))
  have F140 : Exa Z hX134 b34 "java/util/ArrayList" := F127.wr W134
  have F141 : Fld Z hX134 ob "com/example/twigmeter/twigmeter/xml/NameTable" "localNames" "Ljava/util/List;" (.ref b34) := F128.other W134 (Or.inr (slot_ne (Or.inr (hw _ (List.mem_of_getElem? (i := 56) rfl))) (Or.inr (hw _ (List.mem_of_getElem? (i := 91) rfl))) (by decide) (t := (.object "java/util/List")) (t' := (.object "com/example/twigmeter/twigmeter/xml/ArrayNumbers")) (by decide) (by decide)))
  have F142 : Exa Z hX134 b69 "java/util/HashMap" := F129.wr W134
  have F143 : Fld Z hX134 ob "com/example/twigmeter/twigmeter/xml/NameTable" "nameNumbers" "Ljava/util/Map;" (.ref b69) := F130.other W134 (Or.inr (slot_ne (Or.inr (hw _ (List.mem_of_getElem? (i := 74) rfl))) (Or.inr (hw _ (List.mem_of_getElem? (i := 91) rfl))) (by decide) (t := (.object "java/util/Map")) (t' := (.object "com/example/twigmeter/twigmeter/xml/ArrayNumbers")) (by decide) (by decide)))
  have F144 : Exa Z hX134 b106 "com/example/twigmeter/twigmeter/xml/ArrayNumbers" := F121.wr W134
  have Z145 : n0 ≤ hX134.size := Nat.le_trans Z132 (Keep.of_wr W134).1
  have K146 : Keep h0 hX134 [ob] := K133.wr W134 (Or.inl (List.mem_of_getElem? (i := 0) rfl))
  obtain ⟨fs, hr, hrun, hended, hW, hsame⟩ := X134.leave (v := none) (fun _ => rfl)
  refine ⟨_, _, pre0 _ ?_, hrun, hended, _, _, rfl, ?_, ⟨_, rfl⟩, hW, hsame.mono (by decide) (by decide)⟩
  · skip
    show Steps p.tables e below (s₁.setTop (mkF m 0 #[.val (.ref ob)] [])) _
    refine XS.aloadN X0.here hx rfl (hb hby d6_0) rfl rfl ?_
    refine st1 _ ?_
    show Steps p.tables e below (T1.setTop (mkF m 4 #[.val (.ref ob)] [])) _
    refine XS.aloadN X1.here hx rfl (hb hby d6_4) rfl rfl ?_
    refine st2 _ ?_
    show Steps p.tables e below (T2.setTop (mkF m 8 #[.val (.ref ob)] [(.ref b2), (.ref ob)])) _
    refine XS.dup X2.here hx rfl (hb hby d6_8) rfl rfl ?_
    refine st13.trans ?_
    show Steps p.tables e below (T13.setTop (mkF m 12 #[.val (.ref ob)] [(.ref b2), (.ref ob)])) _
    refine st24 _ ?_
    show Steps p.tables e below (T24.setTop (mkF m 15 #[.val (.ref ob)] [])) _
    refine XS.aloadN X24.here hx rfl (hb hby d6_15) rfl rfl ?_
    refine st34 _ ?_
    show Steps p.tables e below (T34.setTop (mkF m 19 #[.val (.ref ob)] [(.ref b34), (.ref ob)])) _
    refine XS.dup X34.here hx rfl (hb hby d6_19) rfl rfl ?_
    refine st46.trans ?_
    show Steps p.tables e below (T46.setTop (mkF m 23 #[.val (.ref ob)] [(.ref b34), (.ref ob)])) _
    refine st58 _ ?_
    show Steps p.tables e below (T58.setTop (mkF m 26 #[.val (.ref ob)] [])) _
    refine XS.aloadN X58.here hx rfl (hb hby d6_26) rfl rfl ?_
    refine st69 _ ?_
    show Steps p.tables e below (T69.setTop (mkF m 30 #[.val (.ref ob)] [(.ref b69), (.ref ob)])) _
    refine XS.dup X69.here hx rfl (hb hby d6_30) rfl rfl ?_
    refine st81.trans ?_
    show Steps p.tables e below (T81.setTop (mkF m 34 #[.val (.ref ob)] [(.ref b69), (.ref ob)])) _
    refine st94 _ ?_
    show Steps p.tables e below (T94.setTop (mkF m 37 #[.val (.ref ob)] [])) _
    refine XS.aloadN X94.here hx rfl (hb hby d6_37) rfl rfl ?_
    refine st106 _ ?_
    show Steps p.tables e below (T106.setTop (mkF m 41 #[.val (.ref ob)] [(.ref b106), (.ref ob)])) _
    refine XS.dup X106.here hx rfl (hb hby d6_41) rfl rfl ?_
    refine st120.trans ?_
    show Steps p.tables e below (T120.setTop (mkF m 45 #[.val (.ref ob)] [(.ref b106), (.ref ob)])) _
    refine st134 _ ?_
    show Steps p.tables e below (T134.setTop (mkF m 48 #[.val (.ref ob)] [])) _
    exact X134.returnOut hx Bd.returns (hb hby d6_48) hr
  · show Q6 Z ob dd h0 n0 _ T134.heap _
    rw [e134]
    exact ⟨rfl, N134, K146, F136⟩
theorem d13_0 : decode prog_66_method_1_code 0 = .ok (.aload_n 0, 1) := by decide +kernel
theorem d13_1 : decode prog_66_method_1_code 1 = .ok (.invokespecial 1, 3) := by decide +kernel
theorem d13_4 : decode prog_66_method_1_code 4 = .ok (.aload_n 0, 1) := by decide +kernel
theorem d13_5 : decode prog_66_method_1_code 5 = .ok (.bipush 16, 2) := by decide +kernel
theorem d13_7 : decode prog_66_method_1_code 7 = .ok (.newarray .int, 2) := by decide +kernel
theorem d13_9 : decode prog_66_method_1_code 9 = .ok (.putfield 7, 3) := by decide +kernel
theorem d13_12 : decode prog_66_method_1_code 12 = .ok (.return_, 1) := by decide +kernel
theorem pn_13 : plainName "com/example/twigmeter/twigmeter/xml/IntList" = true := by first | (simp [plainName, overriddenIn]; done) | decide +kernel
theorem ef_13 (m : MethodId) (x0 : Addr) : entryFrame m #[(.ref x0)] 1 = mkF m 0 #[.val (.ref x0)] [] := by first | (simp [entryFrame, mkF, argsToLocals, Value.category]; done) | rfl
def Q13 (Z : State) (ob : Addr) (h0 : Heap) (n0 : Nat) (v : Option Value) (h : Heap) (L : List Loc) : Prop := ∃ vr : Addr, v = none ∧ Fr n0 L ∧ Keep h0 h [ob] ∧ n0 ≤ vr ∧ h0.size ≤ vr ∧ Exa Z h ob "com/example/twigmeter/twigmeter/xml/IntList" ∧ Fld Z h ob "com/example/twigmeter/twigmeter/xml/IntList" "values" "[I" (.ref vr) ∧ Fld Z h ob "com/example/twigmeter/twigmeter/xml/IntList" "size" "I" (.int (0 : Int32)) ∧ own_ia Z h vr (own_zs (16 : Int32))
set_option maxRecDepth 65536 in
set_option maxHeartbeats 40000000 in
theorem rm13 (l : Launch) (Z : State) (a0 : Array Value) (hw : ∀ d ∈ tables_1, d.before a0 Z = true) (ws : List Jvm.Cond) (ob : Addr) (h0 : Heap) (n0 : Nat) (Z0 : n0 ≤ h0.size) (I0 : Fld Z h0 ob "com/example/twigmeter/twigmeter/xml/IntList" "values" "[I" .null) (I1 : Fld Z h0 ob "com/example/twigmeter/twigmeter/xml/IntList" "size" "I" (.int (0 : Int32))) (I2 : Exa Z h0 ob "com/example/twigmeter/twigmeter/xml/IntList") (g_ob : n0 ≤ ob) :
    MetFree l (⟨"com/example/twigmeter/twigmeter/xml/IntList", "<init>", "()V"⟩ : MethodName) (head1 (Jvm.Cond.code (⟨"com/example/twigmeter/twigmeter/xml/IntList", "<init>", "()V"⟩ : MethodName) prog_66_method_1_code 1 none :: ws) ({ frames := 1, cells := 1, slots := 16, locals := 12 } : Room)) (fun a U => a = #[(.ref ob)] ∧ Z.Warmed39 U.vm ∧ U.heap = h0) (fun _ _ _ _ _ => True) (fun _ U o U' => ∃ v L, o = .returned v ∧ Q13 Z ob h0 n0 v U'.heap L ∧ FrameEnd U o U' L ({ frames := 1, cells := 1, slots := 16, locals := 12 } : Room).cells ({ frames := 1, cells := 1, slots := 16, locals := 12 } : Room).slots) := by
  refine MetFree.of_bodySF (plainFor_of_name pn_13) hisR ?_
  intro p e s m args below meth c s₁ Bd hml0 hP hK
  obtain ⟨rfl, hZ, hh⟩ := hP
  have hx := Bd.exec
  have hby := Bd.bytes
  have hml : c.maxLocals = 1 := hml0
  have hown : s.vm.findClass "com/example/twigmeter/twigmeter/xml/IntList" = some m.cls := findClass_of_methodNamed Bd.named
  have hnm := (name_of_methodNamed Bd.named Bd.method).1
  have X0 : Stand p l e ({ frames := 1, cells := 1, slots := 16, locals := 12 } : Room) s m #[(.ref ob)] below meth c s₁ [] 0 0 := Stand.of_body Bd
  have e0 : s₁.heap = h0 := by rw [← hh, Bd.state]; rfl
  have N0 := Fr.nil n0
  have K0 : Keep h0 h0 [ob] := Keep.refl h0 _
  have pre0 : ∀ tq, Steps p.tables e below (s₁.setTop (mkF m 0 #[.val (.ref ob)] [])) tq → Steps p.tables e below (s₁.setTop (entryFrame m #[(.ref ob)] 1)) tq := fun tq kq => castTop (ef_13 m ob) kq
  obtain ⟨T1, X1, e1, st1⟩ := initO X0 hx hZ hown (hw _ (List.mem_of_getElem? (i := 100) rfl)) (hw _ (List.mem_of_getElem? (i := 20) rfl)) (hw _ (List.mem_of_getElem? (i := 21) rfl)) e0 (g := (mkF m 1 #[.val (.ref ob)] [(.ref ob)])) rfl (by rw [hml]; rfl) rfl (hb hby d13_1) (by decide) (W := 0) (by show 2 * 0 + _ ≤ _; exact Nat.le_of_eq rfl) (by decide)
  obtain ⟨T2, hX2, kx2, X2, e2, E2, A2, st2⟩ := newP X1 hx hZ (hw _ (List.mem_of_getElem? (i := 0) rfl)) e1 (g := (mkF m 7 #[.val (.ref ob)] [(.int (16 : Int32)), (.ref ob)])) rfl (hb hby d13_7) rfl (by decide) (cap := 16) (by decide) (by decide) (by decide) (by decide)
  obtain ⟨b2, g2⟩ : ∃ z_q, z_q = h0.size := ⟨_, rfl⟩
  rw [← g2] at A2 st2
  have g_b2 : n0 ≤ b2 := Nat.le_trans Z0 (Nat.le_of_eq g2.symm)
  have sz_b2 : h0.size ≤ b2 := Nat.le_trans K0.1 (Nat.le_of_eq g2.symm)
  have ne_ob_b2 : ob ≠ b2 := Nat.ne_of_lt (Nat.lt_of_lt_of_le I0.lt (Nat.le_of_eq g2.symm))
  have F3 : Fld Z hX2 ob "com/example/twigmeter/twigmeter/xml/IntList" "values" "[I" .null := I0.ext E2
  have F4 : Fld Z hX2 ob "com/example/twigmeter/twigmeter/xml/IntList" "size" "I" (.int (0 : Int32)) := I1.ext E2
  have F5 : Exa Z hX2 ob "com/example/twigmeter/twigmeter/xml/IntList" := I2.ext E2
  have Z6 : n0 ≤ hX2.size := Nat.le_trans Z0 E2.1
  have K7 : Keep h0 hX2 [ob] := K0.ext E2
  have F8 : own_ia Z hX2 b2 (own_zs (16 : Int32)) := own_ia.new A2 (by decide)
  obtain ⟨T9, hX9, X9, e9, W9, st9⟩ := putF X2 hx hZ hown (host := "") (Or.inl (hw _ (List.mem_of_getElem? (i := 101) rfl))) Via.refl e2 F3 F5 (Or.inl (hw _ (List.mem_of_getElem? (i := 102) rfl))) (hw _ (List.mem_of_getElem? (i := 95) rfl)) (ty := (.array .int)) (by decide) rfl rfl (g := (mkF m 9 #[.val (.ref ob)] [(.ref b2), (.ref ob)])) rfl rfl (hb hby d13_9)
  have N9 := Fr.snoc X9 N0 g_ob
  have F10 : Fld Z hX9 ob "com/example/twigmeter/twigmeter/xml/IntList" "values" "[I" (.ref b2) := F3.same W9
  have F11 : Fld Z hX9 ob "com/example/twigmeter/twigmeter/xml/IntList" "size" "I" (.int (0 : Int32)) := F4.other W9 (Or.inr (slot_ne (Or.inl (hw _ (List.mem_of_getElem? (i := 122) rfl))) (Or.inl (hw _ (List.mem_of_getElem? (i := 102) rfl))) (by decide) (t := .int) (t' := (.array .int)) (by decide) (by decide)))
  have F12 : Exa Z hX9 ob "com/example/twigmeter/twigmeter/xml/IntList" := F5.wr W9
  have F13 : own_ia Z hX9 b2 (own_zs (16 : Int32)) := F8.other W9 (Ne.symm ne_ob_b2)
  have Z14 : n0 ≤ hX9.size := Nat.le_trans Z6 (Keep.of_wr W9).1
  have K15 : Keep h0 hX9 [ob] := K7.wr W9 (Or.inl (List.mem_of_getElem? (i := 0) rfl))
  obtain ⟨fs, hr, hrun, hended, hW, hsame⟩ := X9.leave (v := none) (fun _ => rfl)
  refine ⟨_, _, pre0 _ ?_, hrun, hended, _, _, rfl, ?_, ⟨_, rfl⟩, hW, hsame.mono (by decide) (by decide)⟩
  · skip
    show Steps p.tables e below (s₁.setTop (mkF m 0 #[.val (.ref ob)] [])) _
    refine XS.aloadN X0.here hx rfl (hb hby d13_0) rfl rfl ?_
    refine st1 _ ?_
    show Steps p.tables e below (T1.setTop (mkF m 4 #[.val (.ref ob)] [])) _
    refine XS.aloadN X1.here hx rfl (hb hby d13_4) rfl rfl ?_
    refine XS.bipush X1.here hx rfl (hb hby d13_5) ?_
    refine st2 _ ?_
    show Steps p.tables e below (T2.setTop (mkF m 9 #[.val (.ref ob)] [(.ref b2), (.ref ob)])) _
    refine st9 _ ?_
    show Steps p.tables e below (T9.setTop (mkF m 12 #[.val (.ref ob)] [])) _
    exact X9.returnOut hx Bd.returns (hb hby d13_12) hr
  · show Q13 Z ob h0 n0 _ T9.heap _
    rw [e9]
    exact ⟨b2, rfl, N9, K15, g_b2, sz_b2, F12, F10, F11, F13⟩
theorem d4_0 : decode prog_64_method_1_code 0 = .ok (.aload_n 0, 1) := by decide +kernel
theorem d4_1 : decode prog_64_method_1_code 1 = .ok (.invokespecial 1, 3) := by decide +kernel
theorem d4_4 : decode prog_64_method_1_code 4 = .ok (.aload_n 0, 1) := by decide +kernel
theorem d4_5 : decode prog_64_method_1_code 5 = .ok (.new 7, 3) := by decide +kernel
theorem d4_8 : decode prog_64_method_1_code 8 = .ok (.dup, 1) := by decide +kernel
theorem d4_9 : decode prog_64_method_1_code 9 = .ok (.invokespecial 9, 3) := by decide +kernel
theorem d4_12 : decode prog_64_method_1_code 12 = .ok (.putfield 10, 3) := by decide +kernel
theorem d4_15 : decode prog_64_method_1_code 15 = .ok (.aload_n 0, 1) := by decide +kernel
theorem d4_16 : decode prog_64_method_1_code 16 = .ok (.new 16, 3) := by decide +kernel
theorem d4_19 : decode prog_64_method_1_code 19 = .ok (.dup, 1) := by decide +kernel
theorem d4_20 : decode prog_64_method_1_code 20 = .ok (.invokespecial 18, 3) := by decide +kernel
theorem d4_23 : decode prog_64_method_1_code 23 = .ok (.putfield 19, 3) := by decide +kernel
theorem d4_26 : decode prog_64_method_1_code 26 = .ok (.aload_n 0, 1) := by decide +kernel
theorem d4_27 : decode prog_64_method_1_code 27 = .ok (.new 16, 3) := by decide +kernel
theorem d4_30 : decode prog_64_method_1_code 30 = .ok (.dup, 1) := by decide +kernel
theorem d4_31 : decode prog_64_method_1_code 31 = .ok (.invokespecial 18, 3) := by decide +kernel
theorem d4_34 : decode prog_64_method_1_code 34 = .ok (.putfield 23, 3) := by decide +kernel
theorem d4_37 : decode prog_64_method_1_code 37 = .ok (.aload_n 0, 1) := by decide +kernel
theorem d4_38 : decode prog_64_method_1_code 38 = .ok (.new 16, 3) := by decide +kernel
theorem d4_41 : decode prog_64_method_1_code 41 = .ok (.dup, 1) := by decide +kernel
theorem d4_42 : decode prog_64_method_1_code 42 = .ok (.invokespecial 18, 3) := by decide +kernel
theorem d4_45 : decode prog_64_method_1_code 45 = .ok (.putfield 26, 3) := by decide +kernel
theorem d4_48 : decode prog_64_method_1_code 48 = .ok (.aload_n 0, 1) := by decide +kernel
theorem d4_49 : decode prog_64_method_1_code 49 = .ok (.new 16, 3) := by decide +kernel
theorem d4_52 : decode prog_64_method_1_code 52 = .ok (.dup, 1) := by decide +kernel
theorem d4_53 : decode prog_64_method_1_code 53 = .ok (.invokespecial 18, 3) := by decide +kernel
theorem d4_56 : decode prog_64_method_1_code 56 = .ok (.putfield 29, 3) := by decide +kernel
theorem d4_59 : decode prog_64_method_1_code 59 = .ok (.return_, 1) := by decide +kernel
theorem pn_4 : plainName "com/example/twigmeter/twigmeter/xml/ElementTree" = true := by first | (simp [plainName, overriddenIn]; done) | decide +kernel
theorem ef_4 (m : MethodId) (x0 : Addr) : entryFrame m #[(.ref x0)] 1 = mkF m 0 #[.val (.ref x0)] [] := by first | (simp [entryFrame, mkF, argsToLocals, Value.category]; done) | rfl
def Q4 (Z : State) (tr : Addr) (dd : Addr) (h0 : Heap) (n0 : Nat) (v : Option Value) (h : Heap) (L : List Loc) : Prop := ∃ bd : Nat, v = none ∧ Fr n0 L ∧ Keep h0 h [tr] ∧ Exa Z h tr "com/example/twigmeter/twigmeter/xml/ElementTree" ∧ own_tr Z h tr tr bd own_S0
set_option maxRecDepth 65536 in
set_option maxHeartbeats 40000000 in
theorem rm4 (l : Launch) (Z : State) (a0 : Array Value) (hw : ∀ d ∈ tables_1, d.before a0 Z = true) (ws : List Jvm.Cond) (tr : Addr) (dd : Addr) (h0 : Heap) (n0 : Nat) (Z0 : n0 ≤ h0.size) (I0 : Fld Z h0 tr "com/example/twigmeter/twigmeter/xml/ElementTree" "names" "Lcom/example/twigmeter/twigmeter/xml/NameTable;" .null) (I1 : Fld Z h0 tr "com/example/twigmeter/twigmeter/xml/ElementTree" "nameNumbers" "Lcom/example/twigmeter/twigmeter/xml/IntList;" .null) (I2 : Fld Z h0 tr "com/example/twigmeter/twigmeter/xml/ElementTree" "attributes" "Lcom/example/twigmeter/twigmeter/xml/IntList;" .null) (I3 : Fld Z h0 tr "com/example/twigmeter/twigmeter/xml/ElementTree" "ends" "Lcom/example/twigmeter/twigmeter/xml/IntList;" .null) (I4 : Fld Z h0 tr "com/example/twigmeter/twigmeter/xml/ElementTree" "open" "Lcom/example/twigmeter/twigmeter/xml/IntList;" .null) (I5 : Exa Z h0 tr "com/example/twigmeter/twigmeter/xml/ElementTree") (I6 : Sta Z h0 "java/util/ArrayList" "DEFAULTCAPACITY_EMPTY_ELEMENTDATA" "[Ljava/lang/Object;" (.ref dd)) (g_tr : n0 ≤ tr) :
    MetFree l (⟨"com/example/twigmeter/twigmeter/xml/ElementTree", "<init>", "()V"⟩ : MethodName) (head1 (Jvm.Cond.code (⟨"com/example/twigmeter/twigmeter/xml/ElementTree", "<init>", "()V"⟩ : MethodName) prog_64_method_1_code 1 none :: ws) ({ frames := 6, cells := 15, slots := 103, locals := 78 } : Room)) (fun a U => a = #[(.ref tr)] ∧ Z.Warmed39 U.vm ∧ U.heap = h0) (fun _ _ _ _ _ => True) (fun _ U o U' => ∃ v L, o = .returned v ∧ Q4 Z tr dd h0 n0 v U'.heap L ∧ FrameEnd U o U' L ({ frames := 6, cells := 15, slots := 103, locals := 78 } : Room).cells ({ frames := 6, cells := 15, slots := 103, locals := 78 } : Room).slots) := by
  refine MetFree.of_bodySF (plainFor_of_name pn_4) hisR ?_
  intro p e s m args below meth c s₁ Bd hml0 hP hK
  obtain ⟨rfl, hZ, hh⟩ := hP
  have hx := Bd.exec
  have hby := Bd.bytes
  have hml : c.maxLocals = 1 := hml0
  have hown : s.vm.findClass "com/example/twigmeter/twigmeter/xml/ElementTree" = some m.cls := findClass_of_methodNamed Bd.named
  have hnm := (name_of_methodNamed Bd.named Bd.method).1
  have X0 : Stand p l e ({ frames := 6, cells := 15, slots := 103, locals := 78 } : Room) s m #[(.ref tr)] below meth c s₁ [] 0 0 := Stand.of_body Bd
  have e0 : s₁.heap = h0 := by rw [← hh, Bd.state]; rfl
  have N0 := Fr.nil n0
  have K0 : Keep h0 h0 [tr] := Keep.refl h0 _
  have pre0 : ∀ tq, Steps p.tables e below (s₁.setTop (mkF m 0 #[.val (.ref tr)] [])) tq → Steps p.tables e below (s₁.setTop (entryFrame m #[(.ref tr)] 1)) tq := fun tq kq => castTop (ef_4 m tr) kq
  obtain ⟨T1, X1, e1, st1⟩ := initO X0 hx hZ hown (hw _ (List.mem_of_getElem? (i := 19) rfl)) (hw _ (List.mem_of_getElem? (i := 20) rfl)) (hw _ (List.mem_of_getElem? (i := 21) rfl)) e0 (g := (mkF m 1 #[.val (.ref tr)] [(.ref tr)])) rfl (by rw [hml]; rfl) rfl (hb hby d4_1) (by decide) (W := 0) (by show 2 * 0 + _ ≤ _; exact Nat.le_of_eq rfl) (by decide)
  obtain ⟨T2, hX2, X2, e2, E2, A2, D2, -, st2⟩ := newO X1 hx hZ hown (hw _ (List.mem_of_getElem? (i := 22) rfl)) (hw _ (List.mem_of_getElem? (i := 23) rfl)) (hw _ (List.mem_of_getElem? (i := 24) rfl)) e1 (g := (mkF m 5 #[.val (.ref tr)] [(.ref tr)])) rfl (hb hby d4_5) (by decide) (by decide)
  obtain ⟨b2, g2⟩ : ∃ z_q, z_q = h0.size := ⟨_, rfl⟩
  rw [← g2] at A2 D2 st2
  have g_b2 : n0 ≤ b2 := Nat.le_trans Z0 (Nat.le_of_eq g2.symm)
  have sz_b2 : h0.size ≤ b2 := Nat.le_trans K0.1 (Nat.le_of_eq g2.symm)
  have lt_tr_b2 := Nat.lt_of_lt_of_le I0.lt (Nat.le_of_eq g2.symm)
  have ne_tr_b2 : tr ≠ b2 := Nat.ne_of_lt (Nat.lt_of_lt_of_le I0.lt (Nat.le_of_eq g2.symm))
  have F3 : Fld Z hX2 tr "com/example/twigmeter/twigmeter/xml/ElementTree" "names" "Lcom/example/twigmeter/twigmeter/xml/NameTable;" .null := I0.ext E2
  have F4 : Fld Z hX2 tr "com/example/twigmeter/twigmeter/xml/ElementTree" "nameNumbers" "Lcom/example/twigmeter/twigmeter/xml/IntList;" .null := I1.ext E2
  have F5 : Fld Z hX2 tr "com/example/twigmeter/twigmeter/xml/ElementTree" "attributes" "Lcom/example/twigmeter/twigmeter/xml/IntList;" .null := I2.ext E2
  have F6 : Fld Z hX2 tr "com/example/twigmeter/twigmeter/xml/ElementTree" "ends" "Lcom/example/twigmeter/twigmeter/xml/IntList;" .null := I3.ext E2
  have F7 : Fld Z hX2 tr "com/example/twigmeter/twigmeter/xml/ElementTree" "open" "Lcom/example/twigmeter/twigmeter/xml/IntList;" .null := I4.ext E2
  have F8 : Exa Z hX2 tr "com/example/twigmeter/twigmeter/xml/ElementTree" := I5.ext E2
  have F9 : Sta Z hX2 "java/util/ArrayList" "DEFAULTCAPACITY_EMPTY_ELEMENTDATA" "[Ljava/lang/Object;" (.ref dd) := I6.ext E2
  have Z10 : n0 ≤ hX2.size := Nat.le_trans Z0 E2.1
  have K11 : Keep h0 hX2 [tr] := K0.ext E2
  have F12 : Fld Z hX2 b2 "com/example/twigmeter/twigmeter/xml/NameTable" "namespaces" "Ljava/util/List;" .null := D2 (Or.inr (hw _ (List.mem_of_getElem? (i := 54) rfl))) (ty := (.object "java/util/List")) (by decide)
  have F13 : Fld Z hX2 b2 "com/example/twigmeter/twigmeter/xml/NameTable" "localNames" "Ljava/util/List;" .null := D2 (Or.inr (hw _ (List.mem_of_getElem? (i := 56) rfl))) (ty := (.object "java/util/List")) (by decide)
  have F14 : Fld Z hX2 b2 "com/example/twigmeter/twigmeter/xml/NameTable" "nameNumbers" "Ljava/util/Map;" .null := D2 (Or.inr (hw _ (List.mem_of_getElem? (i := 74) rfl))) (ty := (.object "java/util/Map")) (by decide)
  have F15 : Fld Z hX2 b2 "com/example/twigmeter/twigmeter/xml/NameTable" "attributeSets" "Lcom/example/twigmeter/twigmeter/xml/ArrayNumbers;" .null := D2 (Or.inr (hw _ (List.mem_of_getElem? (i := 91) rfl))) (ty := (.object "com/example/twigmeter/twigmeter/xml/ArrayNumbers")) (by decide)
  obtain ⟨_, _, ⟨T16, L16, k16, n16⟩, -, X16, ⟨Lc16, hQ16, l16, y16, z16⟩, st16⟩ := X2.specialBack hx (y := (⟨"com/example/twigmeter/twigmeter/xml/NameTable", "<init>", "()V"⟩ : MethodName)) rfl hown (mvT hZ (hw _ (List.mem_of_getElem? (i := 25) rfl))) (mvT hZ (hw _ (List.mem_of_getElem? (i := 26) rfl))) (mvT hZ (hw _ (List.mem_of_getElem? (i := 27) rfl))) (by decide) (backOf (W := 2) (rm6 l Z a0 hw [] b2 dd hX2 n0 Z10 F12 F13 F14 F15 A2 F9 g_b2) hZ (hw _ (List.mem_of_getElem? (i := 27) rfl)) (hw _ (List.mem_of_getElem? (i := 24) rfl)) (by decide) (by decide)) (g := (mkF m 9 #[.val (.ref tr)] [(.ref b2), (.ref b2), (.ref tr)])) rfl (by rw [hml]; rfl) (Steps.refl _) (a := b2) (argsL := []) (rest := [(.ref b2), (.ref tr)]) (lenOf pd_2 rfl) rfl (by show 2 * 0 + _ ≤ _; exact Nat.le_of_eq rfl) (hb hby d4_9) (fun _ _ => ⟨rfl, e2, (by decide : 1 + 6 ≤ _), (by decide : 4 + 27 ≤ _)⟩)
  dsimp only [Pt.U, Pt.locs, Pt.cells, Pt.slots] at X16 l16 y16 z16 st16 hQ16
  replace y16 : k16 = 7 := y16
  replace z16 : n16 = 31 := z16
  subst l16 y16 z16
  obtain ⟨rfl, N16q, K16q, F17⟩ := hQ16
  have N16 := Fr.app N0 N16q
  have F18 : Fld Z T16.heap tr "com/example/twigmeter/twigmeter/xml/ElementTree" "names" "Lcom/example/twigmeter/twigmeter/xml/NameTable;" .null := F3.keep K16q (ninS ne_tr_b2 nin0)
  have F19 : Fld Z T16.heap tr "com/example/twigmeter/twigmeter/xml/ElementTree" "nameNumbers" "Lcom/example/twigmeter/twigmeter/xml/IntList;" .null := F4.keep K16q (ninS ne_tr_b2 nin0)
  have F20 : Fld Z T16.heap tr "com/example/twigmeter/twigmeter/xml/ElementTree" "attributes" "Lcom/example/twigmeter/twigmeter/xml/IntList;" .null := F5.keep K16q (ninS ne_tr_b2 nin0)
  have F21 : Fld Z T16.heap tr "com/example/twigmeter/twigmeter/xml/ElementTree" "ends" "Lcom/example/twigmeter/twigmeter/xml/IntList;" .null := F6.keep K16q (ninS ne_tr_b2 nin0)
  have F22 : Fld Z T16.heap tr "com/example/twigmeter/twigmeter/xml/ElementTree" "open" "Lcom/example/twigmeter/twigmeter/xml/IntList;" .null := F7.keep K16q (ninS ne_tr_b2 nin0)
  have F23 : Exa Z T16.heap tr "com/example/twigmeter/twigmeter/xml/ElementTree" := F8.keep K16q
  have F24 : Sta Z T16.heap "java/util/ArrayList" "DEFAULTCAPACITY_EMPTY_ELEMENTDATA" "[Ljava/lang/Object;" (.ref dd) := sta_keepL F9 K16q (allS (exa_plain A2) all0)
  have F25 : Exa Z T16.heap b2 "com/example/twigmeter/twigmeter/xml/NameTable" := A2.keep K16q
  have Z26 : n0 ≤ T16.heap.size := Nat.le_trans Z10 K16q.1
  have K27 : Keep h0 T16.heap [tr] := K11.trans K16q (allS (Or.inr sz_b2) all0)
  obtain ⟨T28, hX28, X28, e28, W28, st28⟩ := putF X16 hx hZ hown (host := "") (Or.inl (hw _ (List.mem_of_getElem? (i := 92) rfl))) Via.refl rfl F18 F23 (Or.inr ⟨(hw _ (List.mem_of_getElem? (i := 93) rfl)), rfl, hnm⟩) (hw _ (List.mem_of_getElem? (i := 14) rfl)) (ty := (.object "com/example/twigmeter/twigmeter/xml/NameTable")) (by decide) rfl rfl (g := (mkF m 12 #[.val (.ref tr)] [(.ref b2), (.ref tr)])) rfl rfl (hb hby d4_12)
  have N28 := Fr.snoc X28 N16 g_tr
  have F29 : Fld Z hX28 tr "com/example/twigmeter/twigmeter/xml/ElementTree" "names" "Lcom/example/twigmeter/twigmeter/xml/NameTable;" (.ref b2) := F18.same W28
  have F30 : Fld Z hX28 tr "com/example/twigmeter/twigmeter/xml/ElementTree" "nameNumbers" "Lcom/example/twigmeter/twigmeter/xml/IntList;" .null := F19.other W28 (Or.inr (slot_ne (Or.inr (hw _ (List.mem_of_getElem? (i := 104) rfl))) (Or.inr (hw _ (List.mem_of_getElem? (i := 93) rfl))) (by decide) (t := (.object "com/example/twigmeter/twigmeter/xml/IntList")) (t' := (.object "com/example/twigmeter/twigmeter/xml/NameTable")) (by decide) (by decide)))
  have F31 : Fld Z hX28 tr "com/example/twigmeter/twigmeter/xml/ElementTree" "attributes" "Lcom/example/twigmeter/twigmeter/xml/IntList;" .null := F20.other W28 (Or.inr (slot_ne (Or.inr (hw _ (List.mem_of_getElem? (i := 106) rfl))) (Or.inr (hw _ (List.mem_of_getElem? (i := 93) rfl))) (by decide) (t := (.object "com/example/twigmeter/twigmeter/xml/IntList")) (t' := (.object "com/example/twigmeter/twigmeter/xml/NameTable")) (by decide) (by decide)))
  have F32 : Fld Z hX28 tr "com/example/twigmeter/twigmeter/xml/ElementTree" "ends" "Lcom/example/twigmeter/twigmeter/xml/IntList;" .null := F21.other W28 (Or.inr (slot_ne (Or.inr (hw _ (List.mem_of_getElem? (i := 108) rfl))) (Or.inr (hw _ (List.mem_of_getElem? (i := 93) rfl))) (by decide) (t := (.object "com/example/twigmeter/twigmeter/xml/IntList")) (t' := (.object "com/example/twigmeter/twigmeter/xml/NameTable")) (by decide) (by decide)))
  have F33 : Fld Z hX28 tr "com/example/twigmeter/twigmeter/xml/ElementTree" "open" "Lcom/example/twigmeter/twigmeter/xml/IntList;" .null := F22.other W28 (Or.inr (slot_ne (Or.inr (hw _ (List.mem_of_getElem? (i := 110) rfl))) (Or.inr (hw _ (List.mem_of_getElem? (i := 93) rfl))) (by decide) (t := (.object "com/example/twigmeter/twigmeter/xml/IntList")) (t' := (.object "com/example/twigmeter/twigmeter/xml/NameTable")) (by decide) (by decide)))
  have F34 : Exa Z hX28 tr "com/example/twigmeter/twigmeter/xml/ElementTree" := F23.wr W28
  have F35 : Sta Z hX28 "java/util/ArrayList" "DEFAULTCAPACITY_EMPTY_ELEMENTDATA" "[Ljava/lang/Object;" (.ref dd) := F24.wr W28
  have F36 : Exa Z hX28 b2 "com/example/twigmeter/twigmeter/xml/NameTable" := F17.wr W28
  have Z37 : n0 ≤ hX28.size := Nat.le_trans Z26 (Keep.of_wr W28).1
  have K38 : Keep h0 hX28 [tr] := K27.wr W28 (Or.inl (List.mem_of_getElem? (i := 0) rfl))
  obtain ⟨T39, hX39, X39, e39, E39, A39, D39, -, st39⟩ := newO X28 hx hZ hown (hw _ (List.mem_of_getElem? (i := 94) rfl)) (hw _ (List.mem_of_getElem? (i := 95) rfl)) (hw _ (List.mem_of_getElem? (i := 96) rfl)) e28 (g := (mkF m 16 #[.val (.ref tr)] [(.ref tr)])) rfl (hb hby d4_16) (by decide) (by decide)
  obtain ⟨b39, g39⟩ : ∃ z_q, z_q = hX28.size := ⟨_, rfl⟩
  rw [← g39] at A39 D39 st39
  have g_b39 : n0 ≤ b39 := Nat.le_trans Z37 (Nat.le_of_eq g39.symm)
  have sz_b39 : h0.size ≤ b39 := Nat.le_trans K38.1 (Nat.le_of_eq g39.symm)
  have lt_tr_b39 := Nat.lt_of_lt_of_le F30.lt (Nat.le_of_eq g39.symm)
  have ne_tr_b39 : tr ≠ b39 := Nat.ne_of_lt (Nat.lt_of_lt_of_le F30.lt (Nat.le_of_eq g39.symm))
  have lt_b2_b39 := Nat.lt_of_lt_of_le F36.lt (Nat.le_of_eq g39.symm)
  have ne_b2_b39 : b2 ≠ b39 := Nat.ne_of_lt (Nat.lt_of_lt_of_le F36.lt (Nat.le_of_eq g39.symm))
  have F40 : Fld Z hX39 tr "com/example/twigmeter/twigmeter/xml/ElementTree" "nameNumbers" "Lcom/example/twigmeter/twigmeter/xml/IntList;" .null := F30.ext E39
  have F41 : Fld Z hX39 tr "com/example/twigmeter/twigmeter/xml/ElementTree" "attributes" "Lcom/example/twigmeter/twigmeter/xml/IntList;" .null := F31.ext E39
  have F42 : Fld Z hX39 tr "com/example/twigmeter/twigmeter/xml/ElementTree" "ends" "Lcom/example/twigmeter/twigmeter/xml/IntList;" .null := F32.ext E39
  have F43 : Fld Z hX39 tr "com/example/twigmeter/twigmeter/xml/ElementTree" "open" "Lcom/example/twigmeter/twigmeter/xml/IntList;" .null := F33.ext E39
  have F44 : Exa Z hX39 tr "com/example/twigmeter/twigmeter/xml/ElementTree" := F34.ext E39
  have F45 : Sta Z hX39 "java/util/ArrayList" "DEFAULTCAPACITY_EMPTY_ELEMENTDATA" "[Ljava/lang/Object;" (.ref dd) := F35.ext E39
  have F46 : Exa Z hX39 b2 "com/example/twigmeter/twigmeter/xml/NameTable" := F36.ext E39
  have F47 : Fld Z hX39 tr "com/example/twigmeter/twigmeter/xml/ElementTree" "names" "Lcom/example/twigmeter/twigmeter/xml/NameTable;" (.ref b2) := F29.ext E39
  have Z48 : n0 ≤ hX39.size := Nat.le_trans Z37 E39.1
  have K49 : Keep h0 hX39 [tr] := K38.ext E39
  have F50 : Fld Z hX39 b39 "com/example/twigmeter/twigmeter/xml/IntList" "values" "[I" .null := D39 (Or.inl (hw _ (List.mem_of_getElem? (i := 102) rfl))) (ty := (.array .int)) (by decide)
  have F51 : Fld Z hX39 b39 "com/example/twigmeter/twigmeter/xml/IntList" "size" "I" (.int (0 : Int32)) := D39 (Or.inl (hw _ (List.mem_of_getElem? (i := 122) rfl))) (ty := .int) (by decide)
  obtain ⟨_, _, ⟨T52, L52, k52, n52⟩, -, X52, ⟨Lc52, hQ52, l52, y52, z52⟩, st52⟩ := X39.specialBack hx (y := (⟨"com/example/twigmeter/twigmeter/xml/IntList", "<init>", "()V"⟩ : MethodName)) rfl hown (mvT hZ (hw _ (List.mem_of_getElem? (i := 97) rfl))) (mvT hZ (hw _ (List.mem_of_getElem? (i := 98) rfl))) (mvT hZ (hw _ (List.mem_of_getElem? (i := 99) rfl))) (by decide) (backOf (W := 2) (rm13 l Z a0 hw [] b39 hX39 n0 Z48 F50 F51 A39 g_b39) hZ (hw _ (List.mem_of_getElem? (i := 99) rfl)) (hw _ (List.mem_of_getElem? (i := 96) rfl)) (by decide) (by decide)) (g := (mkF m 20 #[.val (.ref tr)] [(.ref b39), (.ref b39), (.ref tr)])) rfl (by rw [hml]; rfl) (Steps.refl _) (a := b39) (argsL := []) (rest := [(.ref b39), (.ref tr)]) (lenOf pd_2 rfl) rfl (by show 2 * 0 + _ ≤ _; exact Nat.le_of_eq rfl) (hb hby d4_20) (fun _ _ => ⟨rfl, e39, (by decide : 8 + 1 ≤ _), (by decide : 33 + 16 ≤ _)⟩)
  dsimp only [Pt.U, Pt.locs, Pt.cells, Pt.slots] at X52 l52 y52 z52 st52 hQ52
  replace y52 : k52 = 9 := y52
  replace z52 : n52 = 49 := z52
  subst l52 y52 z52
  obtain ⟨b52_0, rfl, N52q, K52q, g_b52_0, szq_b52_0, F53, F54, F55, F56⟩ := hQ52
  have N52 := Fr.app N28 N52q
  have lt_tr_b52_0 := Nat.lt_of_lt_of_le F40.lt szq_b52_0
  have ne_tr_b52_0 : tr ≠ b52_0 := Nat.ne_of_lt (Nat.lt_of_lt_of_le F40.lt szq_b52_0)
  have lt_b2_b52_0 := Nat.lt_of_lt_of_le F46.lt szq_b52_0
  have ne_b2_b52_0 : b2 ≠ b52_0 := Nat.ne_of_lt (Nat.lt_of_lt_of_le F46.lt szq_b52_0)
  have lt_b39_b52_0 := Nat.lt_of_lt_of_le A39.lt szq_b52_0
  have ne_b39_b52_0 : b39 ≠ b52_0 := Nat.ne_of_lt (Nat.lt_of_lt_of_le A39.lt szq_b52_0)
  have sz_b52_0 : h0.size ≤ b52_0 := Nat.le_trans K49.1 szq_b52_0
  have F57 : Fld Z T52.heap tr "com/example/twigmeter/twigmeter/xml/ElementTree" "nameNumbers" "Lcom/example/twigmeter/twigmeter/xml/IntList;" .null := F40.keep K52q (ninS ne_tr_b39 nin0)
  have F58 : Fld Z T52.heap tr "com/example/twigmeter/twigmeter/xml/ElementTree" "attributes" "Lcom/example/twigmeter/twigmeter/xml/IntList;" .null := F41.keep K52q (ninS ne_tr_b39 nin0)
  have F59 : Fld Z T52.heap tr "com/example/twigmeter/twigmeter/xml/ElementTree" "ends" "Lcom/example/twigmeter/twigmeter/xml/IntList;" .null := F42.keep K52q (ninS ne_tr_b39 nin0)
  have F60 : Fld Z T52.heap tr "com/example/twigmeter/twigmeter/xml/ElementTree" "open" "Lcom/example/twigmeter/twigmeter/xml/IntList;" .null := F43.keep K52q (ninS ne_tr_b39 nin0)
  have F61 : Exa Z T52.heap tr "com/example/twigmeter/twigmeter/xml/ElementTree" := F44.keep K52q
  have F62 : Sta Z T52.heap "java/util/ArrayList" "DEFAULTCAPACITY_EMPTY_ELEMENTDATA" "[Ljava/lang/Object;" (.ref dd) := sta_keepL F45 K52q (allS (exa_plain A39) all0)
  have F63 : Exa Z T52.heap b2 "com/example/twigmeter/twigmeter/xml/NameTable" := F46.keep K52q
  have F64 : Fld Z T52.heap tr "com/example/twigmeter/twigmeter/xml/ElementTree" "names" "Lcom/example/twigmeter/twigmeter/xml/NameTable;" (.ref b2) := F47.keep K52q (ninS ne_tr_b39 nin0)
  have F65 : Exa Z T52.heap b39 "com/example/twigmeter/twigmeter/xml/IntList" := A39.keep K52q
  have Z66 : n0 ≤ T52.heap.size := Nat.le_trans Z48 K52q.1
  have K67 : Keep h0 T52.heap [tr] := K49.trans K52q (allS (Or.inr sz_b39) all0)
  obtain ⟨T68, hX68, X68, e68, W68, st68⟩ := putF X52 hx hZ hown (host := "") (Or.inl (hw _ (List.mem_of_getElem? (i := 103) rfl))) Via.refl rfl F57 F61 (Or.inr ⟨(hw _ (List.mem_of_getElem? (i := 104) rfl)), rfl, hnm⟩) (hw _ (List.mem_of_getElem? (i := 14) rfl)) (ty := (.object "com/example/twigmeter/twigmeter/xml/IntList")) (by decide) rfl rfl (g := (mkF m 23 #[.val (.ref tr)] [(.ref b39), (.ref tr)])) rfl rfl (hb hby d4_23)
  have N68 := Fr.snoc X68 N52 g_tr
  have F69 : Fld Z hX68 tr "com/example/twigmeter/twigmeter/xml/ElementTree" "nameNumbers" "Lcom/example/twigmeter/twigmeter/xml/IntList;" (.ref b39) := F57.same W68
  have F70 : Fld Z hX68 tr "com/example/twigmeter/twigmeter/xml/ElementTree" "attributes" "Lcom/example/twigmeter/twigmeter/xml/IntList;" .null := F58.other W68 (Or.inr (slot_ne (Or.inr (hw _ (List.mem_of_getElem? (i := 106) rfl))) (Or.inr (hw _ (List.mem_of_getElem? (i := 104) rfl))) (by decide) (t := (.object "com/example/twigmeter/twigmeter/xml/IntList")) (t' := (.object "com/example/twigmeter/twigmeter/xml/IntList")) (by decide) (by decide)))
  have F71 : Fld Z hX68 tr "com/example/twigmeter/twigmeter/xml/ElementTree" "ends" "Lcom/example/twigmeter/twigmeter/xml/IntList;" .null := F59.other W68 (Or.inr (slot_ne (Or.inr (hw _ (List.mem_of_getElem? (i := 108) rfl))) (Or.inr (hw _ (List.mem_of_getElem? (i := 104) rfl))) (by decide) (t := (.object "com/example/twigmeter/twigmeter/xml/IntList")) (t' := (.object "com/example/twigmeter/twigmeter/xml/IntList")) (by decide) (by decide)))
  have F72 : Fld Z hX68 tr "com/example/twigmeter/twigmeter/xml/ElementTree" "open" "Lcom/example/twigmeter/twigmeter/xml/IntList;" .null := F60.other W68 (Or.inr (slot_ne (Or.inr (hw _ (List.mem_of_getElem? (i := 110) rfl))) (Or.inr (hw _ (List.mem_of_getElem? (i := 104) rfl))) (by decide) (t := (.object "com/example/twigmeter/twigmeter/xml/IntList")) (t' := (.object "com/example/twigmeter/twigmeter/xml/IntList")) (by decide) (by decide)))
  have F73 : Exa Z hX68 tr "com/example/twigmeter/twigmeter/xml/ElementTree" := F61.wr W68
  have F74 : Sta Z hX68 "java/util/ArrayList" "DEFAULTCAPACITY_EMPTY_ELEMENTDATA" "[Ljava/lang/Object;" (.ref dd) := F62.wr W68
  have F75 : Exa Z hX68 b2 "com/example/twigmeter/twigmeter/xml/NameTable" := F63.wr W68
  have F76 : Fld Z hX68 tr "com/example/twigmeter/twigmeter/xml/ElementTree" "names" "Lcom/example/twigmeter/twigmeter/xml/NameTable;" (.ref b2) := F64.other W68 (Or.inr (slot_ne (Or.inr (hw _ (List.mem_of_getElem? (i := 93) rfl))) (Or.inr (hw _ (List.mem_of_getElem? (i := 104) rfl))) (by decide) (t := (.object "com/example/twigmeter/twigmeter/xml/NameTable")) (t' := (.object "com/example/twigmeter/twigmeter/xml/IntList")) (by decide) (by decide)))
  have F77 : Exa Z hX68 b39 "com/example/twigmeter/twigmeter/xml/IntList" := F53.wr W68
  have F78 : Fld Z hX68 b39 "com/example/twigmeter/twigmeter/xml/IntList" "values" "[I" (.ref b52_0) := F54.other W68 (Or.inl (Ne.symm ne_tr_b39))
  have F79 : Fld Z hX68 b39 "com/example/twigmeter/twigmeter/xml/IntList" "size" "I" (.int (0 : Int32)) := F55.other W68 (Or.inl (Ne.symm ne_tr_b39))
  have F80 : own_ia Z hX68 b52_0 (own_zs (16 : Int32)) := F56.other W68 (Ne.symm ne_tr_b52_0)
  have Z81 : n0 ≤ hX68.size := Nat.le_trans Z66 (Keep.of_wr W68).1
  have K82 : Keep h0 hX68 [tr] := K67.wr W68 (Or.inl (List.mem_of_getElem? (i := 0) rfl))
  obtain ⟨T83, hX83, X83, e83, E83, A83, D83, -, st83⟩ := newO X68 hx hZ hown (hw _ (List.mem_of_getElem? (i := 94) rfl)) (hw _ (List.mem_of_getElem? (i := 95) rfl)) (hw _ (List.mem_of_getElem? (i := 96) rfl)) e68 (g := (mkF m 27 #[.val (.ref tr)] [(.ref tr)])) rfl (hb hby d4_27) (by decide) (by decide)
  obtain ⟨b83, g83⟩ : ∃ z_q, z_q = hX68.size := ⟨_, rfl⟩
  rw [← g83] at A83 D83 st83
  have g_b83 : n0 ≤ b83 := Nat.le_trans Z81 (Nat.le_of_eq g83.symm)
  have sz_b83 : h0.size ≤ b83 := Nat.le_trans K82.1 (Nat.le_of_eq g83.symm)
  have lt_tr_b83 := Nat.lt_of_lt_of_le F70.lt (Nat.le_of_eq g83.symm)
  have ne_tr_b83 : tr ≠ b83 := Nat.ne_of_lt (Nat.lt_of_lt_of_le F70.lt (Nat.le_of_eq g83.symm))
  have lt_b2_b83 := Nat.lt_of_lt_of_le F75.lt (Nat.le_of_eq g83.symm)
  have ne_b2_b83 : b2 ≠ b83 := Nat.ne_of_lt (Nat.lt_of_lt_of_le F75.lt (Nat.le_of_eq g83.symm))
  have lt_b39_b83 := Nat.lt_of_lt_of_le F77.lt (Nat.le_of_eq g83.symm)
  have ne_b39_b83 : b39 ≠ b83 := Nat.ne_of_lt (Nat.lt_of_lt_of_le F77.lt (Nat.le_of_eq g83.symm))
  have lt_b52_0_b83 := Nat.lt_of_lt_of_le F80.lt (Nat.le_of_eq g83.symm)
  have ne_b52_0_b83 : b52_0 ≠ b83 := Nat.ne_of_lt (Nat.lt_of_lt_of_le F80.lt (Nat.le_of_eq g83.symm))
  have F84 : Fld Z hX83 tr "com/example/twigmeter/twigmeter/xml/ElementTree" "attributes" "Lcom/example/twigmeter/twigmeter/xml/IntList;" .null := F70.ext E83
  have F85 : Fld Z hX83 tr "com/example/twigmeter/twigmeter/xml/ElementTree" "ends" "Lcom/example/twigmeter/twigmeter/xml/IntList;" .null := F71.ext E83
  have F86 : Fld Z hX83 tr "com/example/twigmeter/twigmeter/xml/ElementTree" "open" "Lcom/example/twigmeter/twigmeter/xml/IntList;" .null := F72.ext E83
  have F87 : Exa Z hX83 tr "com/example/twigmeter/twigmeter/xml/ElementTree" := F73.ext E83
  have F88 : Sta Z hX83 "java/util/ArrayList" "DEFAULTCAPACITY_EMPTY_ELEMENTDATA" "[Ljava/lang/Object;" (.ref dd) := F74.ext E83
  have F89 : Exa Z hX83 b2 "com/example/twigmeter/twigmeter/xml/NameTable" := F75.ext E83
  have F90 : Fld Z hX83 tr "com/example/twigmeter/twigmeter/xml/ElementTree" "names" "Lcom/example/twigmeter/twigmeter/xml/NameTable;" (.ref b2) := F76.ext E83
  have F91 : Exa Z hX83 b39 "com/example/twigmeter/twigmeter/xml/IntList" := F77.ext E83
  have F92 : Fld Z hX83 b39 "com/example/twigmeter/twigmeter/xml/IntList" "values" "[I" (.ref b52_0) := F78.ext E83
  have F93 : Fld Z hX83 b39 "com/example/twigmeter/twigmeter/xml/IntList" "size" "I" (.int (0 : Int32)) := F79.ext E83
  have F94 : own_ia Z hX83 b52_0 (own_zs (16 : Int32)) := F80.ext E83
  have F95 : Fld Z hX83 tr "com/example/twigmeter/twigmeter/xml/ElementTree" "nameNumbers" "Lcom/example/twigmeter/twigmeter/xml/IntList;" (.ref b39) := F69.ext E83
  have Z96 : n0 ≤ hX83.size := Nat.le_trans Z81 E83.1
  have K97 : Keep h0 hX83 [tr] := K82.ext E83
  have F98 : Fld Z hX83 b83 "com/example/twigmeter/twigmeter/xml/IntList" "values" "[I" .null := D83 (Or.inl (hw _ (List.mem_of_getElem? (i := 102) rfl))) (ty := (.array .int)) (by decide)
  have F99 : Fld Z hX83 b83 "com/example/twigmeter/twigmeter/xml/IntList" "size" "I" (.int (0 : Int32)) := D83 (Or.inl (hw _ (List.mem_of_getElem? (i := 122) rfl))) (ty := .int) (by decide)
  obtain ⟨_, _, ⟨T100, L100, k100, n100⟩, -, X100, ⟨Lc100, hQ100, l100, y100, z100⟩, st100⟩ := X83.specialBack hx (y := (⟨"com/example/twigmeter/twigmeter/xml/IntList", "<init>", "()V"⟩ : MethodName)) rfl hown (mvT hZ (hw _ (List.mem_of_getElem? (i := 97) rfl))) (mvT hZ (hw _ (List.mem_of_getElem? (i := 98) rfl))) (mvT hZ (hw _ (List.mem_of_getElem? (i := 99) rfl))) (by decide) (backOf (W := 2) (rm13 l Z a0 hw [] b83 hX83 n0 Z96 F98 F99 A83 g_b83) hZ (hw _ (List.mem_of_getElem? (i := 99) rfl)) (hw _ (List.mem_of_getElem? (i := 96) rfl)) (by decide) (by decide)) (g := (mkF m 31 #[.val (.ref tr)] [(.ref b83), (.ref b83), (.ref tr)])) rfl (by rw [hml]; rfl) (Steps.refl _) (a := b83) (argsL := []) (rest := [(.ref b83), (.ref tr)]) (lenOf pd_2 rfl) rfl (by show 2 * 0 + _ ≤ _; exact Nat.le_of_eq rfl) (hb hby d4_31) (fun _ _ => ⟨rfl, e83, (by decide : 10 + 1 ≤ _), (by decide : 51 + 16 ≤ _)⟩)
  dsimp only [Pt.U, Pt.locs, Pt.cells, Pt.slots] at X100 l100 y100 z100 st100 hQ100
  replace y100 : k100 = 11 := y100
  replace z100 : n100 = 67 := z100
  subst l100 y100 z100
  obtain ⟨b100_0, rfl, N100q, K100q, g_b100_0, szq_b100_0, F101, F102, F103, F104⟩ := hQ100
  have N100 := Fr.app N68 N100q
  have lt_tr_b100_0 := Nat.lt_of_lt_of_le F84.lt szq_b100_0
  have ne_tr_b100_0 : tr ≠ b100_0 := Nat.ne_of_lt (Nat.lt_of_lt_of_le F84.lt szq_b100_0)
  have lt_b2_b100_0 := Nat.lt_of_lt_of_le F89.lt szq_b100_0
  have ne_b2_b100_0 : b2 ≠ b100_0 := Nat.ne_of_lt (Nat.lt_of_lt_of_le F89.lt szq_b100_0)
  have lt_b39_b100_0 := Nat.lt_of_lt_of_le F91.lt szq_b100_0
  have ne_b39_b100_0 : b39 ≠ b100_0 := Nat.ne_of_lt (Nat.lt_of_lt_of_le F91.lt szq_b100_0)
  have lt_b52_0_b100_0 := Nat.lt_of_lt_of_le F94.lt szq_b100_0
  have ne_b52_0_b100_0 : b52_0 ≠ b100_0 := Nat.ne_of_lt (Nat.lt_of_lt_of_le F94.lt szq_b100_0)
  have lt_b83_b100_0 := Nat.lt_of_lt_of_le A83.lt szq_b100_0
  have ne_b83_b100_0 : b83 ≠ b100_0 := Nat.ne_of_lt (Nat.lt_of_lt_of_le A83.lt szq_b100_0)
  have sz_b100_0 : h0.size ≤ b100_0 := Nat.le_trans K97.1 szq_b100_0
  have F105 : Fld Z T100.heap tr "com/example/twigmeter/twigmeter/xml/ElementTree" "attributes" "Lcom/example/twigmeter/twigmeter/xml/IntList;" .null := F84.keep K100q (ninS ne_tr_b83 nin0)
  have F106 : Fld Z T100.heap tr "com/example/twigmeter/twigmeter/xml/ElementTree" "ends" "Lcom/example/twigmeter/twigmeter/xml/IntList;" .null := F85.keep K100q (ninS ne_tr_b83 nin0)
  have F107 : Fld Z T100.heap tr "com/example/twigmeter/twigmeter/xml/ElementTree" "open" "Lcom/example/twigmeter/twigmeter/xml/IntList;" .null := F86.keep K100q (ninS ne_tr_b83 nin0)
  have F108 : Exa Z T100.heap tr "com/example/twigmeter/twigmeter/xml/ElementTree" := F87.keep K100q
  have F109 : Sta Z T100.heap "java/util/ArrayList" "DEFAULTCAPACITY_EMPTY_ELEMENTDATA" "[Ljava/lang/Object;" (.ref dd) := sta_keepL F88 K100q (allS (exa_plain A83) all0)
  have F110 : Exa Z T100.heap b2 "com/example/twigmeter/twigmeter/xml/NameTable" := F89.keep K100q
  have F111 : Fld Z T100.heap tr "com/example/twigmeter/twigmeter/xml/ElementTree" "names" "Lcom/example/twigmeter/twigmeter/xml/NameTable;" (.ref b2) := F90.keep K100q (ninS ne_tr_b83 nin0)
  have F112 : Exa Z T100.heap b39 "com/example/twigmeter/twigmeter/xml/IntList" := F91.keep K100q
  have F113 : Fld Z T100.heap b39 "com/example/twigmeter/twigmeter/xml/IntList" "values" "[I" (.ref b52_0) := F92.keep K100q (ninS ne_b39_b83 nin0)
  have F114 : Fld Z T100.heap b39 "com/example/twigmeter/twigmeter/xml/IntList" "size" "I" (.int (0 : Int32)) := F93.keep K100q (ninS ne_b39_b83 nin0)
  have F115 : own_ia Z T100.heap b52_0 (own_zs (16 : Int32)) := F94.keep K100q (ninS ne_b52_0_b83 nin0)
  have F116 : Fld Z T100.heap tr "com/example/twigmeter/twigmeter/xml/ElementTree" "nameNumbers" "Lcom/example/twigmeter/twigmeter/xml/IntList;" (.ref b39) := F95.keep K100q (ninS ne_tr_b83 nin0)
  have F117 : Exa Z T100.heap b83 "com/example/twigmeter/twigmeter/xml/IntList" := A83.keep K100q
  have Z118 : n0 ≤ T100.heap.size := Nat.le_trans Z96 K100q.1
  have K119 : Keep h0 T100.heap [tr] := K97.trans K100q (allS (Or.inr sz_b83) all0)
  obtain ⟨T120, hX120, X120, e120, W120, st120⟩ := putF X100 hx hZ hown (host := "") (Or.inl (hw _ (List.mem_of_getElem? (i := 105) rfl))) Via.refl rfl F105 F108 (Or.inr ⟨(hw _ (List.mem_of_getElem? (i := 106) rfl)), rfl, hnm⟩) (hw _ (List.mem_of_getElem? (i := 14) rfl)) (ty := (.object "com/example/twigmeter/twigmeter/xml/IntList")) (by decide) rfl rfl (g := (mkF m 34 #[.val (.ref tr)] [(.ref b83), (.ref tr)])) rfl rfl (hb hby d4_34)
  have N120 := Fr.snoc X120 N100 g_tr
  have F121 : Fld Z hX120 tr "com/example/twigmeter/twigmeter/xml/ElementTree" "attributes" "Lcom/example/twigmeter/twigmeter/xml/IntList;" (.ref b83) := F105.same W120
  have F122 : Fld Z hX120 tr "com/example/twigmeter/twigmeter/xml/ElementTree" "ends" "Lcom/example/twigmeter/twigmeter/xml/IntList;" .null := F106.other W120 (Or.inr (slot_ne (Or.inr (hw _ (List.mem_of_getElem? (i := 108) rfl))) (Or.inr (hw _ (List.mem_of_getElem? (i := 106) rfl))) (by decide) (t := (.object "com/example/twigmeter/twigmeter/xml/IntList")) (t' := (.object "com/example/twigmeter/twigmeter/xml/IntList")) (by decide) (by decide)))
  have F123 : Fld Z hX120 tr "com/example/twigmeter/twigmeter/xml/ElementTree" "open" "Lcom/example/twigmeter/twigmeter/xml/IntList;" .null := F107.other W120 (Or.inr (slot_ne (Or.inr (hw _ (List.mem_of_getElem? (i := 110) rfl))) (Or.inr (hw _ (List.mem_of_getElem? (i := 106) rfl))) (by decide) (t := (.object "com/example/twigmeter/twigmeter/xml/IntList")) (t' := (.object "com/example/twigmeter/twigmeter/xml/IntList")) (by decide) (by decide)))
  have F124 : Exa Z hX120 tr "com/example/twigmeter/twigmeter/xml/ElementTree" := F108.wr W120
  have F125 : Sta Z hX120 "java/util/ArrayList" "DEFAULTCAPACITY_EMPTY_ELEMENTDATA" "[Ljava/lang/Object;" (.ref dd) := F109.wr W120
  have F126 : Exa Z hX120 b2 "com/example/twigmeter/twigmeter/xml/NameTable" := F110.wr W120
  have F127 : Fld Z hX120 tr "com/example/twigmeter/twigmeter/xml/ElementTree" "names" "Lcom/example/twigmeter/twigmeter/xml/NameTable;" (.ref b2) := F111.other W120 (Or.inr (slot_ne (Or.inr (hw _ (List.mem_of_getElem? (i := 93) rfl))) (Or.inr (hw _ (List.mem_of_getElem? (i := 106) rfl))) (by decide) (t := (.object "com/example/twigmeter/twigmeter/xml/NameTable")) (t' := (.object "com/example/twigmeter/twigmeter/xml/IntList")) (by decide) (by decide)))
  have F128 : Exa Z hX120 b39 "com/example/twigmeter/twigmeter/xml/IntList" := F112.wr W120
  have F129 : Fld Z hX120 b39 "com/example/twigmeter/twigmeter/xml/IntList" "values" "[I" (.ref b52_0) := F113.other W120 (Or.inl (Ne.symm ne_tr_b39))
  have F130 : Fld Z hX120 b39 "com/example/twigmeter/twigmeter/xml/IntList" "size" "I" (.int (0 : Int32)) := F114.other W120 (Or.inl (Ne.symm ne_tr_b39))
  have F131 : own_ia Z hX120 b52_0 (own_zs (16 : Int32)) := F115.other W120 (Ne.symm ne_tr_b52_0)
  have F132 : Fld Z hX120 tr "com/example/twigmeter/twigmeter/xml/ElementTree" "nameNumbers" "Lcom/example/twigmeter/twigmeter/xml/IntList;" (.ref b39) := F116.other W120 (Or.inr (slot_ne (Or.inr (hw _ (List.mem_of_getElem? (i := 104) rfl))) (Or.inr (hw _ (List.mem_of_getElem? (i := 106) rfl))) (by decide) (t := (.object "com/example/twigmeter/twigmeter/xml/IntList")) (t' := (.object "com/example/twigmeter/twigmeter/xml/IntList")) (by decide) (by decide)))
  have F133 : Exa Z hX120 b83 "com/example/twigmeter/twigmeter/xml/IntList" := F101.wr W120
  have F134 : Fld Z hX120 b83 "com/example/twigmeter/twigmeter/xml/IntList" "values" "[I" (.ref b100_0) := F102.other W120 (Or.inl (Ne.symm ne_tr_b83))
  have F135 : Fld Z hX120 b83 "com/example/twigmeter/twigmeter/xml/IntList" "size" "I" (.int (0 : Int32)) := F103.other W120 (Or.inl (Ne.symm ne_tr_b83))
  have F136 : own_ia Z hX120 b100_0 (own_zs (16 : Int32)) := F104.other W120 (Ne.symm ne_tr_b100_0)
  have Z137 : n0 ≤ hX120.size := Nat.le_trans Z118 (Keep.of_wr W120).1
  have K138 : Keep h0 hX120 [tr] := K119.wr W120 (Or.inl (List.mem_of_getElem? (i := 0) rfl))
  obtain ⟨T139, hX139, X139, e139, E139, A139, D139, -, st139⟩ := newO X120 hx hZ hown (hw _ (List.mem_of_getElem? (i := 94) rfl)) (hw _ (List.mem_of_getElem? (i := 95) rfl)) (hw _ (List.mem_of_getElem? (i := 96) rfl)) e120 (g := (mkF m 38 #[.val (.ref tr)] [(.ref tr)])) rfl (hb hby d4_38) (by decide) (by decide)
  obtain ⟨b139, g139⟩ : ∃ z_q, z_q = hX120.size := ⟨_, rfl⟩
  rw [← g139] at A139 D139 st139
  have g_b139 : n0 ≤ b139 := Nat.le_trans Z137 (Nat.le_of_eq g139.symm)
  have sz_b139 : h0.size ≤ b139 := Nat.le_trans K138.1 (Nat.le_of_eq g139.symm)
  have lt_tr_b139 := Nat.lt_of_lt_of_le F122.lt (Nat.le_of_eq g139.symm)
  have ne_tr_b139 : tr ≠ b139 := Nat.ne_of_lt (Nat.lt_of_lt_of_le F122.lt (Nat.le_of_eq g139.symm))
  have lt_b2_b139 := Nat.lt_of_lt_of_le F126.lt (Nat.le_of_eq g139.symm)
  have ne_b2_b139 : b2 ≠ b139 := Nat.ne_of_lt (Nat.lt_of_lt_of_le F126.lt (Nat.le_of_eq g139.symm))
  have lt_b39_b139 := Nat.lt_of_lt_of_le F128.lt (Nat.le_of_eq g139.symm)
  have ne_b39_b139 : b39 ≠ b139 := Nat.ne_of_lt (Nat.lt_of_lt_of_le F128.lt (Nat.le_of_eq g139.symm))
  have lt_b52_0_b139 := Nat.lt_of_lt_of_le F131.lt (Nat.le_of_eq g139.symm)
  have ne_b52_0_b139 : b52_0 ≠ b139 := Nat.ne_of_lt (Nat.lt_of_lt_of_le F131.lt (Nat.le_of_eq g139.symm))
  have lt_b83_b139 := Nat.lt_of_lt_of_le F133.lt (Nat.le_of_eq g139.symm)
  have ne_b83_b139 : b83 ≠ b139 := Nat.ne_of_lt (Nat.lt_of_lt_of_le F133.lt (Nat.le_of_eq g139.symm))
  have lt_b100_0_b139 := Nat.lt_of_lt_of_le F136.lt (Nat.le_of_eq g139.symm)
  have ne_b100_0_b139 : b100_0 ≠ b139 := Nat.ne_of_lt (Nat.lt_of_lt_of_le F136.lt (Nat.le_of_eq g139.symm))
  have F140 : Fld Z hX139 tr "com/example/twigmeter/twigmeter/xml/ElementTree" "ends" "Lcom/example/twigmeter/twigmeter/xml/IntList;" .null := F122.ext E139
  have F141 : Fld Z hX139 tr "com/example/twigmeter/twigmeter/xml/ElementTree" "open" "Lcom/example/twigmeter/twigmeter/xml/IntList;" .null := F123.ext E139
  have F142 : Exa Z hX139 tr "com/example/twigmeter/twigmeter/xml/ElementTree" := F124.ext E139
  have F143 : Sta Z hX139 "java/util/ArrayList" "DEFAULTCAPACITY_EMPTY_ELEMENTDATA" "[Ljava/lang/Object;" (.ref dd) := F125.ext E139
  have F144 : Exa Z hX139 b2 "com/example/twigmeter/twigmeter/xml/NameTable" := F126.ext E139
  have F145 : Fld Z hX139 tr "com/example/twigmeter/twigmeter/xml/ElementTree" "names" "Lcom/example/twigmeter/twigmeter/xml/NameTable;" (.ref b2) := F127.ext E139
  have F146 : Exa Z hX139 b39 "com/example/twigmeter/twigmeter/xml/IntList" := F128.ext E139
  have F147 : Fld Z hX139 b39 "com/example/twigmeter/twigmeter/xml/IntList" "values" "[I" (.ref b52_0) := F129.ext E139
  have F148 : Fld Z hX139 b39 "com/example/twigmeter/twigmeter/xml/IntList" "size" "I" (.int (0 : Int32)) := F130.ext E139
  have F149 : own_ia Z hX139 b52_0 (own_zs (16 : Int32)) := F131.ext E139
  have F150 : Fld Z hX139 tr "com/example/twigmeter/twigmeter/xml/ElementTree" "nameNumbers" "Lcom/example/twigmeter/twigmeter/xml/IntList;" (.ref b39) := F132.ext E139
  have F151 : Exa Z hX139 b83 "com/example/twigmeter/twigmeter/xml/IntList" := F133.ext E139
  have F152 : Fld Z hX139 b83 "com/example/twigmeter/twigmeter/xml/IntList" "values" "[I" (.ref b100_0) := F134.ext E139
  have F153 : Fld Z hX139 b83 "com/example/twigmeter/twigmeter/xml/IntList" "size" "I" (.int (0 : Int32)) := F135.ext E139
  have F154 : own_ia Z hX139 b100_0 (own_zs (16 : Int32)) := F136.ext E139
  have F155 : Fld Z hX139 tr "com/example/twigmeter/twigmeter/xml/ElementTree" "attributes" "Lcom/example/twigmeter/twigmeter/xml/IntList;" (.ref b83) := F121.ext E139
  have Z156 : n0 ≤ hX139.size := Nat.le_trans Z137 E139.1
  have K157 : Keep h0 hX139 [tr] := K138.ext E139
  have F158 : Fld Z hX139 b139 "com/example/twigmeter/twigmeter/xml/IntList" "values" "[I" .null := D139 (Or.inl (hw _ (List.mem_of_getElem? (i := 102) rfl))) (ty := (.array .int)) (by decide)
  have F159 : Fld Z hX139 b139 "com/example/twigmeter/twigmeter/xml/IntList" "size" "I" (.int (0 : Int32)) := D139 (Or.inl (hw _ (List.mem_of_getElem? (i := 122) rfl))) (ty := .int) (by decide)
  obtain ⟨_, _, ⟨T160, L160, k160, n160⟩, -, X160, ⟨Lc160, hQ160, l160, y160, z160⟩, st160⟩ := X139.specialBack hx (y := (⟨"com/example/twigmeter/twigmeter/xml/IntList", "<init>", "()V"⟩ : MethodName)) rfl hown (mvT hZ (hw _ (List.mem_of_getElem? (i := 97) rfl))) (mvT hZ (hw _ (List.mem_of_getElem? (i := 98) rfl))) (mvT hZ (hw _ (List.mem_of_getElem? (i := 99) rfl))) (by decide) (backOf (W := 2) (rm13 l Z a0 hw [] b139 hX139 n0 Z156 F158 F159 A139 g_b139) hZ (hw _ (List.mem_of_getElem? (i := 99) rfl)) (hw _ (List.mem_of_getElem? (i := 96) rfl)) (by decide) (by decide)) (g := (mkF m 42 #[.val (.ref tr)] [(.ref b139), (.ref b139), (.ref tr)])) rfl (by rw [hml]; rfl) (Steps.refl _) (a := b139) (argsL := []) (rest := [(.ref b139), (.ref tr)]) (lenOf pd_2 rfl) rfl (by show 2 * 0 + _ ≤ _; exact Nat.le_of_eq rfl) (hb hby d4_42) (fun _ _ => ⟨rfl, e139, (by decide : 12 + 1 ≤ _), (by decide : 69 + 16 ≤ _)⟩)
  dsimp only [Pt.U, Pt.locs, Pt.cells, Pt.slots] at X160 l160 y160 z160 st160 hQ160
  replace y160 : k160 = 13 := y160
  replace z160 : n160 = 85 := z160
  subst l160 y160 z160
  obtain ⟨b160_0, rfl, N160q, K160q, g_b160_0, szq_b160_0, F161, F162, F163, F164⟩ := hQ160
  have N160 := Fr.app N120 N160q
  have lt_tr_b160_0 := Nat.lt_of_lt_of_le F140.lt szq_b160_0
  have ne_tr_b160_0 : tr ≠ b160_0 := Nat.ne_of_lt (Nat.lt_of_lt_of_le F140.lt szq_b160_0)
  have lt_b2_b160_0 := Nat.lt_of_lt_of_le F144.lt szq_b160_0
  have ne_b2_b160_0 : b2 ≠ b160_0 := Nat.ne_of_lt (Nat.lt_of_lt_of_le F144.lt szq_b160_0)
  have lt_b39_b160_0 := Nat.lt_of_lt_of_le F146.lt szq_b160_0
  have ne_b39_b160_0 : b39 ≠ b160_0 := Nat.ne_of_lt (Nat.lt_of_lt_of_le F146.lt szq_b160_0)
  have lt_b52_0_b160_0 := Nat.lt_of_lt_of_le F149.lt szq_b160_0
  have ne_b52_0_b160_0 : b52_0 ≠ b160_0 := Nat.ne_of_lt (Nat.lt_of_lt_of_le F149.lt szq_b160_0)
  have lt_b83_b160_0 := Nat.lt_of_lt_of_le F151.lt szq_b160_0
  have ne_b83_b160_0 : b83 ≠ b160_0 := Nat.ne_of_lt (Nat.lt_of_lt_of_le F151.lt szq_b160_0)
  have lt_b100_0_b160_0 := Nat.lt_of_lt_of_le F154.lt szq_b160_0
  have ne_b100_0_b160_0 : b100_0 ≠ b160_0 := Nat.ne_of_lt (Nat.lt_of_lt_of_le F154.lt szq_b160_0)
  have lt_b139_b160_0 := Nat.lt_of_lt_of_le A139.lt szq_b160_0
  have ne_b139_b160_0 : b139 ≠ b160_0 := Nat.ne_of_lt (Nat.lt_of_lt_of_le A139.lt szq_b160_0)
  have sz_b160_0 : h0.size ≤ b160_0 := Nat.le_trans K157.1 szq_b160_0
  have F165 : Fld Z T160.heap tr "com/example/twigmeter/twigmeter/xml/ElementTree" "ends" "Lcom/example/twigmeter/twigmeter/xml/IntList;" .null := F140.keep K160q (ninS ne_tr_b139 nin0)
  have F166 : Fld Z T160.heap tr "com/example/twigmeter/twigmeter/xml/ElementTree" "open" "Lcom/example/twigmeter/twigmeter/xml/IntList;" .null := F141.keep K160q (ninS ne_tr_b139 nin0)
  have F167 : Exa Z T160.heap tr "com/example/twigmeter/twigmeter/xml/ElementTree" := F142.keep K160q
  have F168 : Sta Z T160.heap "java/util/ArrayList" "DEFAULTCAPACITY_EMPTY_ELEMENTDATA" "[Ljava/lang/Object;" (.ref dd) := sta_keepL F143 K160q (allS (exa_plain A139) all0)
  have F169 : Exa Z T160.heap b2 "com/example/twigmeter/twigmeter/xml/NameTable" := F144.keep K160q
  have F170 : Fld Z T160.heap tr "com/example/twigmeter/twigmeter/xml/ElementTree" "names" "Lcom/example/twigmeter/twigmeter/xml/NameTable;" (.ref b2) := F145.keep K160q (ninS ne_tr_b139 nin0)
  have F171 : Exa Z T160.heap b39 "com/example/twigmeter/twigmeter/xml/IntList" := F146.keep K160q
  have F172 : Fld Z T160.heap b39 "com/example/twigmeter/twigmeter/xml/IntList" "values" "[I" (.ref b52_0) := F147.keep K160q (ninS ne_b39_b139 nin0)
  have F173 : Fld Z T160.heap b39 "com/example/twigmeter/twigmeter/xml/IntList" "size" "I" (.int (0 : Int32)) := F148.keep K160q (ninS ne_b39_b139 nin0)
  have F174 : own_ia Z T160.heap b52_0 (own_zs (16 : Int32)) := F149.keep K160q (ninS ne_b52_0_b139 nin0)
  have F175 : Fld Z T160.heap tr "com/example/twigmeter/twigmeter/xml/ElementTree" "nameNumbers" "Lcom/example/twigmeter/twigmeter/xml/IntList;" (.ref b39) := F150.keep K160q (ninS ne_tr_b139 nin0)
  have F176 : Exa Z T160.heap b83 "com/example/twigmeter/twigmeter/xml/IntList" := F151.keep K160q
  have F177 : Fld Z T160.heap b83 "com/example/twigmeter/twigmeter/xml/IntList" "values" "[I" (.ref b100_0) := F152.keep K160q (ninS ne_b83_b139 nin0)
  have F178 : Fld Z T160.heap b83 "com/example/twigmeter/twigmeter/xml/IntList" "size" "I" (.int (0 : Int32)) := F153.keep K160q (ninS ne_b83_b139 nin0)
  have F179 : own_ia Z T160.heap b100_0 (own_zs (16 : Int32)) := F154.keep K160q (ninS ne_b100_0_b139 nin0)
  have F180 : Fld Z T160.heap tr "com/example/twigmeter/twigmeter/xml/ElementTree" "attributes" "Lcom/example/twigmeter/twigmeter/xml/IntList;" (.ref b83) := F155.keep K160q (ninS ne_tr_b139 nin0)
  have F181 : Exa Z T160.heap b139 "com/example/twigmeter/twigmeter/xml/IntList" := A139.keep K160q
  have Z182 : n0 ≤ T160.heap.size := Nat.le_trans Z156 K160q.1
  have K183 : Keep h0 T160.heap [tr] := K157.trans K160q (allS (Or.inr sz_b139) all0)
  obtain ⟨T184, hX184, X184, e184, W184, st184⟩ := putF X160 hx hZ hown (host := "") (Or.inl (hw _ (List.mem_of_getElem? (i := 107) rfl))) Via.refl rfl F165 F167 (Or.inr ⟨(hw _ (List.mem_of_getElem? (i := 108) rfl)), rfl, hnm⟩) (hw _ (List.mem_of_getElem? (i := 14) rfl)) (ty := (.object "com/example/twigmeter/twigmeter/xml/IntList")) (by decide) rfl rfl (g := (mkF m 45 #[.val (.ref tr)] [(.ref b139), (.ref tr)])) rfl rfl (hb hby d4_45)
  have N184 := Fr.snoc X184 N160 g_tr
  have F185 : Fld Z hX184 tr "com/example/twigmeter/twigmeter/xml/ElementTree" "ends" "Lcom/example/twigmeter/twigmeter/xml/IntList;" (.ref b139) := F165.same W184
  have F186 : Fld Z hX184 tr "com/example/twigmeter/twigmeter/xml/ElementTree" "open" "Lcom/example/twigmeter/twigmeter/xml/IntList;" .null := F166.other W184 (Or.inr (slot_ne (Or.inr (hw _ (List.mem_of_getElem? (i := 110) rfl))) (Or.inr (hw _ (List.mem_of_getElem? (i := 108) rfl))) (by decide) (t := (.object "com/example/twigmeter/twigmeter/xml/IntList")) (t' := (.object "com/example/twigmeter/twigmeter/xml/IntList")) (by decide) (by decide)))
  have F187 : Exa Z hX184 tr "com/example/twigmeter/twigmeter/xml/ElementTree" := F167.wr W184
  have F188 : Sta Z hX184 "java/util/ArrayList" "DEFAULTCAPACITY_EMPTY_ELEMENTDATA" "[Ljava/lang/Object;" (.ref dd) := F168.wr W184
  have F189 : Exa Z hX184 b2 "com/example/twigmeter/twigmeter/xml/NameTable" := F169.wr W184
  have F190 : Fld Z hX184 tr "com/example/twigmeter/twigmeter/xml/ElementTree" "names" "Lcom/example/twigmeter/twigmeter/xml/NameTable;" (.ref b2) := F170.other W184 (Or.inr (slot_ne (Or.inr (hw _ (List.mem_of_getElem? (i := 93) rfl))) (Or.inr (hw _ (List.mem_of_getElem? (i := 108) rfl))) (by decide) (t := (.object "com/example/twigmeter/twigmeter/xml/NameTable")) (t' := (.object "com/example/twigmeter/twigmeter/xml/IntList")) (by decide) (by decide)))
  have F191 : Exa Z hX184 b39 "com/example/twigmeter/twigmeter/xml/IntList" := F171.wr W184
  have F192 : Fld Z hX184 b39 "com/example/twigmeter/twigmeter/xml/IntList" "values" "[I" (.ref b52_0) := F172.other W184 (Or.inl (Ne.symm ne_tr_b39))
  have F193 : Fld Z hX184 b39 "com/example/twigmeter/twigmeter/xml/IntList" "size" "I" (.int (0 : Int32)) := F173.other W184 (Or.inl (Ne.symm ne_tr_b39))
  have F194 : own_ia Z hX184 b52_0 (own_zs (16 : Int32)) := F174.other W184 (Ne.symm ne_tr_b52_0)
  have F195 : Fld Z hX184 tr "com/example/twigmeter/twigmeter/xml/ElementTree" "nameNumbers" "Lcom/example/twigmeter/twigmeter/xml/IntList;" (.ref b39) := F175.other W184 (Or.inr (slot_ne (Or.inr (hw _ (List.mem_of_getElem? (i := 104) rfl))) (Or.inr (hw _ (List.mem_of_getElem? (i := 108) rfl))) (by decide) (t := (.object "com/example/twigmeter/twigmeter/xml/IntList")) (t' := (.object "com/example/twigmeter/twigmeter/xml/IntList")) (by decide) (by decide)))
  have F196 : Exa Z hX184 b83 "com/example/twigmeter/twigmeter/xml/IntList" := F176.wr W184
  have F197 : Fld Z hX184 b83 "com/example/twigmeter/twigmeter/xml/IntList" "values" "[I" (.ref b100_0) := F177.other W184 (Or.inl (Ne.symm ne_tr_b83))
  have F198 : Fld Z hX184 b83 "com/example/twigmeter/twigmeter/xml/IntList" "size" "I" (.int (0 : Int32)) := F178.other W184 (Or.inl (Ne.symm ne_tr_b83))
  have F199 : own_ia Z hX184 b100_0 (own_zs (16 : Int32)) := F179.other W184 (Ne.symm ne_tr_b100_0)
  have F200 : Fld Z hX184 tr "com/example/twigmeter/twigmeter/xml/ElementTree" "attributes" "Lcom/example/twigmeter/twigmeter/xml/IntList;" (.ref b83) := F180.other W184 (Or.inr (slot_ne (Or.inr (hw _ (List.mem_of_getElem? (i := 106) rfl))) (Or.inr (hw _ (List.mem_of_getElem? (i := 108) rfl))) (by decide) (t := (.object "com/example/twigmeter/twigmeter/xml/IntList")) (t' := (.object "com/example/twigmeter/twigmeter/xml/IntList")) (by decide) (by decide)))
  have F201 : Exa Z hX184 b139 "com/example/twigmeter/twigmeter/xml/IntList" := F161.wr W184
  have F202 : Fld Z hX184 b139 "com/example/twigmeter/twigmeter/xml/IntList" "values" "[I" (.ref b160_0) := F162.other W184 (Or.inl (Ne.symm ne_tr_b139))
  have F203 : Fld Z hX184 b139 "com/example/twigmeter/twigmeter/xml/IntList" "size" "I" (.int (0 : Int32)) := F163.other W184 (Or.inl (Ne.symm ne_tr_b139))
  have F204 : own_ia Z hX184 b160_0 (own_zs (16 : Int32)) := F164.other W184 (Ne.symm ne_tr_b160_0)
  have Z205 : n0 ≤ hX184.size := Nat.le_trans Z182 (Keep.of_wr W184).1
  have K206 : Keep h0 hX184 [tr] := K183.wr W184 (Or.inl (List.mem_of_getElem? (i := 0) rfl))
  obtain ⟨T207, hX207, X207, e207, E207, A207, D207, -, st207⟩ := newO X184 hx hZ hown (hw _ (List.mem_of_getElem? (i := 94) rfl)) (hw _ (List.mem_of_getElem? (i := 95) rfl)) (hw _ (List.mem_of_getElem? (i := 96) rfl)) e184 (g := (mkF m 49 #[.val (.ref tr)] [(.ref tr)])) rfl (hb hby d4_49) (by decide) (by decide)
  obtain ⟨b207, g207⟩ : ∃ z_q, z_q = hX184.size := ⟨_, rfl⟩
  rw [← g207] at A207 D207 st207
  have g_b207 : n0 ≤ b207 := Nat.le_trans Z205 (Nat.le_of_eq g207.symm)
  have sz_b207 : h0.size ≤ b207 := Nat.le_trans K206.1 (Nat.le_of_eq g207.symm)
  have lt_tr_b207 := Nat.lt_of_lt_of_le F186.lt (Nat.le_of_eq g207.symm)
  have ne_tr_b207 : tr ≠ b207 := Nat.ne_of_lt (Nat.lt_of_lt_of_le F186.lt (Nat.le_of_eq g207.symm))
  have lt_b2_b207 := Nat.lt_of_lt_of_le F189.lt (Nat.le_of_eq g207.symm)
  have ne_b2_b207 : b2 ≠ b207 := Nat.ne_of_lt (Nat.lt_of_lt_of_le F189.lt (Nat.le_of_eq g207.symm))
  have lt_b39_b207 := Nat.lt_of_lt_of_le F191.lt (Nat.le_of_eq g207.symm)
  have ne_b39_b207 : b39 ≠ b207 := Nat.ne_of_lt (Nat.lt_of_lt_of_le F191.lt (Nat.le_of_eq g207.symm))
  have lt_b52_0_b207 := Nat.lt_of_lt_of_le F194.lt (Nat.le_of_eq g207.symm)
  have ne_b52_0_b207 : b52_0 ≠ b207 := Nat.ne_of_lt (Nat.lt_of_lt_of_le F194.lt (Nat.le_of_eq g207.symm))
  have lt_b83_b207 := Nat.lt_of_lt_of_le F196.lt (Nat.le_of_eq g207.symm)
  have ne_b83_b207 : b83 ≠ b207 := Nat.ne_of_lt (Nat.lt_of_lt_of_le F196.lt (Nat.le_of_eq g207.symm))
  have lt_b100_0_b207 := Nat.lt_of_lt_of_le F199.lt (Nat.le_of_eq g207.symm)
  have ne_b100_0_b207 : b100_0 ≠ b207 := Nat.ne_of_lt (Nat.lt_of_lt_of_le F199.lt (Nat.le_of_eq g207.symm))
  have lt_b139_b207 := Nat.lt_of_lt_of_le F201.lt (Nat.le_of_eq g207.symm)
  have ne_b139_b207 : b139 ≠ b207 := Nat.ne_of_lt (Nat.lt_of_lt_of_le F201.lt (Nat.le_of_eq g207.symm))
  have lt_b160_0_b207 := Nat.lt_of_lt_of_le F204.lt (Nat.le_of_eq g207.symm)
  have ne_b160_0_b207 : b160_0 ≠ b207 := Nat.ne_of_lt (Nat.lt_of_lt_of_le F204.lt (Nat.le_of_eq g207.symm))
  have F208 : Fld Z hX207 tr "com/example/twigmeter/twigmeter/xml/ElementTree" "open" "Lcom/example/twigmeter/twigmeter/xml/IntList;" .null := F186.ext E207
  have F209 : Exa Z hX207 tr "com/example/twigmeter/twigmeter/xml/ElementTree" := F187.ext E207
  have F210 : Sta Z hX207 "java/util/ArrayList" "DEFAULTCAPACITY_EMPTY_ELEMENTDATA" "[Ljava/lang/Object;" (.ref dd) := F188.ext E207
  have F211 : Exa Z hX207 b2 "com/example/twigmeter/twigmeter/xml/NameTable" := F189.ext E207
  have F212 : Fld Z hX207 tr "com/example/twigmeter/twigmeter/xml/ElementTree" "names" "Lcom/example/twigmeter/twigmeter/xml/NameTable;" (.ref b2) := F190.ext E207
  have F213 : Exa Z hX207 b39 "com/example/twigmeter/twigmeter/xml/IntList" := F191.ext E207
  have F214 : Fld Z hX207 b39 "com/example/twigmeter/twigmeter/xml/IntList" "values" "[I" (.ref b52_0) := F192.ext E207
  have F215 : Fld Z hX207 b39 "com/example/twigmeter/twigmeter/xml/IntList" "size" "I" (.int (0 : Int32)) := F193.ext E207
  have F216 : own_ia Z hX207 b52_0 (own_zs (16 : Int32)) := F194.ext E207
  have F217 : Fld Z hX207 tr "com/example/twigmeter/twigmeter/xml/ElementTree" "nameNumbers" "Lcom/example/twigmeter/twigmeter/xml/IntList;" (.ref b39) := F195.ext E207
  have F218 : Exa Z hX207 b83 "com/example/twigmeter/twigmeter/xml/IntList" := F196.ext E207
  have F219 : Fld Z hX207 b83 "com/example/twigmeter/twigmeter/xml/IntList" "values" "[I" (.ref b100_0) := F197.ext E207
  have F220 : Fld Z hX207 b83 "com/example/twigmeter/twigmeter/xml/IntList" "size" "I" (.int (0 : Int32)) := F198.ext E207
  have F221 : own_ia Z hX207 b100_0 (own_zs (16 : Int32)) := F199.ext E207
  have F222 : Fld Z hX207 tr "com/example/twigmeter/twigmeter/xml/ElementTree" "attributes" "Lcom/example/twigmeter/twigmeter/xml/IntList;" (.ref b83) := F200.ext E207
  have F223 : Exa Z hX207 b139 "com/example/twigmeter/twigmeter/xml/IntList" := F201.ext E207
  have F224 : Fld Z hX207 b139 "com/example/twigmeter/twigmeter/xml/IntList" "values" "[I" (.ref b160_0) := F202.ext E207
  have F225 : Fld Z hX207 b139 "com/example/twigmeter/twigmeter/xml/IntList" "size" "I" (.int (0 : Int32)) := F203.ext E207
  have F226 : own_ia Z hX207 b160_0 (own_zs (16 : Int32)) := F204.ext E207
  have F227 : Fld Z hX207 tr "com/example/twigmeter/twigmeter/xml/ElementTree" "ends" "Lcom/example/twigmeter/twigmeter/xml/IntList;" (.ref b139) := F185.ext E207
  have Z228 : n0 ≤ hX207.size := Nat.le_trans Z205 E207.1
  have K229 : Keep h0 hX207 [tr] := K206.ext E207
  have F230 : Fld Z hX207 b207 "com/example/twigmeter/twigmeter/xml/IntList" "values" "[I" .null := D207 (Or.inl (hw _ (List.mem_of_getElem? (i := 102) rfl))) (ty := (.array .int)) (by decide)
  have F231 : Fld Z hX207 b207 "com/example/twigmeter/twigmeter/xml/IntList" "size" "I" (.int (0 : Int32)) := D207 (Or.inl (hw _ (List.mem_of_getElem? (i := 122) rfl))) (ty := .int) (by decide)
  obtain ⟨_, _, ⟨T232, L232, k232, n232⟩, -, X232, ⟨Lc232, hQ232, l232, y232, z232⟩, st232⟩ := X207.specialBack hx (y := (⟨"com/example/twigmeter/twigmeter/xml/IntList", "<init>", "()V"⟩ : MethodName)) rfl hown (mvT hZ (hw _ (List.mem_of_getElem? (i := 97) rfl))) (mvT hZ (hw _ (List.mem_of_getElem? (i := 98) rfl))) (mvT hZ (hw _ (List.mem_of_getElem? (i := 99) rfl))) (by decide) (backOf (W := 2) (rm13 l Z a0 hw [] b207 hX207 n0 Z228 F230 F231 A207 g_b207) hZ (hw _ (List.mem_of_getElem? (i := 99) rfl)) (hw _ (List.mem_of_getElem? (i := 96) rfl)) (by decide) (by decide)) (g := (mkF m 53 #[.val (.ref tr)] [(.ref b207), (.ref b207), (.ref tr)])) rfl (by rw [hml]; rfl) (Steps.refl _) (a := b207) (argsL := []) (rest := [(.ref b207), (.ref tr)]) (lenOf pd_2 rfl) rfl (by show 2 * 0 + _ ≤ _; exact Nat.le_of_eq rfl) (hb hby d4_53) (fun _ _ => ⟨rfl, e207, (by decide : 14 + 1 ≤ _), (by decide : 87 + 16 ≤ _)⟩)
  dsimp only [Pt.U, Pt.locs, Pt.cells, Pt.slots] at X232 l232 y232 z232 st232 hQ232
  replace y232 : k232 = 15 := y232
  replace z232 : n232 = 103 := z232
  subst l232 y232 z232
  obtain ⟨b232_0, rfl, N232q, K232q, g_b232_0, szq_b232_0, F233, F234, F235, F236⟩ := hQ232
  have N232 := Fr.app N184 N232q
  have lt_tr_b232_0 := Nat.lt_of_lt_of_le F208.lt szq_b232_0
  have ne_tr_b232_0 : tr ≠ b232_0 := Nat.ne_of_lt (Nat.lt_of_lt_of_le F208.lt szq_b232_0)
  have lt_b2_b232_0 := Nat.lt_of_lt_of_le F211.lt szq_b232_0
  have ne_b2_b232_0 : b2 ≠ b232_0 := Nat.ne_of_lt (Nat.lt_of_lt_of_le F211.lt szq_b232_0)
  have lt_b39_b232_0 := Nat.lt_of_lt_of_le F213.lt szq_b232_0
  have ne_b39_b232_0 : b39 ≠ b232_0 := Nat.ne_of_lt (Nat.lt_of_lt_of_le F213.lt szq_b232_0)
  have lt_b52_0_b232_0 := Nat.lt_of_lt_of_le F216.lt szq_b232_0
  have ne_b52_0_b232_0 : b52_0 ≠ b232_0 := Nat.ne_of_lt (Nat.lt_of_lt_of_le F216.lt szq_b232_0)
  have lt_b83_b232_0 := Nat.lt_of_lt_of_le F218.lt szq_b232_0
  have ne_b83_b232_0 : b83 ≠ b232_0 := Nat.ne_of_lt (Nat.lt_of_lt_of_le F218.lt szq_b232_0)
  have lt_b100_0_b232_0 := Nat.lt_of_lt_of_le F221.lt szq_b232_0
  have ne_b100_0_b232_0 : b100_0 ≠ b232_0 := Nat.ne_of_lt (Nat.lt_of_lt_of_le F221.lt szq_b232_0)
  have lt_b139_b232_0 := Nat.lt_of_lt_of_le F223.lt szq_b232_0
  have ne_b139_b232_0 : b139 ≠ b232_0 := Nat.ne_of_lt (Nat.lt_of_lt_of_le F223.lt szq_b232_0)
  have lt_b160_0_b232_0 := Nat.lt_of_lt_of_le F226.lt szq_b232_0
  have ne_b160_0_b232_0 : b160_0 ≠ b232_0 := Nat.ne_of_lt (Nat.lt_of_lt_of_le F226.lt szq_b232_0)
  have lt_b207_b232_0 := Nat.lt_of_lt_of_le A207.lt szq_b232_0
  have ne_b207_b232_0 : b207 ≠ b232_0 := Nat.ne_of_lt (Nat.lt_of_lt_of_le A207.lt szq_b232_0)
  have sz_b232_0 : h0.size ≤ b232_0 := Nat.le_trans K229.1 szq_b232_0
  have F237 : Fld Z T232.heap tr "com/example/twigmeter/twigmeter/xml/ElementTree" "open" "Lcom/example/twigmeter/twigmeter/xml/IntList;" .null := F208.keep K232q (ninS ne_tr_b207 nin0)
  have F238 : Exa Z T232.heap tr "com/example/twigmeter/twigmeter/xml/ElementTree" := F209.keep K232q
  have F239 : Sta Z T232.heap "java/util/ArrayList" "DEFAULTCAPACITY_EMPTY_ELEMENTDATA" "[Ljava/lang/Object;" (.ref dd) := sta_keepL F210 K232q (allS (exa_plain A207) all0)
  have F240 : Exa Z T232.heap b2 "com/example/twigmeter/twigmeter/xml/NameTable" := F211.keep K232q
  have F241 : Fld Z T232.heap tr "com/example/twigmeter/twigmeter/xml/ElementTree" "names" "Lcom/example/twigmeter/twigmeter/xml/NameTable;" (.ref b2) := F212.keep K232q (ninS ne_tr_b207 nin0)
  have F242 : Exa Z T232.heap b39 "com/example/twigmeter/twigmeter/xml/IntList" := F213.keep K232q
  have F243 : Fld Z T232.heap b39 "com/example/twigmeter/twigmeter/xml/IntList" "values" "[I" (.ref b52_0) := F214.keep K232q (ninS ne_b39_b207 nin0)
  have F244 : Fld Z T232.heap b39 "com/example/twigmeter/twigmeter/xml/IntList" "size" "I" (.int (0 : Int32)) := F215.keep K232q (ninS ne_b39_b207 nin0)
  have F245 : own_ia Z T232.heap b52_0 (own_zs (16 : Int32)) := F216.keep K232q (ninS ne_b52_0_b207 nin0)
  have F246 : Fld Z T232.heap tr "com/example/twigmeter/twigmeter/xml/ElementTree" "nameNumbers" "Lcom/example/twigmeter/twigmeter/xml/IntList;" (.ref b39) := F217.keep K232q (ninS ne_tr_b207 nin0)
  have F247 : Exa Z T232.heap b83 "com/example/twigmeter/twigmeter/xml/IntList" := F218.keep K232q
  have F248 : Fld Z T232.heap b83 "com/example/twigmeter/twigmeter/xml/IntList" "values" "[I" (.ref b100_0) := F219.keep K232q (ninS ne_b83_b207 nin0)
  have F249 : Fld Z T232.heap b83 "com/example/twigmeter/twigmeter/xml/IntList" "size" "I" (.int (0 : Int32)) := F220.keep K232q (ninS ne_b83_b207 nin0)
  have F250 : own_ia Z T232.heap b100_0 (own_zs (16 : Int32)) := F221.keep K232q (ninS ne_b100_0_b207 nin0)
  have F251 : Fld Z T232.heap tr "com/example/twigmeter/twigmeter/xml/ElementTree" "attributes" "Lcom/example/twigmeter/twigmeter/xml/IntList;" (.ref b83) := F222.keep K232q (ninS ne_tr_b207 nin0)
  have F252 : Exa Z T232.heap b139 "com/example/twigmeter/twigmeter/xml/IntList" := F223.keep K232q
  have F253 : Fld Z T232.heap b139 "com/example/twigmeter/twigmeter/xml/IntList" "values" "[I" (.ref b160_0) := F224.keep K232q (ninS ne_b139_b207 nin0)
  have F254 : Fld Z T232.heap b139 "com/example/twigmeter/twigmeter/xml/IntList" "size" "I" (.int (0 : Int32)) := F225.keep K232q (ninS ne_b139_b207 nin0)
  have F255 : own_ia Z T232.heap b160_0 (own_zs (16 : Int32)) := F226.keep K232q (ninS ne_b160_0_b207 nin0)
  have F256 : Fld Z T232.heap tr "com/example/twigmeter/twigmeter/xml/ElementTree" "ends" "Lcom/example/twigmeter/twigmeter/xml/IntList;" (.ref b139) := F227.keep K232q (ninS ne_tr_b207 nin0)
  have F257 : Exa Z T232.heap b207 "com/example/twigmeter/twigmeter/xml/IntList" := A207.keep K232q
  have Z258 : n0 ≤ T232.heap.size := Nat.le_trans Z228 K232q.1
  have K259 : Keep h0 T232.heap [tr] := K229.trans K232q (allS (Or.inr sz_b207) all0)
  obtain ⟨T260, hX260, X260, e260, W260, st260⟩ := putF X232 hx hZ hown (host := "") (Or.inl (hw _ (List.mem_of_getElem? (i := 109) rfl))) Via.refl rfl F237 F238 (Or.inr ⟨(hw _ (List.mem_of_getElem? (i := 110) rfl)), rfl, hnm⟩) (hw _ (List.mem_of_getElem? (i := 14) rfl)) (ty := (.object "com/example/twigmeter/twigmeter/xml/IntList")) (by decide) rfl rfl (g := (mkF m 56 #[.val (.ref tr)] [(.ref b207), (.ref tr)])) rfl rfl (hb hby d4_56)
  have N260 := Fr.snoc X260 N232 g_tr
  have F261 : Fld Z hX260 tr "com/example/twigmeter/twigmeter/xml/ElementTree" "open" "Lcom/example/twigmeter/twigmeter/xml/IntList;" (.ref b207) := F237.same W260
  have F262 : Exa Z hX260 tr "com/example/twigmeter/twigmeter/xml/ElementTree" := F238.wr W260
  have F263 : Sta Z hX260 "java/util/ArrayList" "DEFAULTCAPACITY_EMPTY_ELEMENTDATA" "[Ljava/lang/Object;" (.ref dd) := F239.wr W260
  have F264 : Exa Z hX260 b2 "com/example/twigmeter/twigmeter/xml/NameTable" := F240.wr W260
  have F265 : Fld Z hX260 tr "com/example/twigmeter/twigmeter/xml/ElementTree" "names" "Lcom/example/twigmeter/twigmeter/xml/NameTable;" (.ref b2) := F241.other W260 (Or.inr (slot_ne (Or.inr (hw _ (List.mem_of_getElem? (i := 93) rfl))) (Or.inr (hw _ (List.mem_of_getElem? (i := 110) rfl))) (by decide) (t := (.object "com/example/twigmeter/twigmeter/xml/NameTable")) (t' := (.object "com/example/twigmeter/twigmeter/xml/IntList")) (by decide) (by decide)))
  have F266 : Exa Z hX260 b39 "com/example/twigmeter/twigmeter/xml/IntList" := F242.wr W260
  have F267 : Fld Z hX260 b39 "com/example/twigmeter/twigmeter/xml/IntList" "values" "[I" (.ref b52_0) := F243.other W260 (Or.inl (Ne.symm ne_tr_b39))
  have F268 : Fld Z hX260 b39 "com/example/twigmeter/twigmeter/xml/IntList" "size" "I" (.int (0 : Int32)) := F244.other W260 (Or.inl (Ne.symm ne_tr_b39))
  have F269 : own_ia Z hX260 b52_0 (own_zs (16 : Int32)) := F245.other W260 (Ne.symm ne_tr_b52_0)
  have F270 : Fld Z hX260 tr "com/example/twigmeter/twigmeter/xml/ElementTree" "nameNumbers" "Lcom/example/twigmeter/twigmeter/xml/IntList;" (.ref b39) := F246.other W260 (Or.inr (slot_ne (Or.inr (hw _ (List.mem_of_getElem? (i := 104) rfl))) (Or.inr (hw _ (List.mem_of_getElem? (i := 110) rfl))) (by decide) (t := (.object "com/example/twigmeter/twigmeter/xml/IntList")) (t' := (.object "com/example/twigmeter/twigmeter/xml/IntList")) (by decide) (by decide)))
  have F271 : Exa Z hX260 b83 "com/example/twigmeter/twigmeter/xml/IntList" := F247.wr W260
  have F272 : Fld Z hX260 b83 "com/example/twigmeter/twigmeter/xml/IntList" "values" "[I" (.ref b100_0) := F248.other W260 (Or.inl (Ne.symm ne_tr_b83))
  have F273 : Fld Z hX260 b83 "com/example/twigmeter/twigmeter/xml/IntList" "size" "I" (.int (0 : Int32)) := F249.other W260 (Or.inl (Ne.symm ne_tr_b83))
  have F274 : own_ia Z hX260 b100_0 (own_zs (16 : Int32)) := F250.other W260 (Ne.symm ne_tr_b100_0)
  have F275 : Fld Z hX260 tr "com/example/twigmeter/twigmeter/xml/ElementTree" "attributes" "Lcom/example/twigmeter/twigmeter/xml/IntList;" (.ref b83) := F251.other W260 (Or.inr (slot_ne (Or.inr (hw _ (List.mem_of_getElem? (i := 106) rfl))) (Or.inr (hw _ (List.mem_of_getElem? (i := 110) rfl))) (by decide) (t := (.object "com/example/twigmeter/twigmeter/xml/IntList")) (t' := (.object "com/example/twigmeter/twigmeter/xml/IntList")) (by decide) (by decide)))
  have F276 : Exa Z hX260 b139 "com/example/twigmeter/twigmeter/xml/IntList" := F252.wr W260
  have F277 : Fld Z hX260 b139 "com/example/twigmeter/twigmeter/xml/IntList" "values" "[I" (.ref b160_0) := F253.other W260 (Or.inl (Ne.symm ne_tr_b139))
  have F278 : Fld Z hX260 b139 "com/example/twigmeter/twigmeter/xml/IntList" "size" "I" (.int (0 : Int32)) := F254.other W260 (Or.inl (Ne.symm ne_tr_b139))
  have F279 : own_ia Z hX260 b160_0 (own_zs (16 : Int32)) := F255.other W260 (Ne.symm ne_tr_b160_0)
  have F280 : Fld Z hX260 tr "com/example/twigmeter/twigmeter/xml/ElementTree" "ends" "Lcom/example/twigmeter/twigmeter/xml/IntList;" (.ref b139) := F256.other W260 (Or.inr (slot_ne (Or.inr (hw _ (List.mem_of_getElem? (i := 108) rfl))) (Or.inr (hw _ (List.mem_of_getElem? (i := 110) rfl))) (by decide) (t := (.object "com/example/twigmeter/twigmeter/xml/IntList")) (t' := (.object "com/example/twigmeter/twigmeter/xml/IntList")) (by decide) (by decide)))
  have F281 : Exa Z hX260 b207 "com/example/twigmeter/twigmeter/xml/IntList" := F233.wr W260
  have F282 : Fld Z hX260 b207 "com/example/twigmeter/twigmeter/xml/IntList" "values" "[I" (.ref b232_0) := F234.other W260 (Or.inl (Ne.symm ne_tr_b207))
  have F283 : Fld Z hX260 b207 "com/example/twigmeter/twigmeter/xml/IntList" "size" "I" (.int (0 : Int32)) := F235.other W260 (Or.inl (Ne.symm ne_tr_b207))
  have F284 : own_ia Z hX260 b232_0 (own_zs (16 : Int32)) := F236.other W260 (Ne.symm ne_tr_b232_0)
  have Z285 : n0 ≤ hX260.size := Nat.le_trans Z258 (Keep.of_wr W260).1
  have K286 : Keep h0 hX260 [tr] := K259.wr W260 (Or.inl (List.mem_of_getElem? (i := 0) rfl))
  have pre288 : ∀ tq, Steps p.tables e below (T260.setTop (mkF m 59 #[.val (.ref tr)] [])) tq → Steps p.tables e below (s₁.setTop (entryFrame m #[(.ref tr)] 1)) tq := by
    intro tq kt
    refine pre0 _ ?_
    show Steps p.tables e below (s₁.setTop (mkF m 0 #[.val (.ref tr)] [])) _
    refine XS.aloadN X0.here hx rfl (hb hby d4_0) rfl rfl ?_
    refine st1 _ ?_
    show Steps p.tables e below (T1.setTop (mkF m 4 #[.val (.ref tr)] [])) _
    refine XS.aloadN X1.here hx rfl (hb hby d4_4) rfl rfl ?_
    refine st2 _ ?_
    show Steps p.tables e below (T2.setTop (mkF m 8 #[.val (.ref tr)] [(.ref b2), (.ref tr)])) _
    refine XS.dup X2.here hx rfl (hb hby d4_8) rfl rfl ?_
    refine st16.trans ?_
    show Steps p.tables e below (T16.setTop (mkF m 12 #[.val (.ref tr)] [(.ref b2), (.ref tr)])) _
    refine st28 _ ?_
    show Steps p.tables e below (T28.setTop (mkF m 15 #[.val (.ref tr)] [])) _
    refine XS.aloadN X28.here hx rfl (hb hby d4_15) rfl rfl ?_
    refine st39 _ ?_
    show Steps p.tables e below (T39.setTop (mkF m 19 #[.val (.ref tr)] [(.ref b39), (.ref tr)])) _
    refine XS.dup X39.here hx rfl (hb hby d4_19) rfl rfl ?_
    refine st52.trans ?_
    show Steps p.tables e below (T52.setTop (mkF m 23 #[.val (.ref tr)] [(.ref b39), (.ref tr)])) _
    refine st68 _ ?_
    show Steps p.tables e below (T68.setTop (mkF m 26 #[.val (.ref tr)] [])) _
    refine XS.aloadN X68.here hx rfl (hb hby d4_26) rfl rfl ?_
    refine st83 _ ?_
    show Steps p.tables e below (T83.setTop (mkF m 30 #[.val (.ref tr)] [(.ref b83), (.ref tr)])) _
    refine XS.dup X83.here hx rfl (hb hby d4_30) rfl rfl ?_
    refine st100.trans ?_
    show Steps p.tables e below (T100.setTop (mkF m 34 #[.val (.ref tr)] [(.ref b83), (.ref tr)])) _
    refine st120 _ ?_
    show Steps p.tables e below (T120.setTop (mkF m 37 #[.val (.ref tr)] [])) _
    refine XS.aloadN X120.here hx rfl (hb hby d4_37) rfl rfl ?_
    refine st139 _ ?_
    show Steps p.tables e below (T139.setTop (mkF m 41 #[.val (.ref tr)] [(.ref b139), (.ref tr)])) _
    refine XS.dup X139.here hx rfl (hb hby d4_41) rfl rfl ?_
    refine st160.trans ?_
    show Steps p.tables e below (T160.setTop (mkF m 45 #[.val (.ref tr)] [(.ref b139), (.ref tr)])) _
    refine st184 _ ?_
    show Steps p.tables e below (T184.setTop (mkF m 48 #[.val (.ref tr)] [])) _
    refine XS.aloadN X184.here hx rfl (hb hby d4_48) rfl rfl ?_
    refine st207 _ ?_
    show Steps p.tables e below (T207.setTop (mkF m 52 #[.val (.ref tr)] [(.ref b207), (.ref tr)])) _
    refine XS.dup X207.here hx rfl (hb hby d4_52) rfl rfl ?_
    refine st232.trans ?_
    show Steps p.tables e below (T232.setTop (mkF m 56 #[.val (.ref tr)] [(.ref b207), (.ref tr)])) _
    refine st260 _ ?_
    show Steps p.tables e below (T260.setTop (mkF m 59 #[.val (.ref tr)] [])) _
    exact kt
  have FT287 : own_tr Z hX260 tr tr hX260.size own_S0 := ⟨b39, b52_0, b83, b100_0, b139, b160_0, b207, b232_0, _, _, rfl, rfl, Nat.le_refl _, lt_tr_b39, lt_b39_b52_0, lt_b52_0_b83, lt_b83_b100_0, lt_b100_0_b139, lt_b139_b160_0, lt_b160_0_b207, lt_b207_b232_0, F284.lt, Nat.le_refl _, F262, F270, F275, F280, F261, ⟨F266, F267, F268, F269⟩, ⟨F271, F272, F273, F274⟩, ⟨F276, F277, F278, F279⟩, ⟨F281, F282, F283, F284⟩⟩
  obtain ⟨fs, hr, hrun, hended, hW, hsame⟩ := X260.leave (v := none) (fun _ => rfl)
  refine ⟨_, _, pre288 _ ?_, hrun, hended, _, _, rfl, ?_, ⟨_, rfl⟩, hW, hsame.mono (by decide) (by decide)⟩
  · skip
    show Steps p.tables e below (T260.setTop (mkF m 59 #[.val (.ref tr)] [])) _
    exact X260.returnOut hx Bd.returns (hb hby d4_59) hr
  · show Q4 Z tr dd h0 n0 _ T260.heap _
    rw [e260]
    exact ⟨hX260.size, rfl, N260, K286, F262, FT287⟩
theorem d15_0 : decode prog_66_method_7_code 0 = .ok (.aload_n 0, 1) := by decide +kernel
theorem d15_1 : decode prog_66_method_7_code 1 = .ok (.getfield 13, 3) := by decide +kernel
theorem d15_4 : decode prog_66_method_7_code 4 = .ok (.ireturn, 1) := by decide +kernel
theorem pn_15 : plainName "com/example/twigmeter/twigmeter/xml/IntList" = true := by first | (simp [plainName, overriddenIn]; done) | decide +kernel
theorem ef_15 (m : MethodId) (x0 : Addr) : entryFrame m #[(.ref x0)] 1 = mkF m 0 #[.val (.ref x0)] [] := by first | (simp [entryFrame, mkF, argsToLocals, Value.category]; done) | rfl
def Q15 (Z : State) (ob : Addr) (sz : Int32) (h0 : Heap) (n0 : Nat) (v : Option Value) (h : Heap) (L : List Loc) : Prop := v = some (.int sz) ∧ Fr n0 L ∧ h = h0
set_option maxRecDepth 65536 in
set_option maxHeartbeats 40000000 in
theorem rm15 (l : Launch) (Z : State) (a0 : Array Value) (hw : ∀ d ∈ tables_1, d.before a0 Z = true) (ws : List Jvm.Cond) (ob : Addr) (sz : Int32) (h0 : Heap) (n0 : Nat) (Z0 : n0 ≤ h0.size) (I0 : Fld Z h0 ob "com/example/twigmeter/twigmeter/xml/IntList" "size" "I" (.int sz)) :
    MetFree l (⟨"com/example/twigmeter/twigmeter/xml/IntList", "size", "()I"⟩ : MethodName) (head1 (Jvm.Cond.code (⟨"com/example/twigmeter/twigmeter/xml/IntList", "size", "()I"⟩ : MethodName) prog_66_method_7_code 1 (some .int) :: ws) ({ frames := 0, cells := 0, slots := 0, locals := 0 } : Room)) (fun a U => a = #[(.ref ob)] ∧ Z.Warmed39 U.vm ∧ U.heap = h0) (fun _ _ _ _ _ => True) (fun _ U o U' => ∃ v L, o = .returned v ∧ Q15 Z ob sz h0 n0 v U'.heap L ∧ FrameEnd U o U' L ({ frames := 0, cells := 0, slots := 0, locals := 0 } : Room).cells ({ frames := 0, cells := 0, slots := 0, locals := 0 } : Room).slots) := by
  refine MetFree.of_bodySF (plainFor_of_name pn_15) hisR ?_
  intro p e s m args below meth c s₁ Bd hml0 hP hK
  obtain ⟨rfl, hZ, hh⟩ := hP
  have hx := Bd.exec
  have hby := Bd.bytes
  have hml : c.maxLocals = 1 := hml0
  have hown : s.vm.findClass "com/example/twigmeter/twigmeter/xml/IntList" = some m.cls := findClass_of_methodNamed Bd.named
  have hnm := (name_of_methodNamed Bd.named Bd.method).1
  have X0 : Stand p l e ({ frames := 0, cells := 0, slots := 0, locals := 0 } : Room) s m #[(.ref ob)] below meth c s₁ [] 0 0 := Stand.of_body Bd
  have e0 : s₁.heap = h0 := by rw [← hh, Bd.state]; rfl
  have N0 := Fr.nil n0
  have K0 : Keep h0 h0 [] := Keep.refl h0 _
  have pre0 : ∀ tq, Steps p.tables e below (s₁.setTop (mkF m 0 #[.val (.ref ob)] [])) tq → Steps p.tables e below (s₁.setTop (entryFrame m #[(.ref ob)] 1)) tq := fun tq kq => castTop (ef_15 m ob) kq
  obtain ⟨T1, X1, e1, st1⟩ := getF X0 hx hZ hown (host := "") (Or.inl (hw _ (List.mem_of_getElem? (i := 121) rfl))) Via.refl e0 I0 (g := (mkF m 1 #[.val (.ref ob)] [(.ref ob)])) rfl rfl (hb hby d15_1)
  obtain ⟨fs, hr, hrun, hended, hW, hsame⟩ := X1.leave (v := some (Value.int sz)) (fun h => by rw [Bd.returns] at h; cases h)
  refine ⟨_, _, pre0 _ ?_, hrun, hended, _, _, rfl, ?_, ⟨_, rfl⟩, hW, hsame.mono (by decide) (by decide)⟩
  · skip
    show Steps p.tables e below (s₁.setTop (mkF m 0 #[.val (.ref ob)] [])) _
    refine XS.aloadN X0.here hx rfl (hb hby d15_0) rfl rfl ?_
    refine st1 _ ?_
    show Steps p.tables e below (T1.setTop (mkF m 4 #[.val (.ref ob)] [(.int sz)])) _
    exact retI X1 hx Bd.returns (hb hby d15_4) hr
  · show Q15 Z ob sz h0 n0 _ T1.heap _
    rw [e1]
    exact ⟨rfl, N0, rfl⟩
theorem d16_0 : decode prog_66_method_2_code 0 = .ok (.aload_n 0, 1) := by decide +kernel
theorem d16_1 : decode prog_66_method_2_code 1 = .ok (.getfield 13, 3) := by decide +kernel
theorem d16_4 : decode prog_66_method_2_code 4 = .ok (.aload_n 0, 1) := by decide +kernel
theorem d16_5 : decode prog_66_method_2_code 5 = .ok (.getfield 7, 3) := by decide +kernel
theorem d16_8 : decode prog_66_method_2_code 8 = .ok (.arraylength, 1) := by decide +kernel
theorem d16_9 : decode prog_66_method_2_code 9 = .ok (.if_icmp .ne 20, 3) := by decide +kernel
theorem d16_29 : decode prog_66_method_2_code 29 = .ok (.aload_n 0, 1) := by decide +kernel
theorem d16_30 : decode prog_66_method_2_code 30 = .ok (.getfield 7, 3) := by decide +kernel
theorem d16_33 : decode prog_66_method_2_code 33 = .ok (.aload_n 0, 1) := by decide +kernel
theorem d16_34 : decode prog_66_method_2_code 34 = .ok (.dup, 1) := by decide +kernel
theorem d16_35 : decode prog_66_method_2_code 35 = .ok (.getfield 13, 3) := by decide +kernel
theorem d16_38 : decode prog_66_method_2_code 38 = .ok (.dup_x1, 1) := by decide +kernel
theorem d16_39 : decode prog_66_method_2_code 39 = .ok (.iconst 1, 1) := by decide +kernel
theorem d16_40 : decode prog_66_method_2_code 40 = .ok (.iadd, 1) := by decide +kernel
theorem d16_41 : decode prog_66_method_2_code 41 = .ok (.putfield 13, 3) := by decide +kernel
theorem d16_44 : decode prog_66_method_2_code 44 = .ok (.iload_n 1, 1) := by decide +kernel
theorem d16_45 : decode prog_66_method_2_code 45 = .ok (.iastore, 1) := by decide +kernel
theorem d16_46 : decode prog_66_method_2_code 46 = .ok (.return_, 1) := by decide +kernel
theorem pn_16 : plainName "com/example/twigmeter/twigmeter/xml/IntList" = true := by first | (simp [plainName, overriddenIn]; done) | decide +kernel
theorem ef_16 (m : MethodId) (x0 : Addr) (x1 : Int32) : entryFrame m #[(.ref x0), (.int x1)] 2 = mkF m 0 #[.val (.ref x0), .val (.int x1)] [] := by first | (simp [entryFrame, mkF, argsToLocals, Value.category]; done) | rfl
theorem own_inx_16_45 (w : Int32) (xs : List Int32) (sz : Int32) (hin : own_inx xs sz = true) (hne : ¬ (sz = (own_len xs))) : own_inx xs sz = true := hin
def Q16 (Z : State) (ob : Addr) (w : Int32) (vr : Addr) (xs : List Int32) (sz : Int32) (h0 : Heap) (n0 : Nat) (v : Option Value) (h : Heap) (L : List Loc) : Prop := v = none ∧ Fr n0 L ∧ Keep h0 h [ob, vr] ∧ Exa Z h ob "com/example/twigmeter/twigmeter/xml/IntList" ∧ Fld Z h ob "com/example/twigmeter/twigmeter/xml/IntList" "values" "[I" (.ref vr) ∧ Fld Z h ob "com/example/twigmeter/twigmeter/xml/IntList" "size" "I" (.int (sz + (1 : Int32))) ∧ own_ia Z h vr (own_wr xs sz w)
set_option maxRecDepth 65536 in
set_option maxHeartbeats 40000000 in
theorem rm16 (l : Launch) (Z : State) (a0 : Array Value) (hw : ∀ d ∈ tables_1, d.before a0 Z = true) (ws : List Jvm.Cond) (ob : Addr) (w : Int32) (vr : Addr) (xs : List Int32) (sz : Int32) (h0 : Heap) (n0 : Nat) (Z0 : n0 ≤ h0.size) (I0 : Fld Z h0 ob "com/example/twigmeter/twigmeter/xml/IntList" "values" "[I" (.ref vr)) (I1 : Fld Z h0 ob "com/example/twigmeter/twigmeter/xml/IntList" "size" "I" (.int sz)) (I2 : own_ia Z h0 vr xs) (I3 : Exa Z h0 ob "com/example/twigmeter/twigmeter/xml/IntList") (g_ob : n0 ≤ ob) (g_vr : n0 ≤ vr) (ne_ob_vr : ob ≠ vr) (hin : own_inx xs sz = true) (hne : ¬ (sz = (own_len xs))) :
    MetFree l (⟨"com/example/twigmeter/twigmeter/xml/IntList", "add", "(I)V"⟩ : MethodName) (head1 (Jvm.Cond.code (⟨"com/example/twigmeter/twigmeter/xml/IntList", "add", "(I)V"⟩ : MethodName) prog_66_method_2_code 2 none :: ws) ({ frames := 0, cells := 0, slots := 0, locals := 0 } : Room)) (fun a U => a = #[(.ref ob), (.int w)] ∧ Z.Warmed39 U.vm ∧ U.heap = h0) (fun _ _ _ _ _ => True) (fun _ U o U' => ∃ v L, o = .returned v ∧ Q16 Z ob w vr xs sz h0 n0 v U'.heap L ∧ FrameEnd U o U' L ({ frames := 0, cells := 0, slots := 0, locals := 0 } : Room).cells ({ frames := 0, cells := 0, slots := 0, locals := 0 } : Room).slots) := by
  refine MetFree.of_bodySF (plainFor_of_name pn_16) hisR ?_
  intro p e s m args below meth c s₁ Bd hml0 hP hK
  obtain ⟨rfl, hZ, hh⟩ := hP
  have hx := Bd.exec
  have hby := Bd.bytes
  have hml : c.maxLocals = 2 := hml0
  have hown : s.vm.findClass "com/example/twigmeter/twigmeter/xml/IntList" = some m.cls := findClass_of_methodNamed Bd.named
  have hnm := (name_of_methodNamed Bd.named Bd.method).1
  have X0 : Stand p l e ({ frames := 0, cells := 0, slots := 0, locals := 0 } : Room) s m #[(.ref ob), (.int w)] below meth c s₁ [] 0 0 := Stand.of_body Bd
  have e0 : s₁.heap = h0 := by rw [← hh, Bd.state]; rfl
  have N0 := Fr.nil n0
  have K0 : Keep h0 h0 [ob, vr] := Keep.refl h0 _
  have pre0 : ∀ tq, Steps p.tables e below (s₁.setTop (mkF m 0 #[.val (.ref ob), .val (.int w)] [])) tq → Steps p.tables e below (s₁.setTop (entryFrame m #[(.ref ob), (.int w)] 2)) tq := fun tq kq => castTop (ef_16 m ob w) kq
  obtain ⟨T1, X1, e1, st1⟩ := getF X0 hx hZ hown (host := "") (Or.inl (hw _ (List.mem_of_getElem? (i := 121) rfl))) Via.refl e0 I1 (g := (mkF m 1 #[.val (.ref ob), .val (.int w)] [(.ref ob)])) rfl rfl (hb hby d16_1)
  obtain ⟨T2, X2, e2, st2⟩ := getF X1 hx hZ hown (host := "") (Or.inl (hw _ (List.mem_of_getElem? (i := 101) rfl))) Via.refl e1 I0 (g := (mkF m 5 #[.val (.ref ob), .val (.int w)] [(.ref ob), (.int sz)])) rfl rfl (hb hby d16_5)
  obtain ⟨cl3, Ar3, ln3⟩ := I2.alen
  obtain ⟨T4, X4, e4, st4⟩ := getF X2 hx hZ hown (host := "") (Or.inl (hw _ (List.mem_of_getElem? (i := 101) rfl))) Via.refl e2 I0 (g := (mkF m 30 #[.val (.ref ob), .val (.int w)] [(.ref ob)])) rfl rfl (hb hby d16_30)
  obtain ⟨T5, X5, e5, st5⟩ := getF X4 hx hZ hown (host := "") (Or.inl (hw _ (List.mem_of_getElem? (i := 121) rfl))) Via.refl e4 I1 (g := (mkF m 35 #[.val (.ref ob), .val (.int w)] [(.ref ob), (.ref ob), (.ref vr)])) rfl rfl (hb hby d16_35)
  obtain ⟨T6, hX6, X6, e6, W6, st6⟩ := putF X5 hx hZ hown (host := "") (Or.inl (hw _ (List.mem_of_getElem? (i := 121) rfl))) Via.refl e5 I1 I3 (Or.inl (hw _ (List.mem_of_getElem? (i := 122) rfl))) (hw _ (List.mem_of_getElem? (i := 95) rfl)) (ty := .int) (by decide) rfl rfl (g := (mkF m 41 #[.val (.ref ob), .val (.int w)] [(.int (sz + (1 : Int32))), (.ref ob), (.int sz), (.ref vr)])) rfl rfl (hb hby d16_41)
  have N6 := Fr.snoc X6 N0 g_ob
  have F7 : Fld Z hX6 ob "com/example/twigmeter/twigmeter/xml/IntList" "size" "I" (.int (sz + (1 : Int32))) := I1.same W6
  have F8 : Fld Z hX6 ob "com/example/twigmeter/twigmeter/xml/IntList" "values" "[I" (.ref vr) := I0.other W6 (Or.inr (slot_ne (Or.inl (hw _ (List.mem_of_getElem? (i := 102) rfl))) (Or.inl (hw _ (List.mem_of_getElem? (i := 122) rfl))) (by decide) (t := (.array .int)) (t' := .int) (by decide) (by decide)))
  have F9 : own_ia Z hX6 vr xs := I2.other W6 (Ne.symm ne_ob_vr)
  have F10 : Exa Z hX6 ob "com/example/twigmeter/twigmeter/xml/IntList" := I3.wr W6
  have Z11 : n0 ≤ hX6.size := Nat.le_trans Z0 (Keep.of_wr W6).1
  have K12 : Keep h0 hX6 [ob, vr] := K0.wr W6 (Or.inl (List.mem_of_getElem? (i := 0) rfl))
  obtain ⟨cl13, Ar13, hin13, pt13⟩ := F9.put (j := sz) (own_inx_16_45 w xs sz hin hne)
  obtain ⟨T13, hX13, X13, e13, W13, st13⟩ := stI X6 hx hZ e6 Ar13 (j := sz) hin13 (g := (mkF m 45 #[.val (.ref ob), .val (.int w)] [(.int w), (.int sz), (.ref vr)])) rfl rfl (hb hby d16_45)
  have F14 : own_ia Z hX13 vr (own_wr xs sz w) := pt13 _ _ W13
  have N13 := Fr.snoc X13 N6 g_vr
  have F15 : Fld Z hX13 ob "com/example/twigmeter/twigmeter/xml/IntList" "values" "[I" (.ref vr) := F8.other W13 (Or.inl ne_ob_vr)
  have F16 : Exa Z hX13 ob "com/example/twigmeter/twigmeter/xml/IntList" := F10.wr W13
  have F17 : Fld Z hX13 ob "com/example/twigmeter/twigmeter/xml/IntList" "size" "I" (.int (sz + (1 : Int32))) := F7.other W13 (Or.inl ne_ob_vr)
  have Z18 : n0 ≤ hX13.size := Nat.le_trans Z11 (Keep.of_wr W13).1
  have K19 : Keep h0 hX13 [ob, vr] := K12.wr W13 (Or.inl (List.mem_of_getElem? (i := 1) rfl))
  obtain ⟨fs, hr, hrun, hended, hW, hsame⟩ := X13.leave (v := none) (fun _ => rfl)
  refine ⟨_, _, pre0 _ ?_, hrun, hended, _, _, rfl, ?_, ⟨_, rfl⟩, hW, hsame.mono (by decide) (by decide)⟩
  · skip
    show Steps p.tables e below (s₁.setTop (mkF m 0 #[.val (.ref ob), .val (.int w)] [])) _
    refine XS.aloadN X0.here hx rfl (hb hby d16_0) rfl rfl ?_
    refine st1 _ ?_
    show Steps p.tables e below (T1.setTop (mkF m 4 #[.val (.ref ob), .val (.int w)] [(.int sz)])) _
    refine XS.aloadN X1.here hx rfl (hb hby d16_4) rfl rfl ?_
    refine st2 _ ?_
    show Steps p.tables e below (T2.setTop (mkF m 8 #[.val (.ref ob), .val (.int w)] [(.ref vr), (.int sz)])) _
    refine X2.arraylength hx (heq_of e2 Ar3.1) (State.isArrayOf_alike hZ.alike Ar3.2.1) (g := (mkF m 8 #[.val (.ref ob), .val (.int w)] [(.ref vr), (.int sz)])) rfl rfl (hb hby d16_8) _ ?_
    rw [ln3]
    show Steps p.tables e below (T2.setTop (mkF m 9 #[.val (.ref ob), .val (.int w)] [(.int (own_len xs)), (.int sz)])) _
    refine XS.icmpYes X2.here hx rfl (pc0 := 9) (pc' := 29) rfl (hb hby d16_9) rfl (feq hne).2 (by decide) (by decide) ?_
    refine XS.aloadN X2.here hx rfl (hb hby d16_29) rfl rfl ?_
    refine st4 _ ?_
    show Steps p.tables e below (T4.setTop (mkF m 33 #[.val (.ref ob), .val (.int w)] [(.ref vr)])) _
    refine XS.aloadN X4.here hx rfl (hb hby d16_33) rfl rfl ?_
    refine XS.dup X4.here hx rfl (hb hby d16_34) rfl rfl ?_
    refine st5 _ ?_
    show Steps p.tables e below (T5.setTop (mkF m 38 #[.val (.ref ob), .val (.int w)] [(.int sz), (.ref ob), (.ref vr)])) _
    refine XS.dupX1 X5.here hx rfl (hb hby d16_38) rfl rfl rfl ?_
    refine XS.iconst X5.here hx rfl (hb hby d16_39) ?_
    refine XS.iadd X5.here hx rfl (hb hby d16_40) rfl ?_
    refine st6 _ ?_
    show Steps p.tables e below (T6.setTop (mkF m 44 #[.val (.ref ob), .val (.int w)] [(.int sz), (.ref vr)])) _
    refine XS.iloadN X6.here hx rfl (hb hby d16_44) rfl ?_
    refine st13 _ ?_
    show Steps p.tables e below (T13.setTop (mkF m 46 #[.val (.ref ob), .val (.int w)] [])) _
    exact X13.returnOut hx Bd.returns (hb hby d16_46) hr
  · show Q16 Z ob w vr xs sz h0 n0 _ T13.heap _
    rw [e13]
    exact ⟨rfl, N13, K19, F16, F15, F17, F14⟩
theorem d14_0 : decode prog_64_method_4_code 0 = .ok (.aload_n 0, 1) := by decide +kernel
theorem d14_1 : decode prog_64_method_4_code 1 = .ok (.getfield 19, 3) := by decide +kernel
theorem d14_4 : decode prog_64_method_4_code 4 = .ok (.invokevirtual 44, 3) := by decide +kernel
theorem d14_7 : decode prog_64_method_4_code 7 = .ok (.istore_n 3, 1) := by decide +kernel
theorem d14_8 : decode prog_64_method_4_code 8 = .ok (.aload_n 0, 1) := by decide +kernel
theorem d14_9 : decode prog_64_method_4_code 9 = .ok (.getfield 19, 3) := by decide +kernel
theorem d14_12 : decode prog_64_method_4_code 12 = .ok (.iload_n 1, 1) := by decide +kernel
theorem d14_13 : decode prog_64_method_4_code 13 = .ok (.invokevirtual 48, 3) := by decide +kernel
theorem d14_16 : decode prog_64_method_4_code 16 = .ok (.aload_n 0, 1) := by decide +kernel
theorem d14_17 : decode prog_64_method_4_code 17 = .ok (.getfield 23, 3) := by decide +kernel
theorem d14_20 : decode prog_64_method_4_code 20 = .ok (.iload_n 2, 1) := by decide +kernel
theorem d14_21 : decode prog_64_method_4_code 21 = .ok (.invokevirtual 48, 3) := by decide +kernel
theorem d14_24 : decode prog_64_method_4_code 24 = .ok (.aload_n 0, 1) := by decide +kernel
theorem d14_25 : decode prog_64_method_4_code 25 = .ok (.getfield 26, 3) := by decide +kernel
theorem d14_28 : decode prog_64_method_4_code 28 = .ok (.iconst (-1), 1) := by decide +kernel
theorem d14_29 : decode prog_64_method_4_code 29 = .ok (.invokevirtual 48, 3) := by decide +kernel
theorem d14_32 : decode prog_64_method_4_code 32 = .ok (.aload_n 0, 1) := by decide +kernel
theorem d14_33 : decode prog_64_method_4_code 33 = .ok (.getfield 29, 3) := by decide +kernel
theorem d14_36 : decode prog_64_method_4_code 36 = .ok (.iload_n 3, 1) := by decide +kernel
theorem d14_37 : decode prog_64_method_4_code 37 = .ok (.invokevirtual 48, 3) := by decide +kernel
theorem d14_40 : decode prog_64_method_4_code 40 = .ok (.iload_n 3, 1) := by decide +kernel
theorem d14_41 : decode prog_64_method_4_code 41 = .ok (.ireturn, 1) := by decide +kernel
theorem pn_14 : plainName "com/example/twigmeter/twigmeter/xml/ElementTree" = true := by first | (simp [plainName, overriddenIn]; done) | decide +kernel
theorem pd_3 : parseMethodDescriptor "()I" = some ⟨[], some .int⟩ := by decide +kernel
theorem pd_4 : parseMethodDescriptor "(I)V" = some ⟨[.int], none⟩ := by decide +kernel
theorem ef_14 (m : MethodId) (x0 : Addr) (x1 : Int32) (x2 : Int32) : entryFrame m #[(.ref x0), (.int x1), (.int x2)] 4 = mkF m 0 #[.val (.ref x0), .val (.int x1), .val (.int x2), .unset] [] := by first | (simp [entryFrame, mkF, argsToLocals, Value.category]; done) | rfl
theorem own_pre_14_13_hin (z1 : Int32) (z2 : Int32) (lo : Nat) (bd : Nat) (S : own_S) (hlo : n0 ≤ lo) (hok : own_okO S = true) (xn : List Int32) (xa : List Int32) (l1 : xn.length = 16) (l2 : xa.length = 16) : own_inx xn S.2.2.1 = true := (own_x16 hok l1).1
theorem own_pre_14_13_hne (z1 : Int32) (z2 : Int32) (lo : Nat) (bd : Nat) (S : own_S) (hlo : n0 ≤ lo) (hok : own_okO S = true) (xn : List Int32) (xa : List Int32) (l1 : xn.length = 16) (l2 : xa.length = 16) (hp4_hin : own_inx xn S.2.2.1 = true) : ¬ (S.2.2.1 = (own_len xn)) := (own_x16 hok l1).2
theorem own_pre_14_21_hin (z1 : Int32) (z2 : Int32) (lo : Nat) (bd : Nat) (S : own_S) (hlo : n0 ≤ lo) (hok : own_okO S = true) (xn : List Int32) (xa : List Int32) (l1 : xn.length = 16) (l2 : xa.length = 16) (hp4_hin : own_inx xn S.2.2.1 = true) (hp4_hne : ¬ (S.2.2.1 = (own_len xn))) : own_inx xa S.2.2.1 = true := (own_x16 hok l2).1
theorem own_pre_14_21_hne (z1 : Int32) (z2 : Int32) (lo : Nat) (bd : Nat) (S : own_S) (hlo : n0 ≤ lo) (hok : own_okO S = true) (xn : List Int32) (xa : List Int32) (l1 : xn.length = 16) (l2 : xa.length = 16) (hp4_hin : own_inx xn S.2.2.1 = true) (hp4_hne : ¬ (S.2.2.1 = (own_len xn))) (hp30_hin : own_inx xa S.2.2.1 = true) : ¬ (S.2.2.1 = (own_len xa)) := (own_x16 hok l2).2
theorem own_pre_14_29_hin (z1 : Int32) (z2 : Int32) (lo : Nat) (bd : Nat) (S : own_S) (hlo : n0 ≤ lo) (hok : own_okO S = true) (xn : List Int32) (xa : List Int32) (l1 : xn.length = 16) (l2 : xa.length = 16) (hp4_hin : own_inx xn S.2.2.1 = true) (hp4_hne : ¬ (S.2.2.1 = (own_len xn))) (hp30_hin : own_inx xa S.2.2.1 = true) (hp30_hne : ¬ (S.2.2.1 = (own_len xa))) : own_inx S.1 S.2.2.1 = true := (own_okO_e hok).1
theorem own_pre_14_29_hne (z1 : Int32) (z2 : Int32) (lo : Nat) (bd : Nat) (S : own_S) (hlo : n0 ≤ lo) (hok : own_okO S = true) (xn : List Int32) (xa : List Int32) (l1 : xn.length = 16) (l2 : xa.length = 16) (hp4_hin : own_inx xn S.2.2.1 = true) (hp4_hne : ¬ (S.2.2.1 = (own_len xn))) (hp30_hin : own_inx xa S.2.2.1 = true) (hp30_hne : ¬ (S.2.2.1 = (own_len xa))) (hp56_hin : own_inx S.1 S.2.2.1 = true) : ¬ (S.2.2.1 = (own_len S.1)) := (own_okO_e hok).2.2.1
theorem own_pre_14_37_hin (z1 : Int32) (z2 : Int32) (lo : Nat) (bd : Nat) (S : own_S) (hlo : n0 ≤ lo) (hok : own_okO S = true) (xn : List Int32) (xa : List Int32) (l1 : xn.length = 16) (l2 : xa.length = 16) (hp4_hin : own_inx xn S.2.2.1 = true) (hp4_hne : ¬ (S.2.2.1 = (own_len xn))) (hp30_hin : own_inx xa S.2.2.1 = true) (hp30_hne : ¬ (S.2.2.1 = (own_len xa))) (hp56_hin : own_inx S.1 S.2.2.1 = true) (hp56_hne : ¬ (S.2.2.1 = (own_len S.1))) : own_inx S.2.1 S.2.2.2 = true := (own_okO_e hok).2.1
theorem own_pre_14_37_hne (z1 : Int32) (z2 : Int32) (lo : Nat) (bd : Nat) (S : own_S) (hlo : n0 ≤ lo) (hok : own_okO S = true) (xn : List Int32) (xa : List Int32) (l1 : xn.length = 16) (l2 : xa.length = 16) (hp4_hin : own_inx xn S.2.2.1 = true) (hp4_hne : ¬ (S.2.2.1 = (own_len xn))) (hp30_hin : own_inx xa S.2.2.1 = true) (hp30_hne : ¬ (S.2.2.1 = (own_len xa))) (hp56_hin : own_inx S.1 S.2.2.1 = true) (hp56_hne : ¬ (S.2.2.1 = (own_len S.1))) (hp82_hin : own_inx S.2.1 S.2.2.2 = true) : ¬ (S.2.2.2 = (own_len S.2.1)) := (own_okO_e hok).2.2.2.1
def Q14 (Z : State) (tr : Addr) (z1 : Int32) (z2 : Int32) (lo : Nat) (bd : Nat) (S : own_S) (h0 : Heap) (n0 : Nat) (v : Option Value) (h : Heap) (L : List Loc) : Prop := v = some (.int S.2.2.1) ∧ Fr n0 L ∧ Keep h0 h (own_rg lo bd) ∧ own_tr Z h tr lo bd (own_opn S)
set_option maxRecDepth 65536 in
set_option maxHeartbeats 40000000 in
theorem rm14 (l : Launch) (Z : State) (a0 : Array Value) (hw : ∀ d ∈ tables_1, d.before a0 Z = true) (ws : List Jvm.Cond) (tr : Addr) (z1 : Int32) (z2 : Int32) (lo : Nat) (bd : Nat) (S : own_S) (h0 : Heap) (n0 : Nat) (Z0 : n0 ≤ h0.size) (I0 : own_tr Z h0 tr lo bd S) (hlo : n0 ≤ lo) (hok : own_okO S = true) :
    MetFree l (⟨"com/example/twigmeter/twigmeter/xml/ElementTree", "open", "(II)I"⟩ : MethodName) (head1 (Jvm.Cond.code (⟨"com/example/twigmeter/twigmeter/xml/ElementTree", "open", "(II)I"⟩ : MethodName) prog_64_method_4_code 4 (some .int) :: ws) ({ frames := 1, cells := 0, slots := 0, locals := 13 } : Room)) (fun a U => a = #[(.ref tr), (.int z1), (.int z2)] ∧ Z.Warmed39 U.vm ∧ U.heap = h0) (fun _ _ _ _ _ => True) (fun _ U o U' => ∃ v L, o = .returned v ∧ Q14 Z tr z1 z2 lo bd S h0 n0 v U'.heap L ∧ FrameEnd U o U' L ({ frames := 1, cells := 0, slots := 0, locals := 13 } : Room).cells ({ frames := 1, cells := 0, slots := 0, locals := 13 } : Room).slots) := by
  refine MetFree.of_bodySF (plainFor_of_name pn_14) hisR ?_
  intro p e s m args below meth c s₁ Bd hml0 hP hK
  obtain ⟨rfl, hZ, hh⟩ := hP
  have hx := Bd.exec
  have hby := Bd.bytes
  have hml : c.maxLocals = 4 := hml0
  have hown : s.vm.findClass "com/example/twigmeter/twigmeter/xml/ElementTree" = some m.cls := findClass_of_methodNamed Bd.named
  have hnm := (name_of_methodNamed Bd.named Bd.method).1
  have X0 : Stand p l e ({ frames := 1, cells := 0, slots := 0, locals := 13 } : Room) s m #[(.ref tr), (.int z1), (.int z2)] below meth c s₁ [] 0 0 := Stand.of_body Bd
  have e0 : s₁.heap = h0 := by rw [← hh, Bd.state]; rfl
  have N0 := Fr.nil n0
  have K0 : Keep h0 h0 (own_rg lo bd) := Keep.refl h0 _
  have pre0 : ∀ tq, Steps p.tables e below (s₁.setTop (mkF m 0 #[.val (.ref tr), .val (.int z1), .val (.int z2), .unset] [])) tq → Steps p.tables e below (s₁.setTop (entryFrame m #[(.ref tr), (.int z1), (.int z2)] 4)) tq := fun tq kq => castTop (ef_14 m tr z1 z2) kq
  obtain ⟨nm, vn, at_, va, en, ve, op, vo, xn, xa, l1, l2, o1, o2, o3, o4, o5, o6, o7, o8, o9, o10, q11, f1, f2, f3, f4, f5, ⟨i0e, i0v, i0s, i0a⟩, ⟨i1e, i1v, i1s, i1a⟩, ⟨i2e, i2v, i2s, i2a⟩, ⟨i3e, i3v, i3s, i3a⟩⟩ := id I0
  have ne_tr_nm : tr ≠ nm := own_ne (by omega)
  have ne_tr_vn : tr ≠ vn := own_ne (by omega)
  have ne_tr_at_ : tr ≠ at_ := own_ne (by omega)
  have ne_tr_va : tr ≠ va := own_ne (by omega)
  have ne_tr_en : tr ≠ en := own_ne (by omega)
  have ne_tr_ve : tr ≠ ve := own_ne (by omega)
  have ne_tr_op : tr ≠ op := own_ne (by omega)
  have ne_tr_vo : tr ≠ vo := own_ne (by omega)
  have ne_nm_vn : nm ≠ vn := own_ne (by omega)
  have ne_nm_at_ : nm ≠ at_ := own_ne (by omega)
  have ne_nm_va : nm ≠ va := own_ne (by omega)
  have ne_nm_en : nm ≠ en := own_ne (by omega)
  have ne_nm_ve : nm ≠ ve := own_ne (by omega)
  have ne_nm_op : nm ≠ op := own_ne (by omega)
  have ne_nm_vo : nm ≠ vo := own_ne (by omega)
  have ne_vn_at_ : vn ≠ at_ := own_ne (by omega)
  have ne_vn_va : vn ≠ va := own_ne (by omega)
  have ne_vn_en : vn ≠ en := own_ne (by omega)
  have ne_vn_ve : vn ≠ ve := own_ne (by omega)
  have ne_vn_op : vn ≠ op := own_ne (by omega)
  have ne_vn_vo : vn ≠ vo := own_ne (by omega)
  have ne_at__va : at_ ≠ va := own_ne (by omega)
  have ne_at__en : at_ ≠ en := own_ne (by omega)
  have ne_at__ve : at_ ≠ ve := own_ne (by omega)
  have ne_at__op : at_ ≠ op := own_ne (by omega)
  have ne_at__vo : at_ ≠ vo := own_ne (by omega)
  have ne_va_en : va ≠ en := own_ne (by omega)
  have ne_va_ve : va ≠ ve := own_ne (by omega)
  have ne_va_op : va ≠ op := own_ne (by omega)
  have ne_va_vo : va ≠ vo := own_ne (by omega)
  have ne_en_ve : en ≠ ve := own_ne (by omega)
  have ne_en_op : en ≠ op := own_ne (by omega)
  have ne_en_vo : en ≠ vo := own_ne (by omega)
  have ne_ve_op : ve ≠ op := own_ne (by omega)
  have ne_ve_vo : ve ≠ vo := own_ne (by omega)
  have ne_op_vo : op ≠ vo := own_ne (by omega)
  have g_nm : n0 ≤ nm := by omega
  have m_nm : nm ∈ own_rg lo bd := own_rg_mem (by omega) (by omega)
  have g_vn : n0 ≤ vn := by omega
  have m_vn : vn ∈ own_rg lo bd := own_rg_mem (by omega) (by omega)
  have g_at_ : n0 ≤ at_ := by omega
  have m_at_ : at_ ∈ own_rg lo bd := own_rg_mem (by omega) (by omega)
  have g_va : n0 ≤ va := by omega
  have m_va : va ∈ own_rg lo bd := own_rg_mem (by omega) (by omega)
  have g_en : n0 ≤ en := by omega
  have m_en : en ∈ own_rg lo bd := own_rg_mem (by omega) (by omega)
  have g_ve : n0 ≤ ve := by omega
  have m_ve : ve ∈ own_rg lo bd := own_rg_mem (by omega) (by omega)
  have g_op : n0 ≤ op := by omega
  have m_op : op ∈ own_rg lo bd := own_rg_mem (by omega) (by omega)
  have g_vo : n0 ≤ vo := by omega
  have m_vo : vo ∈ own_rg lo bd := own_rg_mem (by omega) (by omega)
  obtain ⟨T1, X1, e1, st1⟩ := getF X0 hx hZ hown (host := "") (Or.inl (hw _ (List.mem_of_getElem? (i := 103) rfl))) Via.refl e0 f2 (g := (mkF m 1 #[.val (.ref tr), .val (.int z1), .val (.int z2), .unset] [(.ref tr)])) rfl rfl (hb hby d14_1)
  obtain ⟨cq2, kq2, q2a, q2b, q2c⟩ := isOf hZ e1 i0e
  obtain ⟨_, _, ⟨T2, L2, k2, n2⟩, -, X2, ⟨Lc2, hQ2, l2, y2, z2⟩, st2⟩ := X1.virtualBack hx (y := (⟨"com/example/twigmeter/twigmeter/xml/IntList", "size", "()I"⟩ : MethodName)) (z := (⟨"com/example/twigmeter/twigmeter/xml/IntList", "size", "()I"⟩ : MethodName)) hown (mvT hZ (hw _ (List.mem_of_getElem? (i := 116) rfl))) (mvT hZ (hw _ (List.mem_of_getElem? (i := 117) rfl))) (notFace_of_selects (args := #[]) (mvT hZ (hw _ (List.mem_of_getElem? (i := 119) rfl)))) (mvT hZ (hw _ (List.mem_of_getElem? (i := 119) rfl))) (mvT hZ (hw _ (List.mem_of_getElem? (i := 118) rfl))) (by decide) (backOf (W := 0) (rm15 l Z a0 hw [] nm S.2.2.1 h0 n0 Z0 i0s) hZ (hw _ (List.mem_of_getElem? (i := 120) rfl)) (hw _ (List.mem_of_getElem? (i := 96) rfl)) (by decide) (by decide)) q2a q2c (g := (mkF m 4 #[.val (.ref tr), .val (.int z1), .val (.int z2), .unset] [(.ref nm)])) rfl (by rw [hml]; rfl) (Steps.refl _) (argsL := []) (rest := []) (lenOf pd_3 rfl) rfl (by show 2 * 0 + _ ≤ _; exact Nat.le_of_eq rfl) (hb hby d14_4) (fun _ _ => ⟨rfl, e1, (by decide : 0 + 0 ≤ _), (by decide : 0 + 0 ≤ _)⟩)
  dsimp only [Pt.U, Pt.locs, Pt.cells, Pt.slots] at X2 l2 y2 z2 st2 hQ2
  replace y2 : k2 = 0 := y2
  replace z2 : n2 = 0 := z2
  subst l2 y2 z2
  obtain ⟨rfl, N2q, e2⟩ := hQ2
  have N2 := Fr.app N0 N2q
  obtain ⟨T3, X3, e3, st3⟩ := getF X2 hx hZ hown (host := "") (Or.inl (hw _ (List.mem_of_getElem? (i := 103) rfl))) Via.refl e2 f2 (g := (mkF m 9 #[.val (.ref tr), .val (.int z1), .val (.int z2), .val (.int S.2.2.1)] [(.ref tr)])) rfl rfl (hb hby d14_9)
  have hp4_hin : own_inx xn S.2.2.1 = true := (own_pre_14_13_hin z1 z2 lo bd S hlo hok xn xa l1 l2)
  have hp4_hne : ¬ (S.2.2.1 = (own_len xn)) := (own_pre_14_13_hne z1 z2 lo bd S hlo hok xn xa l1 l2 hp4_hin)
  obtain ⟨cq4, kq4, q4a, q4b, q4c⟩ := isOf hZ e3 i0e
  obtain ⟨_, _, ⟨T4, L4, k4, n4⟩, -, X4, ⟨Lc4, hQ4, l4, y4, z4⟩, st4⟩ := X3.virtualBack hx (y := (⟨"com/example/twigmeter/twigmeter/xml/IntList", "add", "(I)V"⟩ : MethodName)) (z := (⟨"com/example/twigmeter/twigmeter/xml/IntList", "add", "(I)V"⟩ : MethodName)) hown (mvT hZ (hw _ (List.mem_of_getElem? (i := 123) rfl))) (mvT hZ (hw _ (List.mem_of_getElem? (i := 124) rfl))) (notFace_of_selects (args := #[]) (mvT hZ (hw _ (List.mem_of_getElem? (i := 126) rfl)))) (mvT hZ (hw _ (List.mem_of_getElem? (i := 126) rfl))) (mvT hZ (hw _ (List.mem_of_getElem? (i := 125) rfl))) (by decide) (backOf (W := 0) (rm16 l Z a0 hw [] nm z1 vn xn S.2.2.1 h0 n0 Z0 i0v i0s i0a i0e g_nm g_vn ne_nm_vn hp4_hin hp4_hne) hZ (hw _ (List.mem_of_getElem? (i := 127) rfl)) (hw _ (List.mem_of_getElem? (i := 96) rfl)) (by decide) (by decide)) q4a q4c (g := (mkF m 13 #[.val (.ref tr), .val (.int z1), .val (.int z2), .val (.int S.2.2.1)] [(.int z1), (.ref nm)])) rfl (by rw [hml]; rfl) (Steps.refl _) (argsL := [(.int z1)]) (rest := []) (lenOf pd_4 rfl) rfl (by show 2 * 0 + _ ≤ _; exact Nat.le_of_eq rfl) (hb hby d14_13) (fun _ _ => ⟨rfl, e3, (by decide : 0 + 0 ≤ _), (by decide : 0 + 0 ≤ _)⟩)
  dsimp only [Pt.U, Pt.locs, Pt.cells, Pt.slots] at X4 l4 y4 z4 st4 hQ4
  replace y4 : k4 = 0 := y4
  replace z4 : n4 = 0 := z4
  subst l4 y4 z4
  obtain ⟨rfl, N4q, K4q, F5, F6, F7, F8⟩ := hQ4
  have N4 := Fr.app N2 N4q
  have F9 : Exa Z T4.heap tr "com/example/twigmeter/twigmeter/xml/ElementTree" := f1.keep K4q
  have F10 : Fld Z T4.heap tr "com/example/twigmeter/twigmeter/xml/ElementTree" "nameNumbers" "Lcom/example/twigmeter/twigmeter/xml/IntList;" (.ref nm) := f2.keep K4q (ninS ne_tr_nm (ninS ne_tr_vn nin0))
  have F11 : Fld Z T4.heap tr "com/example/twigmeter/twigmeter/xml/ElementTree" "attributes" "Lcom/example/twigmeter/twigmeter/xml/IntList;" (.ref at_) := f3.keep K4q (ninS ne_tr_nm (ninS ne_tr_vn nin0))
  have F12 : Fld Z T4.heap tr "com/example/twigmeter/twigmeter/xml/ElementTree" "ends" "Lcom/example/twigmeter/twigmeter/xml/IntList;" (.ref en) := f4.keep K4q (ninS ne_tr_nm (ninS ne_tr_vn nin0))
  have F13 : Fld Z T4.heap tr "com/example/twigmeter/twigmeter/xml/ElementTree" "open" "Lcom/example/twigmeter/twigmeter/xml/IntList;" (.ref op) := f5.keep K4q (ninS ne_tr_nm (ninS ne_tr_vn nin0))
  have F14 : Exa Z T4.heap nm "com/example/twigmeter/twigmeter/xml/IntList" := i0e.keep K4q
  have F15 : Exa Z T4.heap at_ "com/example/twigmeter/twigmeter/xml/IntList" := i1e.keep K4q
  have F16 : Fld Z T4.heap at_ "com/example/twigmeter/twigmeter/xml/IntList" "values" "[I" (.ref va) := i1v.keep K4q (ninS (Ne.symm ne_nm_at_) (ninS (Ne.symm ne_vn_at_) nin0))
  have F17 : Fld Z T4.heap at_ "com/example/twigmeter/twigmeter/xml/IntList" "size" "I" (.int S.2.2.1) := i1s.keep K4q (ninS (Ne.symm ne_nm_at_) (ninS (Ne.symm ne_vn_at_) nin0))
  have F18 : own_ia Z T4.heap va xa := i1a.keep K4q (ninS (Ne.symm ne_nm_va) (ninS (Ne.symm ne_vn_va) nin0))
  have F19 : Exa Z T4.heap en "com/example/twigmeter/twigmeter/xml/IntList" := i2e.keep K4q
  have F20 : Fld Z T4.heap en "com/example/twigmeter/twigmeter/xml/IntList" "values" "[I" (.ref ve) := i2v.keep K4q (ninS (Ne.symm ne_nm_en) (ninS (Ne.symm ne_vn_en) nin0))
  have F21 : Fld Z T4.heap en "com/example/twigmeter/twigmeter/xml/IntList" "size" "I" (.int S.2.2.1) := i2s.keep K4q (ninS (Ne.symm ne_nm_en) (ninS (Ne.symm ne_vn_en) nin0))
  have F22 : own_ia Z T4.heap ve S.1 := i2a.keep K4q (ninS (Ne.symm ne_nm_ve) (ninS (Ne.symm ne_vn_ve) nin0))
  have F23 : Exa Z T4.heap op "com/example/twigmeter/twigmeter/xml/IntList" := i3e.keep K4q
  have F24 : Fld Z T4.heap op "com/example/twigmeter/twigmeter/xml/IntList" "values" "[I" (.ref vo) := i3v.keep K4q (ninS (Ne.symm ne_nm_op) (ninS (Ne.symm ne_vn_op) nin0))
  have F25 : Fld Z T4.heap op "com/example/twigmeter/twigmeter/xml/IntList" "size" "I" (.int S.2.2.2) := i3s.keep K4q (ninS (Ne.symm ne_nm_op) (ninS (Ne.symm ne_vn_op) nin0))
  have F26 : own_ia Z T4.heap vo S.2.1 := i3a.keep K4q (ninS (Ne.symm ne_nm_vo) (ninS (Ne.symm ne_vn_vo) nin0))
  have Z27 : n0 ≤ T4.heap.size := Nat.le_trans Z0 K4q.1
  have K28 : Keep h0 T4.heap (own_rg lo bd) := K0.trans K4q (allS (Or.inl m_nm) (allS (Or.inl m_vn) all0))
  obtain ⟨T29, X29, e29, st29⟩ := getF X4 hx hZ hown (host := "") (Or.inl (hw _ (List.mem_of_getElem? (i := 105) rfl))) Via.refl rfl F11 (g := (mkF m 17 #[.val (.ref tr), .val (.int z1), .val (.int z2), .val (.int S.2.2.1)] [(.ref tr)])) rfl rfl (hb hby d14_17)
  have hp30_hin : own_inx xa S.2.2.1 = true := (own_pre_14_21_hin z1 z2 lo bd S hlo hok xn xa l1 l2 hp4_hin hp4_hne)
  have hp30_hne : ¬ (S.2.2.1 = (own_len xa)) := (own_pre_14_21_hne z1 z2 lo bd S hlo hok xn xa l1 l2 hp4_hin hp4_hne hp30_hin)
  obtain ⟨cq30, kq30, q30a, q30b, q30c⟩ := isOf hZ e29 F15
  obtain ⟨_, _, ⟨T30, L30, k30, n30⟩, -, X30, ⟨Lc30, hQ30, l30, y30, z30⟩, st30⟩ := X29.virtualBack hx (y := (⟨"com/example/twigmeter/twigmeter/xml/IntList", "add", "(I)V"⟩ : MethodName)) (z := (⟨"com/example/twigmeter/twigmeter/xml/IntList", "add", "(I)V"⟩ : MethodName)) hown (mvT hZ (hw _ (List.mem_of_getElem? (i := 123) rfl))) (mvT hZ (hw _ (List.mem_of_getElem? (i := 124) rfl))) (notFace_of_selects (args := #[]) (mvT hZ (hw _ (List.mem_of_getElem? (i := 126) rfl)))) (mvT hZ (hw _ (List.mem_of_getElem? (i := 126) rfl))) (mvT hZ (hw _ (List.mem_of_getElem? (i := 125) rfl))) (by decide) (backOf (W := 0) (rm16 l Z a0 hw [] at_ z2 va xa S.2.2.1 T4.heap n0 Z27 F16 F17 F18 F15 g_at_ g_va ne_at__va hp30_hin hp30_hne) hZ (hw _ (List.mem_of_getElem? (i := 127) rfl)) (hw _ (List.mem_of_getElem? (i := 96) rfl)) (by decide) (by decide)) q30a q30c (g := (mkF m 21 #[.val (.ref tr), .val (.int z1), .val (.int z2), .val (.int S.2.2.1)] [(.int z2), (.ref at_)])) rfl (by rw [hml]; rfl) (Steps.refl _) (argsL := [(.int z2)]) (rest := []) (lenOf pd_4 rfl) rfl (by show 2 * 0 + _ ≤ _; exact Nat.le_of_eq rfl) (hb hby d14_21) (fun _ _ => ⟨rfl, e29, (by decide : 0 + 0 ≤ _), (by decide : 0 + 0 ≤ _)⟩)
  dsimp only [Pt.U, Pt.locs, Pt.cells, Pt.slots] at X30 l30 y30 z30 st30 hQ30
  replace y30 : k30 = 0 := y30
  replace z30 : n30 = 0 := z30
  subst l30 y30 z30
  obtain ⟨rfl, N30q, K30q, F31, F32, F33, F34⟩ := hQ30
  have N30 := Fr.app N4 N30q
  have F35 : Exa Z T30.heap tr "com/example/twigmeter/twigmeter/xml/ElementTree" := F9.keep K30q
  have F36 : Fld Z T30.heap tr "com/example/twigmeter/twigmeter/xml/ElementTree" "nameNumbers" "Lcom/example/twigmeter/twigmeter/xml/IntList;" (.ref nm) := F10.keep K30q (ninS ne_tr_at_ (ninS ne_tr_va nin0))
  have F37 : Fld Z T30.heap tr "com/example/twigmeter/twigmeter/xml/ElementTree" "attributes" "Lcom/example/twigmeter/twigmeter/xml/IntList;" (.ref at_) := F11.keep K30q (ninS ne_tr_at_ (ninS ne_tr_va nin0))
  have F38 : Fld Z T30.heap tr "com/example/twigmeter/twigmeter/xml/ElementTree" "ends" "Lcom/example/twigmeter/twigmeter/xml/IntList;" (.ref en) := F12.keep K30q (ninS ne_tr_at_ (ninS ne_tr_va nin0))
  have F39 : Fld Z T30.heap tr "com/example/twigmeter/twigmeter/xml/ElementTree" "open" "Lcom/example/twigmeter/twigmeter/xml/IntList;" (.ref op) := F13.keep K30q (ninS ne_tr_at_ (ninS ne_tr_va nin0))
  have F40 : Exa Z T30.heap nm "com/example/twigmeter/twigmeter/xml/IntList" := F5.keep K30q
  have F41 : Exa Z T30.heap at_ "com/example/twigmeter/twigmeter/xml/IntList" := F15.keep K30q
  have F42 : Exa Z T30.heap en "com/example/twigmeter/twigmeter/xml/IntList" := F19.keep K30q
  have F43 : Fld Z T30.heap en "com/example/twigmeter/twigmeter/xml/IntList" "values" "[I" (.ref ve) := F20.keep K30q (ninS (Ne.symm ne_at__en) (ninS (Ne.symm ne_va_en) nin0))
  have F44 : Fld Z T30.heap en "com/example/twigmeter/twigmeter/xml/IntList" "size" "I" (.int S.2.2.1) := F21.keep K30q (ninS (Ne.symm ne_at__en) (ninS (Ne.symm ne_va_en) nin0))
  have F45 : own_ia Z T30.heap ve S.1 := F22.keep K30q (ninS (Ne.symm ne_at__ve) (ninS (Ne.symm ne_va_ve) nin0))
  have F46 : Exa Z T30.heap op "com/example/twigmeter/twigmeter/xml/IntList" := F23.keep K30q
  have F47 : Fld Z T30.heap op "com/example/twigmeter/twigmeter/xml/IntList" "values" "[I" (.ref vo) := F24.keep K30q (ninS (Ne.symm ne_at__op) (ninS (Ne.symm ne_va_op) nin0))
  have F48 : Fld Z T30.heap op "com/example/twigmeter/twigmeter/xml/IntList" "size" "I" (.int S.2.2.2) := F25.keep K30q (ninS (Ne.symm ne_at__op) (ninS (Ne.symm ne_va_op) nin0))
  have F49 : own_ia Z T30.heap vo S.2.1 := F26.keep K30q (ninS (Ne.symm ne_at__vo) (ninS (Ne.symm ne_va_vo) nin0))
  have F50 : Fld Z T30.heap nm "com/example/twigmeter/twigmeter/xml/IntList" "values" "[I" (.ref vn) := F6.keep K30q (ninS ne_nm_at_ (ninS ne_nm_va nin0))
  have F51 : Fld Z T30.heap nm "com/example/twigmeter/twigmeter/xml/IntList" "size" "I" (.int (S.2.2.1 + (1 : Int32))) := F7.keep K30q (ninS ne_nm_at_ (ninS ne_nm_va nin0))
  have F52 : own_ia Z T30.heap vn (own_wr xn S.2.2.1 z1) := F8.keep K30q (ninS ne_vn_at_ (ninS ne_vn_va nin0))
  have Z53 : n0 ≤ T30.heap.size := Nat.le_trans Z27 K30q.1
  have K54 : Keep h0 T30.heap (own_rg lo bd) := K28.trans K30q (allS (Or.inl m_at_) (allS (Or.inl m_va) all0))
  obtain ⟨T55, X55, e55, st55⟩ := getF X30 hx hZ hown (host := "") (Or.inl (hw _ (List.mem_of_getElem? (i := 107) rfl))) Via.refl rfl F38 (g := (mkF m 25 #[.val (.ref tr), .val (.int z1), .val (.int z2), .val (.int S.2.2.1)] [(.ref tr)])) rfl rfl (hb hby d14_25)
  have hp56_hin : own_inx S.1 S.2.2.1 = true := (own_pre_14_29_hin z1 z2 lo bd S hlo hok xn xa l1 l2 hp4_hin hp4_hne hp30_hin hp30_hne)
  have hp56_hne : ¬ (S.2.2.1 = (own_len S.1)) := (own_pre_14_29_hne z1 z2 lo bd S hlo hok xn xa l1 l2 hp4_hin hp4_hne hp30_hin hp30_hne hp56_hin)
  obtain ⟨cq56, kq56, q56a, q56b, q56c⟩ := isOf hZ e55 F42
  obtain ⟨_, _, ⟨T56, L56, k56, n56⟩, -, X56, ⟨Lc56, hQ56, l56, y56, z56⟩, st56⟩ := X55.virtualBack hx (y := (⟨"com/example/twigmeter/twigmeter/xml/IntList", "add", "(I)V"⟩ : MethodName)) (z := (⟨"com/example/twigmeter/twigmeter/xml/IntList", "add", "(I)V"⟩ : MethodName)) hown (mvT hZ (hw _ (List.mem_of_getElem? (i := 123) rfl))) (mvT hZ (hw _ (List.mem_of_getElem? (i := 124) rfl))) (notFace_of_selects (args := #[]) (mvT hZ (hw _ (List.mem_of_getElem? (i := 126) rfl)))) (mvT hZ (hw _ (List.mem_of_getElem? (i := 126) rfl))) (mvT hZ (hw _ (List.mem_of_getElem? (i := 125) rfl))) (by decide) (backOf (W := 0) (rm16 l Z a0 hw [] en (-1 : Int32) ve S.1 S.2.2.1 T30.heap n0 Z53 F43 F44 F45 F42 g_en g_ve ne_en_ve hp56_hin hp56_hne) hZ (hw _ (List.mem_of_getElem? (i := 127) rfl)) (hw _ (List.mem_of_getElem? (i := 96) rfl)) (by decide) (by decide)) q56a q56c (g := (mkF m 29 #[.val (.ref tr), .val (.int z1), .val (.int z2), .val (.int S.2.2.1)] [(.int (-1 : Int32)), (.ref en)])) rfl (by rw [hml]; rfl) (Steps.refl _) (argsL := [(.int (-1 : Int32))]) (rest := []) (lenOf pd_4 rfl) rfl (by show 2 * 0 + _ ≤ _; exact Nat.le_of_eq rfl) (hb hby d14_29) (fun _ _ => ⟨rfl, e55, (by decide : 0 + 0 ≤ _), (by decide : 0 + 0 ≤ _)⟩)
  dsimp only [Pt.U, Pt.locs, Pt.cells, Pt.slots] at X56 l56 y56 z56 st56 hQ56
  replace y56 : k56 = 0 := y56
  replace z56 : n56 = 0 := z56
  subst l56 y56 z56
  obtain ⟨rfl, N56q, K56q, F57, F58, F59, F60⟩ := hQ56
  have N56 := Fr.app N30 N56q
  have F61 : Exa Z T56.heap tr "com/example/twigmeter/twigmeter/xml/ElementTree" := F35.keep K56q
  have F62 : Fld Z T56.heap tr "com/example/twigmeter/twigmeter/xml/ElementTree" "nameNumbers" "Lcom/example/twigmeter/twigmeter/xml/IntList;" (.ref nm) := F36.keep K56q (ninS ne_tr_en (ninS ne_tr_ve nin0))
  have F63 : Fld Z T56.heap tr "com/example/twigmeter/twigmeter/xml/ElementTree" "attributes" "Lcom/example/twigmeter/twigmeter/xml/IntList;" (.ref at_) := F37.keep K56q (ninS ne_tr_en (ninS ne_tr_ve nin0))
  have F64 : Fld Z T56.heap tr "com/example/twigmeter/twigmeter/xml/ElementTree" "ends" "Lcom/example/twigmeter/twigmeter/xml/IntList;" (.ref en) := F38.keep K56q (ninS ne_tr_en (ninS ne_tr_ve nin0))
  have F65 : Fld Z T56.heap tr "com/example/twigmeter/twigmeter/xml/ElementTree" "open" "Lcom/example/twigmeter/twigmeter/xml/IntList;" (.ref op) := F39.keep K56q (ninS ne_tr_en (ninS ne_tr_ve nin0))
  have F66 : Exa Z T56.heap nm "com/example/twigmeter/twigmeter/xml/IntList" := F40.keep K56q
  have F67 : Exa Z T56.heap at_ "com/example/twigmeter/twigmeter/xml/IntList" := F31.keep K56q
  have F68 : Exa Z T56.heap en "com/example/twigmeter/twigmeter/xml/IntList" := F42.keep K56q
  have F69 : Exa Z T56.heap op "com/example/twigmeter/twigmeter/xml/IntList" := F46.keep K56q
  have F70 : Fld Z T56.heap op "com/example/twigmeter/twigmeter/xml/IntList" "values" "[I" (.ref vo) := F47.keep K56q (ninS (Ne.symm ne_en_op) (ninS (Ne.symm ne_ve_op) nin0))
  have F71 : Fld Z T56.heap op "com/example/twigmeter/twigmeter/xml/IntList" "size" "I" (.int S.2.2.2) := F48.keep K56q (ninS (Ne.symm ne_en_op) (ninS (Ne.symm ne_ve_op) nin0))
  have F72 : own_ia Z T56.heap vo S.2.1 := F49.keep K56q (ninS (Ne.symm ne_en_vo) (ninS (Ne.symm ne_ve_vo) nin0))
  have F73 : Fld Z T56.heap nm "com/example/twigmeter/twigmeter/xml/IntList" "values" "[I" (.ref vn) := F50.keep K56q (ninS ne_nm_en (ninS ne_nm_ve nin0))
  have F74 : Fld Z T56.heap nm "com/example/twigmeter/twigmeter/xml/IntList" "size" "I" (.int (S.2.2.1 + (1 : Int32))) := F51.keep K56q (ninS ne_nm_en (ninS ne_nm_ve nin0))
  have F75 : own_ia Z T56.heap vn (own_wr xn S.2.2.1 z1) := F52.keep K56q (ninS ne_vn_en (ninS ne_vn_ve nin0))
  have F76 : Fld Z T56.heap at_ "com/example/twigmeter/twigmeter/xml/IntList" "values" "[I" (.ref va) := F32.keep K56q (ninS ne_at__en (ninS ne_at__ve nin0))
  have F77 : Fld Z T56.heap at_ "com/example/twigmeter/twigmeter/xml/IntList" "size" "I" (.int (S.2.2.1 + (1 : Int32))) := F33.keep K56q (ninS ne_at__en (ninS ne_at__ve nin0))
  have F78 : own_ia Z T56.heap va (own_wr xa S.2.2.1 z2) := F34.keep K56q (ninS ne_va_en (ninS ne_va_ve nin0))
  have Z79 : n0 ≤ T56.heap.size := Nat.le_trans Z53 K56q.1
  have K80 : Keep h0 T56.heap (own_rg lo bd) := K54.trans K56q (allS (Or.inl m_en) (allS (Or.inl m_ve) all0))
  obtain ⟨T81, X81, e81, st81⟩ := getF X56 hx hZ hown (host := "") (Or.inl (hw _ (List.mem_of_getElem? (i := 109) rfl))) Via.refl rfl F65 (g := (mkF m 33 #[.val (.ref tr), .val (.int z1), .val (.int z2), .val (.int S.2.2.1)] [(.ref tr)])) rfl rfl (hb hby d14_33)
  have hp82_hin : own_inx S.2.1 S.2.2.2 = true := (own_pre_14_37_hin z1 z2 lo bd S hlo hok xn xa l1 l2 hp4_hin hp4_hne hp30_hin hp30_hne hp56_hin hp56_hne)
  have hp82_hne : ¬ (S.2.2.2 = (own_len S.2.1)) := (own_pre_14_37_hne z1 z2 lo bd S hlo hok xn xa l1 l2 hp4_hin hp4_hne hp30_hin hp30_hne hp56_hin hp56_hne hp82_hin)
  obtain ⟨cq82, kq82, q82a, q82b, q82c⟩ := isOf hZ e81 F69
  obtain ⟨_, _, ⟨T82, L82, k82, n82⟩, -, X82, ⟨Lc82, hQ82, l82, y82, z82⟩, st82⟩ := X81.virtualBack hx (y := (⟨"com/example/twigmeter/twigmeter/xml/IntList", "add", "(I)V"⟩ : MethodName)) (z := (⟨"com/example/twigmeter/twigmeter/xml/IntList", "add", "(I)V"⟩ : MethodName)) hown (mvT hZ (hw _ (List.mem_of_getElem? (i := 123) rfl))) (mvT hZ (hw _ (List.mem_of_getElem? (i := 124) rfl))) (notFace_of_selects (args := #[]) (mvT hZ (hw _ (List.mem_of_getElem? (i := 126) rfl)))) (mvT hZ (hw _ (List.mem_of_getElem? (i := 126) rfl))) (mvT hZ (hw _ (List.mem_of_getElem? (i := 125) rfl))) (by decide) (backOf (W := 0) (rm16 l Z a0 hw [] op S.2.2.1 vo S.2.1 S.2.2.2 T56.heap n0 Z79 F70 F71 F72 F69 g_op g_vo ne_op_vo hp82_hin hp82_hne) hZ (hw _ (List.mem_of_getElem? (i := 127) rfl)) (hw _ (List.mem_of_getElem? (i := 96) rfl)) (by decide) (by decide)) q82a q82c (g := (mkF m 37 #[.val (.ref tr), .val (.int z1), .val (.int z2), .val (.int S.2.2.1)] [(.int S.2.2.1), (.ref op)])) rfl (by rw [hml]; rfl) (Steps.refl _) (argsL := [(.int S.2.2.1)]) (rest := []) (lenOf pd_4 rfl) rfl (by show 2 * 0 + _ ≤ _; exact Nat.le_of_eq rfl) (hb hby d14_37) (fun _ _ => ⟨rfl, e81, (by decide : 0 + 0 ≤ _), (by decide : 0 + 0 ≤ _)⟩)
  dsimp only [Pt.U, Pt.locs, Pt.cells, Pt.slots] at X82 l82 y82 z82 st82 hQ82
  replace y82 : k82 = 0 := y82
  replace z82 : n82 = 0 := z82
  subst l82 y82 z82
  obtain ⟨rfl, N82q, K82q, F83, F84, F85, F86⟩ := hQ82
  have N82 := Fr.app N56 N82q
  have F87 : Exa Z T82.heap tr "com/example/twigmeter/twigmeter/xml/ElementTree" := F61.keep K82q
  have F88 : Fld Z T82.heap tr "com/example/twigmeter/twigmeter/xml/ElementTree" "nameNumbers" "Lcom/example/twigmeter/twigmeter/xml/IntList;" (.ref nm) := F62.keep K82q (ninS ne_tr_op (ninS ne_tr_vo nin0))
  have F89 : Fld Z T82.heap tr "com/example/twigmeter/twigmeter/xml/ElementTree" "attributes" "Lcom/example/twigmeter/twigmeter/xml/IntList;" (.ref at_) := F63.keep K82q (ninS ne_tr_op (ninS ne_tr_vo nin0))
  have F90 : Fld Z T82.heap tr "com/example/twigmeter/twigmeter/xml/ElementTree" "ends" "Lcom/example/twigmeter/twigmeter/xml/IntList;" (.ref en) := F64.keep K82q (ninS ne_tr_op (ninS ne_tr_vo nin0))
  have F91 : Fld Z T82.heap tr "com/example/twigmeter/twigmeter/xml/ElementTree" "open" "Lcom/example/twigmeter/twigmeter/xml/IntList;" (.ref op) := F65.keep K82q (ninS ne_tr_op (ninS ne_tr_vo nin0))
  have F92 : Exa Z T82.heap nm "com/example/twigmeter/twigmeter/xml/IntList" := F66.keep K82q
  have F93 : Exa Z T82.heap at_ "com/example/twigmeter/twigmeter/xml/IntList" := F67.keep K82q
  have F94 : Exa Z T82.heap en "com/example/twigmeter/twigmeter/xml/IntList" := F57.keep K82q
  have F95 : Exa Z T82.heap op "com/example/twigmeter/twigmeter/xml/IntList" := F69.keep K82q
  have F96 : Fld Z T82.heap nm "com/example/twigmeter/twigmeter/xml/IntList" "values" "[I" (.ref vn) := F73.keep K82q (ninS ne_nm_op (ninS ne_nm_vo nin0))
  have F97 : Fld Z T82.heap nm "com/example/twigmeter/twigmeter/xml/IntList" "size" "I" (.int (S.2.2.1 + (1 : Int32))) := F74.keep K82q (ninS ne_nm_op (ninS ne_nm_vo nin0))
  have F98 : own_ia Z T82.heap vn (own_wr xn S.2.2.1 z1) := F75.keep K82q (ninS ne_vn_op (ninS ne_vn_vo nin0))
  have F99 : Fld Z T82.heap at_ "com/example/twigmeter/twigmeter/xml/IntList" "values" "[I" (.ref va) := F76.keep K82q (ninS ne_at__op (ninS ne_at__vo nin0))
  have F100 : Fld Z T82.heap at_ "com/example/twigmeter/twigmeter/xml/IntList" "size" "I" (.int (S.2.2.1 + (1 : Int32))) := F77.keep K82q (ninS ne_at__op (ninS ne_at__vo nin0))
  have F101 : own_ia Z T82.heap va (own_wr xa S.2.2.1 z2) := F78.keep K82q (ninS ne_va_op (ninS ne_va_vo nin0))
  have F102 : Fld Z T82.heap en "com/example/twigmeter/twigmeter/xml/IntList" "values" "[I" (.ref ve) := F58.keep K82q (ninS ne_en_op (ninS ne_en_vo nin0))
  have F103 : Fld Z T82.heap en "com/example/twigmeter/twigmeter/xml/IntList" "size" "I" (.int (S.2.2.1 + (1 : Int32))) := F59.keep K82q (ninS ne_en_op (ninS ne_en_vo nin0))
  have F104 : own_ia Z T82.heap ve (own_wr S.1 S.2.2.1 (-1 : Int32)) := F60.keep K82q (ninS ne_ve_op (ninS ne_ve_vo nin0))
  have Z105 : n0 ≤ T82.heap.size := Nat.le_trans Z79 K82q.1
  have K106 : Keep h0 T82.heap (own_rg lo bd) := K80.trans K82q (allS (Or.inl m_op) (allS (Or.inl m_vo) all0))
  have pre107 : ∀ tq, Steps p.tables e below (T82.setTop (mkF m 41 #[.val (.ref tr), .val (.int z1), .val (.int z2), .val (.int S.2.2.1)] [(.int S.2.2.1)])) tq → Steps p.tables e below (s₁.setTop (entryFrame m #[(.ref tr), (.int z1), (.int z2)] 4)) tq := by
    intro tq kt
    refine pre0 _ ?_
    show Steps p.tables e below (s₁.setTop (mkF m 0 #[.val (.ref tr), .val (.int z1), .val (.int z2), .unset] [])) _
    refine XS.aloadN X0.here hx rfl (hb hby d14_0) rfl rfl ?_
    refine st1 _ ?_
    show Steps p.tables e below (T1.setTop (mkF m 4 #[.val (.ref tr), .val (.int z1), .val (.int z2), .unset] [(.ref nm)])) _
    refine st2.trans ?_
    show Steps p.tables e below (T2.setTop (mkF m 7 #[.val (.ref tr), .val (.int z1), .val (.int z2), .unset] [(.int S.2.2.1)])) _
    refine XS.istoreN X2.here hx rfl (hb hby d14_7) rfl (l' := #[.val (.ref tr), .val (.int z1), .val (.int z2), .val (.int S.2.2.1)]) rfl ?_
    refine XS.aloadN X2.here hx rfl (hb hby d14_8) rfl rfl ?_
    refine st3 _ ?_
    show Steps p.tables e below (T3.setTop (mkF m 12 #[.val (.ref tr), .val (.int z1), .val (.int z2), .val (.int S.2.2.1)] [(.ref nm)])) _
    refine XS.iloadN X3.here hx rfl (hb hby d14_12) rfl ?_
    refine st4.trans ?_
    show Steps p.tables e below (T4.setTop (mkF m 16 #[.val (.ref tr), .val (.int z1), .val (.int z2), .val (.int S.2.2.1)] [])) _
    refine XS.aloadN X4.here hx rfl (hb hby d14_16) rfl rfl ?_
    refine st29 _ ?_
    show Steps p.tables e below (T29.setTop (mkF m 20 #[.val (.ref tr), .val (.int z1), .val (.int z2), .val (.int S.2.2.1)] [(.ref at_)])) _
    refine XS.iloadN X29.here hx rfl (hb hby d14_20) rfl ?_
    refine st30.trans ?_
    show Steps p.tables e below (T30.setTop (mkF m 24 #[.val (.ref tr), .val (.int z1), .val (.int z2), .val (.int S.2.2.1)] [])) _
    refine XS.aloadN X30.here hx rfl (hb hby d14_24) rfl rfl ?_
    refine st55 _ ?_
    show Steps p.tables e below (T55.setTop (mkF m 28 #[.val (.ref tr), .val (.int z1), .val (.int z2), .val (.int S.2.2.1)] [(.ref en)])) _
    refine XS.iconst X55.here hx rfl (hb hby d14_28) ?_
    refine st56.trans ?_
    show Steps p.tables e below (T56.setTop (mkF m 32 #[.val (.ref tr), .val (.int z1), .val (.int z2), .val (.int S.2.2.1)] [])) _
    refine XS.aloadN X56.here hx rfl (hb hby d14_32) rfl rfl ?_
    refine st81 _ ?_
    show Steps p.tables e below (T81.setTop (mkF m 36 #[.val (.ref tr), .val (.int z1), .val (.int z2), .val (.int S.2.2.1)] [(.ref op)])) _
    refine XS.iloadN X81.here hx rfl (hb hby d14_36) rfl ?_
    refine st82.trans ?_
    show Steps p.tables e below (T82.setTop (mkF m 40 #[.val (.ref tr), .val (.int z1), .val (.int z2), .val (.int S.2.2.1)] [])) _
    refine XS.iloadN X82.here hx rfl (hb hby d14_40) rfl ?_
    show Steps p.tables e below (T82.setTop (mkF m 41 #[.val (.ref tr), .val (.int z1), .val (.int z2), .val (.int S.2.2.1)] [(.int S.2.2.1)])) _
    exact kt
  have FT108 : own_tr Z T82.heap tr lo bd (own_opn S) := ⟨nm, vn, at_, va, en, ve, op, vo, (own_wr xn S.2.2.1 z1), (own_wr xa S.2.2.1 z2), by simp [own_wr, l1], by simp [own_wr, l2], o1, o2, o3, o4, o5, o6, o7, o8, o9, o10, Nat.le_trans q11 K106.1, F87, F88, F89, F90, F91, ⟨F92, F96, F97, F98⟩, ⟨F93, F99, F100, F101⟩, ⟨F94, F102, F103, F104⟩, ⟨F83, F84, F85, F86⟩⟩
  obtain ⟨fs, hr, hrun, hended, hW, hsame⟩ := X82.leave (v := some (Value.int S.2.2.1)) (fun h => by rw [Bd.returns] at h; cases h)
  refine ⟨_, _, pre107 _ ?_, hrun, hended, _, _, rfl, ?_, ⟨_, rfl⟩, hW, hsame.mono (by decide) (by decide)⟩
  · skip
    show Steps p.tables e below (T82.setTop (mkF m 41 #[.val (.ref tr), .val (.int z1), .val (.int z2), .val (.int S.2.2.1)] [(.int S.2.2.1)])) _
    exact retI X82 hx Bd.returns (hb hby d14_41) hr
  · show Q14 Z tr z1 z2 lo bd S h0 n0 _ T82.heap _
    exact ⟨rfl, N82, K106, FT108⟩
theorem d20_0 : decode prog_66_method_5_code 0 = .ok (.aload_n 0, 1) := by decide +kernel
theorem d20_1 : decode prog_66_method_5_code 1 = .ok (.getfield 7, 3) := by decide +kernel
theorem d20_4 : decode prog_66_method_5_code 4 = .ok (.aload_n 0, 1) := by decide +kernel
theorem d20_5 : decode prog_66_method_5_code 5 = .ok (.dup, 1) := by decide +kernel
theorem d20_6 : decode prog_66_method_5_code 6 = .ok (.getfield 13, 3) := by decide +kernel
theorem d20_9 : decode prog_66_method_5_code 9 = .ok (.iconst 1, 1) := by decide +kernel
theorem d20_10 : decode prog_66_method_5_code 10 = .ok (.isub, 1) := by decide +kernel
theorem d20_11 : decode prog_66_method_5_code 11 = .ok (.dup_x1, 1) := by decide +kernel
theorem d20_12 : decode prog_66_method_5_code 12 = .ok (.putfield 13, 3) := by decide +kernel
theorem d20_15 : decode prog_66_method_5_code 15 = .ok (.iaload, 1) := by decide +kernel
theorem d20_16 : decode prog_66_method_5_code 16 = .ok (.ireturn, 1) := by decide +kernel
theorem pn_20 : plainName "com/example/twigmeter/twigmeter/xml/IntList" = true := by first | (simp [plainName, overriddenIn]; done) | decide +kernel
theorem ef_20 (m : MethodId) (x0 : Addr) : entryFrame m #[(.ref x0)] 1 = mkF m 0 #[.val (.ref x0)] [] := by first | (simp [entryFrame, mkF, argsToLocals, Value.category]; done) | rfl
theorem own_inx_20_15 (xs : List Int32) (sz : Int32) (hin : own_inx xs (sz - (1 : Int32)) = true) : own_inx xs (sz - (1 : Int32)) = true := hin
def Q20 (Z : State) (ob : Addr) (vr : Addr) (xs : List Int32) (sz : Int32) (h0 : Heap) (n0 : Nat) (v : Option Value) (h : Heap) (L : List Loc) : Prop := v = some (.int (own_rd xs (sz - (1 : Int32)))) ∧ Fr n0 L ∧ Keep h0 h [ob] ∧ Exa Z h ob "com/example/twigmeter/twigmeter/xml/IntList" ∧ Fld Z h ob "com/example/twigmeter/twigmeter/xml/IntList" "values" "[I" (.ref vr) ∧ Fld Z h ob "com/example/twigmeter/twigmeter/xml/IntList" "size" "I" (.int (sz - (1 : Int32)))
set_option maxRecDepth 65536 in
set_option maxHeartbeats 40000000 in
theorem rm20 (l : Launch) (Z : State) (a0 : Array Value) (hw : ∀ d ∈ tables_1, d.before a0 Z = true) (ws : List Jvm.Cond) (ob : Addr) (vr : Addr) (xs : List Int32) (sz : Int32) (h0 : Heap) (n0 : Nat) (Z0 : n0 ≤ h0.size) (I0 : Fld Z h0 ob "com/example/twigmeter/twigmeter/xml/IntList" "values" "[I" (.ref vr)) (I1 : Fld Z h0 ob "com/example/twigmeter/twigmeter/xml/IntList" "size" "I" (.int sz)) (I2 : own_ia Z h0 vr xs) (I3 : Exa Z h0 ob "com/example/twigmeter/twigmeter/xml/IntList") (g_ob : n0 ≤ ob) (ne_ob_vr : ob ≠ vr) (hin : own_inx xs (sz - (1 : Int32)) = true) :
    MetFree l (⟨"com/example/twigmeter/twigmeter/xml/IntList", "removeLast", "()I"⟩ : MethodName) (head1 (Jvm.Cond.code (⟨"com/example/twigmeter/twigmeter/xml/IntList", "removeLast", "()I"⟩ : MethodName) prog_66_method_5_code 1 (some .int) :: ws) ({ frames := 0, cells := 0, slots := 0, locals := 0 } : Room)) (fun a U => a = #[(.ref ob)] ∧ Z.Warmed39 U.vm ∧ U.heap = h0) (fun _ _ _ _ _ => True) (fun _ U o U' => ∃ v L, o = .returned v ∧ Q20 Z ob vr xs sz h0 n0 v U'.heap L ∧ FrameEnd U o U' L ({ frames := 0, cells := 0, slots := 0, locals := 0 } : Room).cells ({ frames := 0, cells := 0, slots := 0, locals := 0 } : Room).slots) := by
  refine MetFree.of_bodySF (plainFor_of_name pn_20) hisR ?_
  intro p e s m args below meth c s₁ Bd hml0 hP hK
  obtain ⟨rfl, hZ, hh⟩ := hP
  have hx := Bd.exec
  have hby := Bd.bytes
  have hml : c.maxLocals = 1 := hml0
  have hown : s.vm.findClass "com/example/twigmeter/twigmeter/xml/IntList" = some m.cls := findClass_of_methodNamed Bd.named
  have hnm := (name_of_methodNamed Bd.named Bd.method).1
  have X0 : Stand p l e ({ frames := 0, cells := 0, slots := 0, locals := 0 } : Room) s m #[(.ref ob)] below meth c s₁ [] 0 0 := Stand.of_body Bd
  have e0 : s₁.heap = h0 := by rw [← hh, Bd.state]; rfl
  have N0 := Fr.nil n0
  have K0 : Keep h0 h0 [ob] := Keep.refl h0 _
  have pre0 : ∀ tq, Steps p.tables e below (s₁.setTop (mkF m 0 #[.val (.ref ob)] [])) tq → Steps p.tables e below (s₁.setTop (entryFrame m #[(.ref ob)] 1)) tq := fun tq kq => castTop (ef_20 m ob) kq
  obtain ⟨T1, X1, e1, st1⟩ := getF X0 hx hZ hown (host := "") (Or.inl (hw _ (List.mem_of_getElem? (i := 101) rfl))) Via.refl e0 I0 (g := (mkF m 1 #[.val (.ref ob)] [(.ref ob)])) rfl rfl (hb hby d20_1)
  obtain ⟨T2, X2, e2, st2⟩ := getF X1 hx hZ hown (host := "") (Or.inl (hw _ (List.mem_of_getElem? (i := 121) rfl))) Via.refl e1 I1 (g := (mkF m 6 #[.val (.ref ob)] [(.ref ob), (.ref ob), (.ref vr)])) rfl rfl (hb hby d20_6)
  obtain ⟨T3, hX3, X3, e3, W3, st3⟩ := putF X2 hx hZ hown (host := "") (Or.inl (hw _ (List.mem_of_getElem? (i := 121) rfl))) Via.refl e2 I1 I3 (Or.inl (hw _ (List.mem_of_getElem? (i := 122) rfl))) (hw _ (List.mem_of_getElem? (i := 95) rfl)) (ty := .int) (by decide) rfl rfl (g := (mkF m 12 #[.val (.ref ob)] [(.int (sz - (1 : Int32))), (.ref ob), (.int (sz - (1 : Int32))), (.ref vr)])) rfl rfl (hb hby d20_12)
  have N3 := Fr.snoc X3 N0 g_ob
  have F4 : Fld Z hX3 ob "com/example/twigmeter/twigmeter/xml/IntList" "size" "I" (.int (sz - (1 : Int32))) := I1.same W3
  have F5 : Fld Z hX3 ob "com/example/twigmeter/twigmeter/xml/IntList" "values" "[I" (.ref vr) := I0.other W3 (Or.inr (slot_ne (Or.inl (hw _ (List.mem_of_getElem? (i := 102) rfl))) (Or.inl (hw _ (List.mem_of_getElem? (i := 122) rfl))) (by decide) (t := (.array .int)) (t' := .int) (by decide) (by decide)))
  have F6 : own_ia Z hX3 vr xs := I2.other W3 (Ne.symm ne_ob_vr)
  have F7 : Exa Z hX3 ob "com/example/twigmeter/twigmeter/xml/IntList" := I3.wr W3
  have Z8 : n0 ≤ hX3.size := Nat.le_trans Z0 (Keep.of_wr W3).1
  have K9 : Keep h0 hX3 [ob] := K0.wr W3 (Or.inl (List.mem_of_getElem? (i := 0) rfl))
  obtain ⟨cl10, Ar10, hin10, hat10⟩ := F6.get (j := (sz - (1 : Int32))) (own_inx_20_15 xs sz hin)
  obtain ⟨fs, hr, hrun, hended, hW, hsame⟩ := X3.leave (v := some (Value.int (own_rd xs (sz - (1 : Int32))))) (fun h => by rw [Bd.returns] at h; cases h)
  refine ⟨_, _, pre0 _ ?_, hrun, hended, _, _, rfl, ?_, ⟨_, rfl⟩, hW, hsame.mono (by decide) (by decide)⟩
  · skip
    show Steps p.tables e below (s₁.setTop (mkF m 0 #[.val (.ref ob)] [])) _
    refine XS.aloadN X0.here hx rfl (hb hby d20_0) rfl rfl ?_
    refine st1 _ ?_
    show Steps p.tables e below (T1.setTop (mkF m 4 #[.val (.ref ob)] [(.ref vr)])) _
    refine XS.aloadN X1.here hx rfl (hb hby d20_4) rfl rfl ?_
    refine XS.dup X1.here hx rfl (hb hby d20_5) rfl rfl ?_
    refine st2 _ ?_
    show Steps p.tables e below (T2.setTop (mkF m 9 #[.val (.ref ob)] [(.int sz), (.ref ob), (.ref vr)])) _
    refine XS.iconst X2.here hx rfl (hb hby d20_9) ?_
    refine XS.isub X2.here hx rfl (hb hby d20_10) rfl ?_
    refine XS.dupX1 X2.here hx rfl (hb hby d20_11) rfl rfl rfl ?_
    refine st3 _ ?_
    show Steps p.tables e below (T3.setTop (mkF m 15 #[.val (.ref ob)] [(.int (sz - (1 : Int32))), (.ref vr)])) _
    refine X3.iaload hx (j := (sz - (1 : Int32))) (v := (.int (own_rd xs (sz - (1 : Int32))))) (heq_of e3 Ar10.1) (State.isArrayOf_alike hZ.alike Ar10.2.1) Ar10.2.2 hin10 hat10 (g := (mkF m 15 #[.val (.ref ob)] [(.int (sz - (1 : Int32))), (.ref vr)])) rfl rfl (hb hby d20_15) _ ?_
    show Steps p.tables e below (T3.setTop (mkF m 16 #[.val (.ref ob)] [(.int (own_rd xs (sz - (1 : Int32))))])) _
    exact retI X3 hx Bd.returns (hb hby d20_16) hr
  · show Q20 Z ob vr xs sz h0 n0 _ T3.heap _
    rw [e3]
    exact ⟨rfl, N3, K9, F7, F5, F4⟩
theorem d21_0 : decode prog_66_method_4_code 0 = .ok (.aload_n 0, 1) := by decide +kernel
theorem d21_1 : decode prog_66_method_4_code 1 = .ok (.getfield 7, 3) := by decide +kernel
theorem d21_4 : decode prog_66_method_4_code 4 = .ok (.iload_n 1, 1) := by decide +kernel
theorem d21_5 : decode prog_66_method_4_code 5 = .ok (.iload_n 2, 1) := by decide +kernel
theorem d21_6 : decode prog_66_method_4_code 6 = .ok (.iastore, 1) := by decide +kernel
theorem d21_7 : decode prog_66_method_4_code 7 = .ok (.return_, 1) := by decide +kernel
theorem pn_21 : plainName "com/example/twigmeter/twigmeter/xml/IntList" = true := by first | (simp [plainName, overriddenIn]; done) | decide +kernel
theorem ef_21 (m : MethodId) (x0 : Addr) (x1 : Int32) (x2 : Int32) : entryFrame m #[(.ref x0), (.int x1), (.int x2)] 3 = mkF m 0 #[.val (.ref x0), .val (.int x1), .val (.int x2)] [] := by first | (simp [entryFrame, mkF, argsToLocals, Value.category]; done) | rfl
theorem own_inx_21_6 (ix : Int32) (w : Int32) (xs : List Int32) (hin : own_inx xs ix = true) : own_inx xs ix = true := hin
def Q21 (Z : State) (ob : Addr) (ix : Int32) (w : Int32) (vr : Addr) (xs : List Int32) (h0 : Heap) (n0 : Nat) (v : Option Value) (h : Heap) (L : List Loc) : Prop := v = none ∧ Fr n0 L ∧ Keep h0 h [vr] ∧ own_ia Z h vr (own_wr xs ix w)
set_option maxRecDepth 65536 in
set_option maxHeartbeats 40000000 in
theorem rm21 (l : Launch) (Z : State) (a0 : Array Value) (hw : ∀ d ∈ tables_1, d.before a0 Z = true) (ws : List Jvm.Cond) (ob : Addr) (ix : Int32) (w : Int32) (vr : Addr) (xs : List Int32) (h0 : Heap) (n0 : Nat) (Z0 : n0 ≤ h0.size) (I0 : Fld Z h0 ob "com/example/twigmeter/twigmeter/xml/IntList" "values" "[I" (.ref vr)) (I1 : own_ia Z h0 vr xs) (g_vr : n0 ≤ vr) (hin : own_inx xs ix = true) :
    MetFree l (⟨"com/example/twigmeter/twigmeter/xml/IntList", "set", "(II)V"⟩ : MethodName) (head1 (Jvm.Cond.code (⟨"com/example/twigmeter/twigmeter/xml/IntList", "set", "(II)V"⟩ : MethodName) prog_66_method_4_code 3 none :: ws) ({ frames := 0, cells := 0, slots := 0, locals := 0 } : Room)) (fun a U => a = #[(.ref ob), (.int ix), (.int w)] ∧ Z.Warmed39 U.vm ∧ U.heap = h0) (fun _ _ _ _ _ => True) (fun _ U o U' => ∃ v L, o = .returned v ∧ Q21 Z ob ix w vr xs h0 n0 v U'.heap L ∧ FrameEnd U o U' L ({ frames := 0, cells := 0, slots := 0, locals := 0 } : Room).cells ({ frames := 0, cells := 0, slots := 0, locals := 0 } : Room).slots) := by
  refine MetFree.of_bodySF (plainFor_of_name pn_21) hisR ?_
  intro p e s m args below meth c s₁ Bd hml0 hP hK
  obtain ⟨rfl, hZ, hh⟩ := hP
  have hx := Bd.exec
  have hby := Bd.bytes
  have hml : c.maxLocals = 3 := hml0
  have hown : s.vm.findClass "com/example/twigmeter/twigmeter/xml/IntList" = some m.cls := findClass_of_methodNamed Bd.named
  have hnm := (name_of_methodNamed Bd.named Bd.method).1
  have X0 : Stand p l e ({ frames := 0, cells := 0, slots := 0, locals := 0 } : Room) s m #[(.ref ob), (.int ix), (.int w)] below meth c s₁ [] 0 0 := Stand.of_body Bd
  have e0 : s₁.heap = h0 := by rw [← hh, Bd.state]; rfl
  have N0 := Fr.nil n0
  have K0 : Keep h0 h0 [vr] := Keep.refl h0 _
  have pre0 : ∀ tq, Steps p.tables e below (s₁.setTop (mkF m 0 #[.val (.ref ob), .val (.int ix), .val (.int w)] [])) tq → Steps p.tables e below (s₁.setTop (entryFrame m #[(.ref ob), (.int ix), (.int w)] 3)) tq := fun tq kq => castTop (ef_21 m ob ix w) kq
  obtain ⟨T1, X1, e1, st1⟩ := getF X0 hx hZ hown (host := "") (Or.inl (hw _ (List.mem_of_getElem? (i := 101) rfl))) Via.refl e0 I0 (g := (mkF m 1 #[.val (.ref ob), .val (.int ix), .val (.int w)] [(.ref ob)])) rfl rfl (hb hby d21_1)
  obtain ⟨cl2, Ar2, hin2, pt2⟩ := I1.put (j := ix) (own_inx_21_6 ix w xs hin)
  obtain ⟨T2, hX2, X2, e2, W2, st2⟩ := stI X1 hx hZ e1 Ar2 (j := ix) hin2 (g := (mkF m 6 #[.val (.ref ob), .val (.int ix), .val (.int w)] [(.int w), (.int ix), (.ref vr)])) rfl rfl (hb hby d21_6)
  have F3 : own_ia Z hX2 vr (own_wr xs ix w) := pt2 _ _ W2
  have N2 := Fr.snoc X2 N0 g_vr
  have Z4 : n0 ≤ hX2.size := Nat.le_trans Z0 (Keep.of_wr W2).1
  have K5 : Keep h0 hX2 [vr] := K0.wr W2 (Or.inl (List.mem_of_getElem? (i := 0) rfl))
  obtain ⟨fs, hr, hrun, hended, hW, hsame⟩ := X2.leave (v := none) (fun _ => rfl)
  refine ⟨_, _, pre0 _ ?_, hrun, hended, _, _, rfl, ?_, ⟨_, rfl⟩, hW, hsame.mono (by decide) (by decide)⟩
  · skip
    show Steps p.tables e below (s₁.setTop (mkF m 0 #[.val (.ref ob), .val (.int ix), .val (.int w)] [])) _
    refine XS.aloadN X0.here hx rfl (hb hby d21_0) rfl rfl ?_
    refine st1 _ ?_
    show Steps p.tables e below (T1.setTop (mkF m 4 #[.val (.ref ob), .val (.int ix), .val (.int w)] [(.ref vr)])) _
    refine XS.iloadN X1.here hx rfl (hb hby d21_4) rfl ?_
    refine XS.iloadN X1.here hx rfl (hb hby d21_5) rfl ?_
    refine st2 _ ?_
    show Steps p.tables e below (T2.setTop (mkF m 7 #[.val (.ref ob), .val (.int ix), .val (.int w)] [])) _
    exact X2.returnOut hx Bd.returns (hb hby d21_7) hr
  · show Q21 Z ob ix w vr xs h0 n0 _ T2.heap _
    rw [e2]
    exact ⟨rfl, N2, K5, F3⟩
theorem d19_0 : decode prog_64_method_5_code 0 = .ok (.aload_n 0, 1) := by decide +kernel
theorem d19_1 : decode prog_64_method_5_code 1 = .ok (.getfield 29, 3) := by decide +kernel
theorem d19_4 : decode prog_64_method_5_code 4 = .ok (.invokevirtual 52, 3) := by decide +kernel
theorem d19_7 : decode prog_64_method_5_code 7 = .ok (.istore_n 1, 1) := by decide +kernel
theorem d19_8 : decode prog_64_method_5_code 8 = .ok (.aload_n 0, 1) := by decide +kernel
theorem d19_9 : decode prog_64_method_5_code 9 = .ok (.getfield 26, 3) := by decide +kernel
theorem d19_12 : decode prog_64_method_5_code 12 = .ok (.iload_n 1, 1) := by decide +kernel
theorem d19_13 : decode prog_64_method_5_code 13 = .ok (.aload_n 0, 1) := by decide +kernel
theorem d19_14 : decode prog_64_method_5_code 14 = .ok (.getfield 19, 3) := by decide +kernel
theorem d19_17 : decode prog_64_method_5_code 17 = .ok (.invokevirtual 44, 3) := by decide +kernel
theorem d19_20 : decode prog_64_method_5_code 20 = .ok (.invokevirtual 55, 3) := by decide +kernel
theorem d19_23 : decode prog_64_method_5_code 23 = .ok (.return_, 1) := by decide +kernel
theorem pn_19 : plainName "com/example/twigmeter/twigmeter/xml/ElementTree" = true := by first | (simp [plainName, overriddenIn]; done) | decide +kernel
theorem pd_5 : parseMethodDescriptor "(II)V" = some ⟨[.int, .int], none⟩ := by decide +kernel
theorem ef_19 (m : MethodId) (x0 : Addr) : entryFrame m #[(.ref x0)] 2 = mkF m 0 #[.val (.ref x0), .unset] [] := by first | (simp [entryFrame, mkF, argsToLocals, Value.category]; done) | rfl
theorem own_pre_19_4_hin (lo : Nat) (bd : Nat) (S : own_S) (hlo : n0 ≤ lo) (hok : own_okC S = true) (xn : List Int32) (xa : List Int32) (l1 : xn.length = 16) (l2 : xa.length = 16) : own_inx S.2.1 (S.2.2.2 - (1 : Int32)) = true := (own_okC_e hok).1
theorem own_pre_19_20_hin (lo : Nat) (bd : Nat) (S : own_S) (hlo : n0 ≤ lo) (hok : own_okC S = true) (xn : List Int32) (xa : List Int32) (l1 : xn.length = 16) (l2 : xa.length = 16) (hp2_hin : own_inx S.2.1 (S.2.2.2 - (1 : Int32)) = true) (r4 : Int32) (hr4 : r4 = (own_rd S.2.1 (S.2.2.2 - (1 : Int32)))) : own_inx S.1 r4 = true := by rw [hr4]; exact (own_okC_e hok).2
def Q19 (Z : State) (tr : Addr) (lo : Nat) (bd : Nat) (S : own_S) (h0 : Heap) (n0 : Nat) (v : Option Value) (h : Heap) (L : List Loc) : Prop := v = none ∧ Fr n0 L ∧ Keep h0 h (own_rg lo bd) ∧ own_tr Z h tr lo bd (own_cls S)
set_option maxRecDepth 65536 in
set_option maxHeartbeats 40000000 in
theorem rm19 (l : Launch) (Z : State) (a0 : Array Value) (hw : ∀ d ∈ tables_1, d.before a0 Z = true) (ws : List Jvm.Cond) (tr : Addr) (lo : Nat) (bd : Nat) (S : own_S) (h0 : Heap) (n0 : Nat) (Z0 : n0 ≤ h0.size) (I0 : own_tr Z h0 tr lo bd S) (hlo : n0 ≤ lo) (hok : own_okC S = true) :
    MetFree l (⟨"com/example/twigmeter/twigmeter/xml/ElementTree", "close", "()V"⟩ : MethodName) (head1 (Jvm.Cond.code (⟨"com/example/twigmeter/twigmeter/xml/ElementTree", "close", "()V"⟩ : MethodName) prog_64_method_5_code 2 none :: ws) ({ frames := 1, cells := 0, slots := 0, locals := 14 } : Room)) (fun a U => a = #[(.ref tr)] ∧ Z.Warmed39 U.vm ∧ U.heap = h0) (fun _ _ _ _ _ => True) (fun _ U o U' => ∃ v L, o = .returned v ∧ Q19 Z tr lo bd S h0 n0 v U'.heap L ∧ FrameEnd U o U' L ({ frames := 1, cells := 0, slots := 0, locals := 14 } : Room).cells ({ frames := 1, cells := 0, slots := 0, locals := 14 } : Room).slots) := by
  refine MetFree.of_bodySF (plainFor_of_name pn_19) hisR ?_
  intro p e s m args below meth c s₁ Bd hml0 hP hK
  obtain ⟨rfl, hZ, hh⟩ := hP
  have hx := Bd.exec
  have hby := Bd.bytes
  have hml : c.maxLocals = 2 := hml0
  have hown : s.vm.findClass "com/example/twigmeter/twigmeter/xml/ElementTree" = some m.cls := findClass_of_methodNamed Bd.named
  have hnm := (name_of_methodNamed Bd.named Bd.method).1
  have X0 : Stand p l e ({ frames := 1, cells := 0, slots := 0, locals := 14 } : Room) s m #[(.ref tr)] below meth c s₁ [] 0 0 := Stand.of_body Bd
  have e0 : s₁.heap = h0 := by rw [← hh, Bd.state]; rfl
  have N0 := Fr.nil n0
  have K0 : Keep h0 h0 (own_rg lo bd) := Keep.refl h0 _
  have pre0 : ∀ tq, Steps p.tables e below (s₁.setTop (mkF m 0 #[.val (.ref tr), .unset] [])) tq → Steps p.tables e below (s₁.setTop (entryFrame m #[(.ref tr)] 2)) tq := fun tq kq => castTop (ef_19 m tr) kq
  obtain ⟨nm, vn, at_, va, en, ve, op, vo, xn, xa, l1, l2, o1, o2, o3, o4, o5, o6, o7, o8, o9, o10, q11, f1, f2, f3, f4, f5, ⟨i0e, i0v, i0s, i0a⟩, ⟨i1e, i1v, i1s, i1a⟩, ⟨i2e, i2v, i2s, i2a⟩, ⟨i3e, i3v, i3s, i3a⟩⟩ := id I0
  have ne_tr_nm : tr ≠ nm := own_ne (by omega)
  have ne_tr_vn : tr ≠ vn := own_ne (by omega)
  have ne_tr_at_ : tr ≠ at_ := own_ne (by omega)
  have ne_tr_va : tr ≠ va := own_ne (by omega)
  have ne_tr_en : tr ≠ en := own_ne (by omega)
  have ne_tr_ve : tr ≠ ve := own_ne (by omega)
  have ne_tr_op : tr ≠ op := own_ne (by omega)
  have ne_tr_vo : tr ≠ vo := own_ne (by omega)
  have ne_nm_vn : nm ≠ vn := own_ne (by omega)
  have ne_nm_at_ : nm ≠ at_ := own_ne (by omega)
  have ne_nm_va : nm ≠ va := own_ne (by omega)
  have ne_nm_en : nm ≠ en := own_ne (by omega)
  have ne_nm_ve : nm ≠ ve := own_ne (by omega)
  have ne_nm_op : nm ≠ op := own_ne (by omega)
  have ne_nm_vo : nm ≠ vo := own_ne (by omega)
  have ne_vn_at_ : vn ≠ at_ := own_ne (by omega)
  have ne_vn_va : vn ≠ va := own_ne (by omega)
  have ne_vn_en : vn ≠ en := own_ne (by omega)
  have ne_vn_ve : vn ≠ ve := own_ne (by omega)
  have ne_vn_op : vn ≠ op := own_ne (by omega)
  have ne_vn_vo : vn ≠ vo := own_ne (by omega)
  have ne_at__va : at_ ≠ va := own_ne (by omega)
  have ne_at__en : at_ ≠ en := own_ne (by omega)
  have ne_at__ve : at_ ≠ ve := own_ne (by omega)
  have ne_at__op : at_ ≠ op := own_ne (by omega)
  have ne_at__vo : at_ ≠ vo := own_ne (by omega)
  have ne_va_en : va ≠ en := own_ne (by omega)
  have ne_va_ve : va ≠ ve := own_ne (by omega)
  have ne_va_op : va ≠ op := own_ne (by omega)
  have ne_va_vo : va ≠ vo := own_ne (by omega)
  have ne_en_ve : en ≠ ve := own_ne (by omega)
  have ne_en_op : en ≠ op := own_ne (by omega)
  have ne_en_vo : en ≠ vo := own_ne (by omega)
  have ne_ve_op : ve ≠ op := own_ne (by omega)
  have ne_ve_vo : ve ≠ vo := own_ne (by omega)
  have ne_op_vo : op ≠ vo := own_ne (by omega)
  have g_nm : n0 ≤ nm := by omega
  have m_nm : nm ∈ own_rg lo bd := own_rg_mem (by omega) (by omega)
  have g_vn : n0 ≤ vn := by omega
  have m_vn : vn ∈ own_rg lo bd := own_rg_mem (by omega) (by omega)
  have g_at_ : n0 ≤ at_ := by omega
  have m_at_ : at_ ∈ own_rg lo bd := own_rg_mem (by omega) (by omega)
  have g_va : n0 ≤ va := by omega
  have m_va : va ∈ own_rg lo bd := own_rg_mem (by omega) (by omega)
  have g_en : n0 ≤ en := by omega
  have m_en : en ∈ own_rg lo bd := own_rg_mem (by omega) (by omega)
  have g_ve : n0 ≤ ve := by omega
  have m_ve : ve ∈ own_rg lo bd := own_rg_mem (by omega) (by omega)
  have g_op : n0 ≤ op := by omega
  have m_op : op ∈ own_rg lo bd := own_rg_mem (by omega) (by omega)
  have g_vo : n0 ≤ vo := by omega
  have m_vo : vo ∈ own_rg lo bd := own_rg_mem (by omega) (by omega)
  obtain ⟨T1, X1, e1, st1⟩ := getF X0 hx hZ hown (host := "") (Or.inl (hw _ (List.mem_of_getElem? (i := 109) rfl))) Via.refl e0 f5 (g := (mkF m 1 #[.val (.ref tr), .unset] [(.ref tr)])) rfl rfl (hb hby d19_1)
  have hp2_hin : own_inx S.2.1 (S.2.2.2 - (1 : Int32)) = true := (own_pre_19_4_hin lo bd S hlo hok xn xa l1 l2)
  obtain ⟨cq2, kq2, q2a, q2b, q2c⟩ := isOf hZ e1 i3e
  obtain ⟨_, _, ⟨T2, L2, k2, n2⟩, -, X2, ⟨Lc2, hQ2, l2, y2, z2⟩, st2⟩ := X1.virtualBack hx (y := (⟨"com/example/twigmeter/twigmeter/xml/IntList", "removeLast", "()I"⟩ : MethodName)) (z := (⟨"com/example/twigmeter/twigmeter/xml/IntList", "removeLast", "()I"⟩ : MethodName)) hown (mvT hZ (hw _ (List.mem_of_getElem? (i := 139) rfl))) (mvT hZ (hw _ (List.mem_of_getElem? (i := 140) rfl))) (notFace_of_selects (args := #[]) (mvT hZ (hw _ (List.mem_of_getElem? (i := 142) rfl)))) (mvT hZ (hw _ (List.mem_of_getElem? (i := 142) rfl))) (mvT hZ (hw _ (List.mem_of_getElem? (i := 141) rfl))) (by decide) (backOf (W := 0) (rm20 l Z a0 hw [] op vo S.2.1 S.2.2.2 h0 n0 Z0 i3v i3s i3a i3e g_op ne_op_vo hp2_hin) hZ (hw _ (List.mem_of_getElem? (i := 143) rfl)) (hw _ (List.mem_of_getElem? (i := 96) rfl)) (by decide) (by decide)) q2a q2c (g := (mkF m 4 #[.val (.ref tr), .unset] [(.ref op)])) rfl (by rw [hml]; rfl) (Steps.refl _) (argsL := []) (rest := []) (lenOf pd_3 rfl) rfl (by show 2 * 0 + _ ≤ _; exact Nat.le_of_eq rfl) (hb hby d19_4) (fun _ _ => ⟨rfl, e1, (by decide : 0 + 0 ≤ _), (by decide : 0 + 0 ≤ _)⟩)
  dsimp only [Pt.U, Pt.locs, Pt.cells, Pt.slots] at X2 l2 y2 z2 st2 hQ2
  replace y2 : k2 = 0 := y2
  replace z2 : n2 = 0 := z2
  subst l2 y2 z2
  obtain ⟨rfl, N2q, K2q, F3, F4, F5⟩ := hQ2
  have N2 := Fr.app N0 N2q
  have F6 : Exa Z T2.heap tr "com/example/twigmeter/twigmeter/xml/ElementTree" := f1.keep K2q
  have F7 : Fld Z T2.heap tr "com/example/twigmeter/twigmeter/xml/ElementTree" "nameNumbers" "Lcom/example/twigmeter/twigmeter/xml/IntList;" (.ref nm) := f2.keep K2q (ninS ne_tr_op nin0)
  have F8 : Fld Z T2.heap tr "com/example/twigmeter/twigmeter/xml/ElementTree" "attributes" "Lcom/example/twigmeter/twigmeter/xml/IntList;" (.ref at_) := f3.keep K2q (ninS ne_tr_op nin0)
  have F9 : Fld Z T2.heap tr "com/example/twigmeter/twigmeter/xml/ElementTree" "ends" "Lcom/example/twigmeter/twigmeter/xml/IntList;" (.ref en) := f4.keep K2q (ninS ne_tr_op nin0)
  have F10 : Fld Z T2.heap tr "com/example/twigmeter/twigmeter/xml/ElementTree" "open" "Lcom/example/twigmeter/twigmeter/xml/IntList;" (.ref op) := f5.keep K2q (ninS ne_tr_op nin0)
  have F11 : Exa Z T2.heap nm "com/example/twigmeter/twigmeter/xml/IntList" := i0e.keep K2q
  have F12 : Fld Z T2.heap nm "com/example/twigmeter/twigmeter/xml/IntList" "values" "[I" (.ref vn) := i0v.keep K2q (ninS ne_nm_op nin0)
  have F13 : Fld Z T2.heap nm "com/example/twigmeter/twigmeter/xml/IntList" "size" "I" (.int S.2.2.1) := i0s.keep K2q (ninS ne_nm_op nin0)
  have F14 : own_ia Z T2.heap vn xn := i0a.keep K2q (ninS ne_vn_op nin0)
  have F15 : Exa Z T2.heap at_ "com/example/twigmeter/twigmeter/xml/IntList" := i1e.keep K2q
  have F16 : Fld Z T2.heap at_ "com/example/twigmeter/twigmeter/xml/IntList" "values" "[I" (.ref va) := i1v.keep K2q (ninS ne_at__op nin0)
  have F17 : Fld Z T2.heap at_ "com/example/twigmeter/twigmeter/xml/IntList" "size" "I" (.int S.2.2.1) := i1s.keep K2q (ninS ne_at__op nin0)
  have F18 : own_ia Z T2.heap va xa := i1a.keep K2q (ninS ne_va_op nin0)
  have F19 : Exa Z T2.heap en "com/example/twigmeter/twigmeter/xml/IntList" := i2e.keep K2q
  have F20 : Fld Z T2.heap en "com/example/twigmeter/twigmeter/xml/IntList" "values" "[I" (.ref ve) := i2v.keep K2q (ninS ne_en_op nin0)
  have F21 : Fld Z T2.heap en "com/example/twigmeter/twigmeter/xml/IntList" "size" "I" (.int S.2.2.1) := i2s.keep K2q (ninS ne_en_op nin0)
  have F22 : own_ia Z T2.heap ve S.1 := i2a.keep K2q (ninS ne_ve_op nin0)
  have F23 : Exa Z T2.heap op "com/example/twigmeter/twigmeter/xml/IntList" := i3e.keep K2q
  have F24 : own_ia Z T2.heap vo S.2.1 := i3a.keep K2q (ninS (Ne.symm ne_op_vo) nin0)
  have Z25 : n0 ≤ T2.heap.size := Nat.le_trans Z0 K2q.1
  have K26 : Keep h0 T2.heap (own_rg lo bd) := K0.trans K2q (allS (Or.inl m_op) all0)
  obtain ⟨r4, hr4⟩ : ∃ z_q : Int32, z_q = (own_rd S.2.1 (S.2.2.2 - (1 : Int32))) := ⟨_, rfl⟩
  obtain ⟨T27, X27, e27, st27⟩ := getF X2 hx hZ hown (host := "") (Or.inl (hw _ (List.mem_of_getElem? (i := 107) rfl))) Via.refl rfl F9 (g := (mkF m 9 #[.val (.ref tr), .val (.int r4)] [(.ref tr)])) rfl rfl (hb hby d19_9)
  obtain ⟨T28, X28, e28, st28⟩ := getF X27 hx hZ hown (host := "") (Or.inl (hw _ (List.mem_of_getElem? (i := 103) rfl))) Via.refl e27 F7 (g := (mkF m 14 #[.val (.ref tr), .val (.int r4)] [(.ref tr), (.int r4), (.ref en)])) rfl rfl (hb hby d19_14)
  obtain ⟨cq29, kq29, q29a, q29b, q29c⟩ := isOf hZ e28 F11
  obtain ⟨_, _, ⟨T29, L29, k29, n29⟩, -, X29, ⟨Lc29, hQ29, l29, y29, z29⟩, st29⟩ := X28.virtualBack hx (y := (⟨"com/example/twigmeter/twigmeter/xml/IntList", "size", "()I"⟩ : MethodName)) (z := (⟨"com/example/twigmeter/twigmeter/xml/IntList", "size", "()I"⟩ : MethodName)) hown (mvT hZ (hw _ (List.mem_of_getElem? (i := 116) rfl))) (mvT hZ (hw _ (List.mem_of_getElem? (i := 117) rfl))) (notFace_of_selects (args := #[]) (mvT hZ (hw _ (List.mem_of_getElem? (i := 119) rfl)))) (mvT hZ (hw _ (List.mem_of_getElem? (i := 119) rfl))) (mvT hZ (hw _ (List.mem_of_getElem? (i := 118) rfl))) (by decide) (backOf (W := 2) (rm15 l Z a0 hw [] nm S.2.2.1 T2.heap n0 Z25 F13) hZ (hw _ (List.mem_of_getElem? (i := 120) rfl)) (hw _ (List.mem_of_getElem? (i := 96) rfl)) (by decide) (by decide)) q29a q29c (g := (mkF m 17 #[.val (.ref tr), .val (.int r4)] [(.ref nm), (.int r4), (.ref en)])) rfl (by rw [hml]; rfl) (Steps.refl _) (argsL := []) (rest := [(.int r4), (.ref en)]) (lenOf pd_3 rfl) rfl (by show 2 * 0 + _ ≤ _; exact Nat.le_of_eq rfl) (hb hby d19_17) (fun _ _ => ⟨rfl, e28, (by decide : 0 + 0 ≤ _), (by decide : 0 + 0 ≤ _)⟩)
  dsimp only [Pt.U, Pt.locs, Pt.cells, Pt.slots] at X29 l29 y29 z29 st29 hQ29
  replace y29 : k29 = 0 := y29
  replace z29 : n29 = 0 := z29
  subst l29 y29 z29
  obtain ⟨rfl, N29q, e29⟩ := hQ29
  have N29 := Fr.app N2 N29q
  have hp30_hin : own_inx S.1 r4 = true := (own_pre_19_20_hin lo bd S hlo hok xn xa l1 l2 hp2_hin r4 hr4)
  obtain ⟨cq30, kq30, q30a, q30b, q30c⟩ := isOf hZ e29 F19
  obtain ⟨_, _, ⟨T30, L30, k30, n30⟩, -, X30, ⟨Lc30, hQ30, l30, y30, z30⟩, st30⟩ := X29.virtualBack hx (y := (⟨"com/example/twigmeter/twigmeter/xml/IntList", "set", "(II)V"⟩ : MethodName)) (z := (⟨"com/example/twigmeter/twigmeter/xml/IntList", "set", "(II)V"⟩ : MethodName)) hown (mvT hZ (hw _ (List.mem_of_getElem? (i := 144) rfl))) (mvT hZ (hw _ (List.mem_of_getElem? (i := 145) rfl))) (notFace_of_selects (args := #[]) (mvT hZ (hw _ (List.mem_of_getElem? (i := 147) rfl)))) (mvT hZ (hw _ (List.mem_of_getElem? (i := 147) rfl))) (mvT hZ (hw _ (List.mem_of_getElem? (i := 146) rfl))) (by decide) (backOf (W := 0) (rm21 l Z a0 hw [] en r4 S.2.2.1 ve S.1 T2.heap n0 Z25 F20 F22 g_ve hp30_hin) hZ (hw _ (List.mem_of_getElem? (i := 148) rfl)) (hw _ (List.mem_of_getElem? (i := 96) rfl)) (by decide) (by decide)) q30a q30c (g := (mkF m 20 #[.val (.ref tr), .val (.int r4)] [(.int S.2.2.1), (.int r4), (.ref en)])) rfl (by rw [hml]; rfl) (Steps.refl _) (argsL := [(.int r4), (.int S.2.2.1)]) (rest := []) (lenOf pd_5 rfl) rfl (by show 2 * 0 + _ ≤ _; exact Nat.le_of_eq rfl) (hb hby d19_20) (fun _ _ => ⟨rfl, e29, (by decide : 0 + 0 ≤ _), (by decide : 0 + 0 ≤ _)⟩)
  dsimp only [Pt.U, Pt.locs, Pt.cells, Pt.slots] at X30 l30 y30 z30 st30 hQ30
  replace y30 : k30 = 0 := y30
  replace z30 : n30 = 0 := z30
  subst l30 y30 z30
  obtain ⟨rfl, N30q, K30q, F31⟩ := hQ30
  have N30 := Fr.app N29 N30q
  have F32 : Exa Z T30.heap tr "com/example/twigmeter/twigmeter/xml/ElementTree" := F6.keep K30q
  have F33 : Fld Z T30.heap tr "com/example/twigmeter/twigmeter/xml/ElementTree" "nameNumbers" "Lcom/example/twigmeter/twigmeter/xml/IntList;" (.ref nm) := F7.keep K30q (ninS ne_tr_ve nin0)
  have F34 : Fld Z T30.heap tr "com/example/twigmeter/twigmeter/xml/ElementTree" "attributes" "Lcom/example/twigmeter/twigmeter/xml/IntList;" (.ref at_) := F8.keep K30q (ninS ne_tr_ve nin0)
  have F35 : Fld Z T30.heap tr "com/example/twigmeter/twigmeter/xml/ElementTree" "ends" "Lcom/example/twigmeter/twigmeter/xml/IntList;" (.ref en) := F9.keep K30q (ninS ne_tr_ve nin0)
  have F36 : Fld Z T30.heap tr "com/example/twigmeter/twigmeter/xml/ElementTree" "open" "Lcom/example/twigmeter/twigmeter/xml/IntList;" (.ref op) := F10.keep K30q (ninS ne_tr_ve nin0)
  have F37 : Exa Z T30.heap nm "com/example/twigmeter/twigmeter/xml/IntList" := F11.keep K30q
  have F38 : Fld Z T30.heap nm "com/example/twigmeter/twigmeter/xml/IntList" "values" "[I" (.ref vn) := F12.keep K30q (ninS ne_nm_ve nin0)
  have F39 : Fld Z T30.heap nm "com/example/twigmeter/twigmeter/xml/IntList" "size" "I" (.int S.2.2.1) := F13.keep K30q (ninS ne_nm_ve nin0)
  have F40 : own_ia Z T30.heap vn xn := F14.keep K30q (ninS ne_vn_ve nin0)
  have F41 : Exa Z T30.heap at_ "com/example/twigmeter/twigmeter/xml/IntList" := F15.keep K30q
  have F42 : Fld Z T30.heap at_ "com/example/twigmeter/twigmeter/xml/IntList" "values" "[I" (.ref va) := F16.keep K30q (ninS ne_at__ve nin0)
  have F43 : Fld Z T30.heap at_ "com/example/twigmeter/twigmeter/xml/IntList" "size" "I" (.int S.2.2.1) := F17.keep K30q (ninS ne_at__ve nin0)
  have F44 : own_ia Z T30.heap va xa := F18.keep K30q (ninS ne_va_ve nin0)
  have F45 : Exa Z T30.heap en "com/example/twigmeter/twigmeter/xml/IntList" := F19.keep K30q
  have F46 : Fld Z T30.heap en "com/example/twigmeter/twigmeter/xml/IntList" "values" "[I" (.ref ve) := F20.keep K30q (ninS ne_en_ve nin0)
  have F47 : Fld Z T30.heap en "com/example/twigmeter/twigmeter/xml/IntList" "size" "I" (.int S.2.2.1) := F21.keep K30q (ninS ne_en_ve nin0)
  have F48 : Exa Z T30.heap op "com/example/twigmeter/twigmeter/xml/IntList" := F3.keep K30q
  have F49 : own_ia Z T30.heap vo S.2.1 := F24.keep K30q (ninS (Ne.symm ne_ve_vo) nin0)
  have F50 : Fld Z T30.heap op "com/example/twigmeter/twigmeter/xml/IntList" "values" "[I" (.ref vo) := F4.keep K30q (ninS (Ne.symm ne_ve_op) nin0)
  have F51 : Fld Z T30.heap op "com/example/twigmeter/twigmeter/xml/IntList" "size" "I" (.int (S.2.2.2 - (1 : Int32))) := F5.keep K30q (ninS (Ne.symm ne_ve_op) nin0)
  have Z52 : n0 ≤ T30.heap.size := Nat.le_trans Z25 K30q.1
  have K53 : Keep h0 T30.heap (own_rg lo bd) := K26.trans K30q (allS (Or.inl m_ve) all0)
  have pre54 : ∀ tq, Steps p.tables e below (T30.setTop (mkF m 23 #[.val (.ref tr), .val (.int r4)] [])) tq → Steps p.tables e below (s₁.setTop (entryFrame m #[(.ref tr)] 2)) tq := by
    intro tq kt
    refine pre0 _ ?_
    show Steps p.tables e below (s₁.setTop (mkF m 0 #[.val (.ref tr), .unset] [])) _
    refine XS.aloadN X0.here hx rfl (hb hby d19_0) rfl rfl ?_
    refine st1 _ ?_
    show Steps p.tables e below (T1.setTop (mkF m 4 #[.val (.ref tr), .unset] [(.ref op)])) _
    refine st2.trans ?_
    show Steps p.tables e below (T2.setTop (mkF m 7 #[.val (.ref tr), .unset] [(.int (own_rd S.2.1 (S.2.2.2 - (1 : Int32))))])) _
    rw [← hr4]
    show Steps p.tables e below (T2.setTop (mkF m 7 #[.val (.ref tr), .unset] [(.int r4)])) _
    refine XS.istoreN X2.here hx rfl (hb hby d19_7) rfl (l' := #[.val (.ref tr), .val (.int r4)]) rfl ?_
    refine XS.aloadN X2.here hx rfl (hb hby d19_8) rfl rfl ?_
    refine st27 _ ?_
    show Steps p.tables e below (T27.setTop (mkF m 12 #[.val (.ref tr), .val (.int r4)] [(.ref en)])) _
    refine XS.iloadN X27.here hx rfl (hb hby d19_12) rfl ?_
    refine XS.aloadN X27.here hx rfl (hb hby d19_13) rfl rfl ?_
    refine st28 _ ?_
    show Steps p.tables e below (T28.setTop (mkF m 17 #[.val (.ref tr), .val (.int r4)] [(.ref nm), (.int r4), (.ref en)])) _
    refine st29.trans ?_
    show Steps p.tables e below (T29.setTop (mkF m 20 #[.val (.ref tr), .val (.int r4)] [(.int S.2.2.1), (.int r4), (.ref en)])) _
    refine st30.trans ?_
    show Steps p.tables e below (T30.setTop (mkF m 23 #[.val (.ref tr), .val (.int r4)] [])) _
    exact kt
  subst hr4
  have FT55 : own_tr Z T30.heap tr lo bd (own_cls S) := ⟨nm, vn, at_, va, en, ve, op, vo, xn, xa, by simp [own_wr, l1], by simp [own_wr, l2], o1, o2, o3, o4, o5, o6, o7, o8, o9, o10, Nat.le_trans q11 K53.1, F32, F33, F34, F35, F36, ⟨F37, F38, F39, F40⟩, ⟨F41, F42, F43, F44⟩, ⟨F45, F46, F47, F31⟩, ⟨F48, F50, F51, F49⟩⟩
  obtain ⟨fs, hr, hrun, hended, hW, hsame⟩ := X30.leave (v := none) (fun _ => rfl)
  refine ⟨_, _, pre54 _ ?_, hrun, hended, _, _, rfl, ?_, ⟨_, rfl⟩, hW, hsame.mono (by decide) (by decide)⟩
  · skip
    show Steps p.tables e below (T30.setTop (mkF m 23 #[.val (.ref tr), .val (.int (own_rd S.2.1 (S.2.2.2 - (1 : Int32))))] [])) _
    exact X30.returnOut hx Bd.returns (hb hby d19_23) hr
  · show Q19 Z tr lo bd S h0 n0 _ T30.heap _
    exact ⟨rfl, N30, K53, FT55⟩
theorem d18_0 : decode method_4_code 0 = .ok (.iload_n 1, 1) := by decide +kernel
theorem d18_1 : decode method_4_code 1 = .ok (.iconst 1, 1) := by decide +kernel
theorem d18_2 : decode method_4_code 2 = .ok (.if_icmp .lt 7, 3) := by decide +kernel
theorem d18_9 : decode method_4_code 9 = .ok (.iload_n 1, 1) := by decide +kernel
theorem d18_10 : decode method_4_code 10 = .ok (.iconst 2, 1) := by decide +kernel
theorem d18_11 : decode method_4_code 11 = .ok (.if_icmp .lt 7, 3) := by decide +kernel
theorem d18_18 : decode method_4_code 18 = .ok (.iload_n 1, 1) := by decide +kernel
theorem d18_19 : decode method_4_code 19 = .ok (.iconst 3, 1) := by decide +kernel
theorem d18_20 : decode method_4_code 20 = .ok (.if_icmp .lt 7, 3) := by decide +kernel
theorem d18_27 : decode method_4_code 27 = .ok (.iload_n 1, 1) := by decide +kernel
theorem d18_28 : decode method_4_code 28 = .ok (.iconst 4, 1) := by decide +kernel
theorem d18_29 : decode method_4_code 29 = .ok (.if_icmp .lt 7, 3) := by decide +kernel
theorem d18_36 : decode method_4_code 36 = .ok (.return_, 1) := by decide +kernel
theorem pn_18 : plainName "com/example/twigmeter/twigmeter/workload/ReachBelowPinLaw" = true := by first | (simp [plainName, overriddenIn]; done) | decide +kernel
theorem ef_18 (m : MethodId) (x0 : Addr) (x1 : Int32) : entryFrame m #[(.ref x0), (.int x1)] 2 = mkF m 0 #[.val (.ref x0), .val (.int x1)] [] := by first | (simp [entryFrame, mkF, argsToLocals, Value.category]; done) | rfl
def Q18 (Z : State) (tr : Addr) (nn : Int32) (lo : Nat) (bd : Nat) (S : own_S) (h0 : Heap) (n0 : Nat) (v : Option Value) (h : Heap) (L : List Loc) : Prop := v = none ∧ Fr n0 L ∧ Keep h0 h (own_rg lo bd) ∧ own_tr Z h tr lo bd S
set_option maxRecDepth 65536 in
set_option maxHeartbeats 40000000 in
theorem rm18 (l : Launch) (Z : State) (a0 : Array Value) (hw : ∀ d ∈ tables_1, d.before a0 Z = true) (ws : List Jvm.Cond) (tr : Addr) (nn : Int32) (lo : Nat) (bd : Nat) (S : own_S) (h0 : Heap) (n0 : Nat) (Z0 : n0 ≤ h0.size) (I0 : own_tr Z h0 tr lo bd S) (hlo : n0 ≤ lo) (hlit_nn : nn = (0 : Int32)) :
    MetFree l (⟨"com/example/twigmeter/twigmeter/workload/ReachBelowPinLaw", "closeTimes", "(Lcom/example/twigmeter/twigmeter/xml/ElementTree;I)V"⟩ : MethodName) (head1 (Jvm.Cond.code (⟨"com/example/twigmeter/twigmeter/workload/ReachBelowPinLaw", "closeTimes", "(Lcom/example/twigmeter/twigmeter/xml/ElementTree;I)V"⟩ : MethodName) method_4_code 2 none :: ws) ({ frames := 2, cells := 0, slots := 0, locals := 40 } : Room)) (fun a U => a = #[(.ref tr), (.int nn)] ∧ Z.Warmed39 U.vm ∧ U.heap = h0) (fun _ _ _ _ _ => True) (fun _ U o U' => ∃ v L, o = .returned v ∧ Q18 Z tr nn lo bd S h0 n0 v U'.heap L ∧ FrameEnd U o U' L ({ frames := 2, cells := 0, slots := 0, locals := 40 } : Room).cells ({ frames := 2, cells := 0, slots := 0, locals := 40 } : Room).slots) := by
  refine MetFree.of_bodySF (plainFor_of_name pn_18) hisR ?_
  intro p e s m args below meth c s₁ Bd hml0 hP hK
  obtain ⟨rfl, hZ, hh⟩ := hP
  have hx := Bd.exec
  have hby := Bd.bytes
  have hml : c.maxLocals = 2 := hml0
  have hown : s.vm.findClass "com/example/twigmeter/twigmeter/workload/ReachBelowPinLaw" = some m.cls := findClass_of_methodNamed Bd.named
  have hnm := (name_of_methodNamed Bd.named Bd.method).1
  have X0 : Stand p l e ({ frames := 2, cells := 0, slots := 0, locals := 40 } : Room) s m #[(.ref tr), (.int nn)] below meth c s₁ [] 0 0 := Stand.of_body Bd
  have e0 : s₁.heap = h0 := by rw [← hh, Bd.state]; rfl
  have N0 := Fr.nil n0
  have K0 : Keep h0 h0 (own_rg lo bd) := Keep.refl h0 _
  have pre0 : ∀ tq, Steps p.tables e below (s₁.setTop (mkF m 0 #[.val (.ref tr), .val (.int nn)] [])) tq → Steps p.tables e below (s₁.setTop (entryFrame m #[(.ref tr), (.int nn)] 2)) tq := fun tq kq => castTop (ef_18 m tr nn) kq
  subst hlit_nn
  have Et := own_tr.exa I0
  obtain ⟨fs, hr, hrun, hended, hW, hsame⟩ := X0.leave (v := none) (fun _ => rfl)
  refine ⟨_, _, pre0 _ ?_, hrun, hended, _, _, rfl, ?_, ⟨_, rfl⟩, hW, hsame.mono (by decide) (by decide)⟩
  · skip
    show Steps p.tables e below (s₁.setTop (mkF m 0 #[.val (.ref tr), .val (.int (0 : Int32))] [])) _
    refine XS.iloadN X0.here hx rfl (hb hby d18_0) rfl ?_
    refine XS.iconst X0.here hx rfl (hb hby d18_1) ?_
    refine XS.icmpYes X0.here hx rfl (pc0 := 2) (pc' := 9) rfl (hb hby d18_2) rfl (tlt (by decide)).1 (by decide) (by decide) ?_
    refine XS.iloadN X0.here hx rfl (hb hby d18_9) rfl ?_
    refine XS.iconst X0.here hx rfl (hb hby d18_10) ?_
    refine XS.icmpYes X0.here hx rfl (pc0 := 11) (pc' := 18) rfl (hb hby d18_11) rfl (tlt (by decide)).1 (by decide) (by decide) ?_
    show Steps p.tables e below (s₁.setTop (mkF m 18 #[.val (.ref tr), .val (.int (0 : Int32))] [])) _
    refine XS.iloadN X0.here hx rfl (hb hby d18_18) rfl ?_
    refine XS.iconst X0.here hx rfl (hb hby d18_19) ?_
    refine XS.icmpYes X0.here hx rfl (pc0 := 20) (pc' := 27) rfl (hb hby d18_20) rfl (tlt (by decide)).1 (by decide) (by decide) ?_
    refine XS.iloadN X0.here hx rfl (hb hby d18_27) rfl ?_
    refine XS.iconst X0.here hx rfl (hb hby d18_28) ?_
    refine XS.icmpYes X0.here hx rfl (pc0 := 29) (pc' := 36) rfl (hb hby d18_29) rfl (tlt (by decide)).1 (by decide) (by decide) ?_
    show Steps p.tables e below (s₁.setTop (mkF m 36 #[.val (.ref tr), .val (.int (0 : Int32))] [])) _
    exact X0.returnOut hx Bd.returns (hb hby d18_36) hr
  · show Q18 Z tr (0 : Int32) lo bd S h0 n0 _ s₁.heap _
    rw [e0]
    exact ⟨rfl, N0, K0, I0⟩
theorem d18_5 : decode method_4_code 5 = .ok (.aload_n 0, 1) := by decide +kernel
theorem d18_6 : decode method_4_code 6 = .ok (.invokevirtual 40, 3) := by decide +kernel
theorem ef_18_1 (m : MethodId) (x0 : Addr) (x1 : Int32) : entryFrame m #[(.ref x0), (.int x1)] 2 = mkF m 0 #[.val (.ref x0), .val (.int x1)] [] := by first | (simp [entryFrame, mkF, argsToLocals, Value.category]; done) | rfl
theorem own_pre_18_1_6_hok (lo : Nat) (bd : Nat) (S : own_S) (hlo : n0 ≤ lo) (hok0 : own_okC S = true) : own_okC S = true := by assumption
def Q18_1 (Z : State) (tr : Addr) (nn : Int32) (lo : Nat) (bd : Nat) (S : own_S) (h0 : Heap) (n0 : Nat) (v : Option Value) (h : Heap) (L : List Loc) : Prop := v = none ∧ Fr n0 L ∧ Keep h0 h (own_rg lo bd) ∧ own_tr Z h tr lo bd (own_cls S)
set_option maxRecDepth 65536 in
set_option maxHeartbeats 40000000 in
theorem rm18_1 (l : Launch) (Z : State) (a0 : Array Value) (hw : ∀ d ∈ tables_1, d.before a0 Z = true) (ws : List Jvm.Cond) (tr : Addr) (nn : Int32) (lo : Nat) (bd : Nat) (S : own_S) (h0 : Heap) (n0 : Nat) (Z0 : n0 ≤ h0.size) (I0 : own_tr Z h0 tr lo bd S) (hlo : n0 ≤ lo) (hok0 : own_okC S = true) (hlit_nn : nn = (1 : Int32)) :
    MetFree l (⟨"com/example/twigmeter/twigmeter/workload/ReachBelowPinLaw", "closeTimes", "(Lcom/example/twigmeter/twigmeter/xml/ElementTree;I)V"⟩ : MethodName) (head1 (Jvm.Cond.code (⟨"com/example/twigmeter/twigmeter/workload/ReachBelowPinLaw", "closeTimes", "(Lcom/example/twigmeter/twigmeter/xml/ElementTree;I)V"⟩ : MethodName) method_4_code 2 none :: ws) ({ frames := 2, cells := 0, slots := 0, locals := 40 } : Room)) (fun a U => a = #[(.ref tr), (.int nn)] ∧ Z.Warmed39 U.vm ∧ U.heap = h0) (fun _ _ _ _ _ => True) (fun _ U o U' => ∃ v L, o = .returned v ∧ Q18_1 Z tr nn lo bd S h0 n0 v U'.heap L ∧ FrameEnd U o U' L ({ frames := 2, cells := 0, slots := 0, locals := 40 } : Room).cells ({ frames := 2, cells := 0, slots := 0, locals := 40 } : Room).slots) := by
  refine MetFree.of_bodySF (plainFor_of_name pn_18) hisR ?_
  intro p e s m args below meth c s₁ Bd hml0 hP hK
  obtain ⟨rfl, hZ, hh⟩ := hP
  have hx := Bd.exec
  have hby := Bd.bytes
  have hml : c.maxLocals = 2 := hml0
  have hown : s.vm.findClass "com/example/twigmeter/twigmeter/workload/ReachBelowPinLaw" = some m.cls := findClass_of_methodNamed Bd.named
  have hnm := (name_of_methodNamed Bd.named Bd.method).1
  have X0 : Stand p l e ({ frames := 2, cells := 0, slots := 0, locals := 40 } : Room) s m #[(.ref tr), (.int nn)] below meth c s₁ [] 0 0 := Stand.of_body Bd
  have e0 : s₁.heap = h0 := by rw [← hh, Bd.state]; rfl
  have N0 := Fr.nil n0
  have K0 : Keep h0 h0 (own_rg lo bd) := Keep.refl h0 _
  have pre0 : ∀ tq, Steps p.tables e below (s₁.setTop (mkF m 0 #[.val (.ref tr), .val (.int nn)] [])) tq → Steps p.tables e below (s₁.setTop (entryFrame m #[(.ref tr), (.int nn)] 2)) tq := fun tq kq => castTop (ef_18_1 m tr nn) kq
  subst hlit_nn
  have Et := own_tr.exa I0
  have hp1_hok : own_okC S = true := (own_pre_18_1_6_hok lo bd S hlo hok0)
  obtain ⟨cq1, kq1, q1a, q1b, q1c⟩ := isOf hZ e0 Et
  obtain ⟨_, _, ⟨T1, L1, k1, n1⟩, -, X1, ⟨Lc1, hQ1, l1, y1, z1⟩, st1⟩ := X0.virtualBack hx (y := (⟨"com/example/twigmeter/twigmeter/xml/ElementTree", "close", "()V"⟩ : MethodName)) (z := (⟨"com/example/twigmeter/twigmeter/xml/ElementTree", "close", "()V"⟩ : MethodName)) hown (mvT hZ (hw _ (List.mem_of_getElem? (i := 134) rfl))) (mvT hZ (hw _ (List.mem_of_getElem? (i := 135) rfl))) (notFace_of_selects (args := #[]) (mvT hZ (hw _ (List.mem_of_getElem? (i := 137) rfl)))) (mvT hZ (hw _ (List.mem_of_getElem? (i := 137) rfl))) (mvT hZ (hw _ (List.mem_of_getElem? (i := 136) rfl))) (by decide) (backOf (W := 0) (rm19 l Z a0 hw [] tr lo bd S h0 n0 Z0 I0 hlo hp1_hok) hZ (hw _ (List.mem_of_getElem? (i := 138) rfl)) (hw _ (List.mem_of_getElem? (i := 15) rfl)) (by decide) (by decide)) q1a q1c (g := (mkF m 6 #[.val (.ref tr), .val (.int (1 : Int32))] [(.ref tr)])) rfl (by rw [hml]; rfl) (Steps.refl _) (argsL := []) (rest := []) (lenOf pd_2 rfl) rfl (by show 2 * 0 + _ ≤ _; exact Nat.le_of_eq rfl) (hb hby d18_6) (fun _ _ => ⟨rfl, e0, (by decide : 0 + 0 ≤ _), (by decide : 0 + 0 ≤ _)⟩)
  dsimp only [Pt.U, Pt.locs, Pt.cells, Pt.slots] at X1 l1 y1 z1 st1 hQ1
  replace y1 : k1 = 0 := y1
  replace z1 : n1 = 0 := z1
  subst l1 y1 z1
  obtain ⟨rfl, N1q, K1q, F2⟩ := hQ1
  have N1 := Fr.app N0 N1q
  have F3 : Exa Z T1.heap tr "com/example/twigmeter/twigmeter/xml/ElementTree" := Et.keep K1q
  have Z4 : n0 ≤ T1.heap.size := Nat.le_trans Z0 K1q.1
  have K5 : Keep h0 T1.heap (own_rg lo bd) := K0.trans K1q (fun x hx => Or.inl hx)
  obtain ⟨fs, hr, hrun, hended, hW, hsame⟩ := X1.leave (v := none) (fun _ => rfl)
  refine ⟨_, _, pre0 _ ?_, hrun, hended, _, _, rfl, ?_, ⟨_, rfl⟩, hW, hsame.mono (by decide) (by decide)⟩
  · skip
    show Steps p.tables e below (s₁.setTop (mkF m 0 #[.val (.ref tr), .val (.int (1 : Int32))] [])) _
    refine XS.iloadN X0.here hx rfl (hb hby d18_0) rfl ?_
    refine XS.iconst X0.here hx rfl (hb hby d18_1) ?_
    refine XS.icmpNo X0.here hx rfl (hb hby d18_2) rfl (flt (by decide)).1 ?_
    refine XS.aloadN X0.here hx rfl (hb hby d18_5) rfl rfl ?_
    refine st1.trans ?_
    show Steps p.tables e below (T1.setTop (mkF m 9 #[.val (.ref tr), .val (.int (1 : Int32))] [])) _
    refine XS.iloadN X1.here hx rfl (hb hby d18_9) rfl ?_
    refine XS.iconst X1.here hx rfl (hb hby d18_10) ?_
    refine XS.icmpYes X1.here hx rfl (pc0 := 11) (pc' := 18) rfl (hb hby d18_11) rfl (tlt (by decide)).1 (by decide) (by decide) ?_
    refine XS.iloadN X1.here hx rfl (hb hby d18_18) rfl ?_
    refine XS.iconst X1.here hx rfl (hb hby d18_19) ?_
    refine XS.icmpYes X1.here hx rfl (pc0 := 20) (pc' := 27) rfl (hb hby d18_20) rfl (tlt (by decide)).1 (by decide) (by decide) ?_
    show Steps p.tables e below (T1.setTop (mkF m 27 #[.val (.ref tr), .val (.int (1 : Int32))] [])) _
    refine XS.iloadN X1.here hx rfl (hb hby d18_27) rfl ?_
    refine XS.iconst X1.here hx rfl (hb hby d18_28) ?_
    refine XS.icmpYes X1.here hx rfl (pc0 := 29) (pc' := 36) rfl (hb hby d18_29) rfl (tlt (by decide)).1 (by decide) (by decide) ?_
    show Steps p.tables e below (T1.setTop (mkF m 36 #[.val (.ref tr), .val (.int (1 : Int32))] [])) _
    exact X1.returnOut hx Bd.returns (hb hby d18_36) hr
  · show Q18_1 Z tr (1 : Int32) lo bd S h0 n0 _ T1.heap _
    exact ⟨rfl, N1, K5, F2⟩
theorem d18_14 : decode method_4_code 14 = .ok (.aload_n 0, 1) := by decide +kernel
theorem d18_15 : decode method_4_code 15 = .ok (.invokevirtual 40, 3) := by decide +kernel
theorem ef_18_2 (m : MethodId) (x0 : Addr) (x1 : Int32) : entryFrame m #[(.ref x0), (.int x1)] 2 = mkF m 0 #[.val (.ref x0), .val (.int x1)] [] := by first | (simp [entryFrame, mkF, argsToLocals, Value.category]; done) | rfl
theorem own_pre_18_2_6_hok (lo : Nat) (bd : Nat) (S : own_S) (hlo : n0 ≤ lo) (hok0 : own_okC S = true) (hok1 : own_okC (own_cls S) = true) : own_okC S = true := by assumption
theorem own_pre_18_2_15_hok (lo : Nat) (bd : Nat) (S : own_S) (hlo : n0 ≤ lo) (hok0 : own_okC S = true) (hok1 : own_okC (own_cls S) = true) (hp1_hok : own_okC S = true) : own_okC (own_cls S) = true := by assumption
def Q18_2 (Z : State) (tr : Addr) (nn : Int32) (lo : Nat) (bd : Nat) (S : own_S) (h0 : Heap) (n0 : Nat) (v : Option Value) (h : Heap) (L : List Loc) : Prop := v = none ∧ Fr n0 L ∧ Keep h0 h (own_rg lo bd) ∧ own_tr Z h tr lo bd (own_cls (own_cls S))
set_option maxRecDepth 65536 in
set_option maxHeartbeats 40000000 in
theorem rm18_2 (l : Launch) (Z : State) (a0 : Array Value) (hw : ∀ d ∈ tables_1, d.before a0 Z = true) (ws : List Jvm.Cond) (tr : Addr) (nn : Int32) (lo : Nat) (bd : Nat) (S : own_S) (h0 : Heap) (n0 : Nat) (Z0 : n0 ≤ h0.size) (I0 : own_tr Z h0 tr lo bd S) (hlo : n0 ≤ lo) (hok0 : own_okC S = true) (hok1 : own_okC (own_cls S) = true) (hlit_nn : nn = (2 : Int32)) :
    MetFree l (⟨"com/example/twigmeter/twigmeter/workload/ReachBelowPinLaw", "closeTimes", "(Lcom/example/twigmeter/twigmeter/xml/ElementTree;I)V"⟩ : MethodName) (head1 (Jvm.Cond.code (⟨"com/example/twigmeter/twigmeter/workload/ReachBelowPinLaw", "closeTimes", "(Lcom/example/twigmeter/twigmeter/xml/ElementTree;I)V"⟩ : MethodName) method_4_code 2 none :: ws) ({ frames := 2, cells := 0, slots := 0, locals := 40 } : Room)) (fun a U => a = #[(.ref tr), (.int nn)] ∧ Z.Warmed39 U.vm ∧ U.heap = h0) (fun _ _ _ _ _ => True) (fun _ U o U' => ∃ v L, o = .returned v ∧ Q18_2 Z tr nn lo bd S h0 n0 v U'.heap L ∧ FrameEnd U o U' L ({ frames := 2, cells := 0, slots := 0, locals := 40 } : Room).cells ({ frames := 2, cells := 0, slots := 0, locals := 40 } : Room).slots) := by
  refine MetFree.of_bodySF (plainFor_of_name pn_18) hisR ?_
  intro p e s m args below meth c s₁ Bd hml0 hP hK
  obtain ⟨rfl, hZ, hh⟩ := hP
  have hx := Bd.exec
  have hby := Bd.bytes
  have hml : c.maxLocals = 2 := hml0
  have hown : s.vm.findClass "com/example/twigmeter/twigmeter/workload/ReachBelowPinLaw" = some m.cls := findClass_of_methodNamed Bd.named
  have hnm := (name_of_methodNamed Bd.named Bd.method).1
  have X0 : Stand p l e ({ frames := 2, cells := 0, slots := 0, locals := 40 } : Room) s m #[(.ref tr), (.int nn)] below meth c s₁ [] 0 0 := Stand.of_body Bd
  have e0 : s₁.heap = h0 := by rw [← hh, Bd.state]; rfl
  have N0 := Fr.nil n0
  have K0 : Keep h0 h0 (own_rg lo bd) := Keep.refl h0 _
  have pre0 : ∀ tq, Steps p.tables e below (s₁.setTop (mkF m 0 #[.val (.ref tr), .val (.int nn)] [])) tq → Steps p.tables e below (s₁.setTop (entryFrame m #[(.ref tr), (.int nn)] 2)) tq := fun tq kq => castTop (ef_18_2 m tr nn) kq
  subst hlit_nn
  have Et := own_tr.exa I0
  have hp1_hok : own_okC S = true := (own_pre_18_2_6_hok lo bd S hlo hok0 hok1)
  obtain ⟨cq1, kq1, q1a, q1b, q1c⟩ := isOf hZ e0 Et
  obtain ⟨_, _, ⟨T1, L1, k1, n1⟩, -, X1, ⟨Lc1, hQ1, l1, y1, z1⟩, st1⟩ := X0.virtualBack hx (y := (⟨"com/example/twigmeter/twigmeter/xml/ElementTree", "close", "()V"⟩ : MethodName)) (z := (⟨"com/example/twigmeter/twigmeter/xml/ElementTree", "close", "()V"⟩ : MethodName)) hown (mvT hZ (hw _ (List.mem_of_getElem? (i := 134) rfl))) (mvT hZ (hw _ (List.mem_of_getElem? (i := 135) rfl))) (notFace_of_selects (args := #[]) (mvT hZ (hw _ (List.mem_of_getElem? (i := 137) rfl)))) (mvT hZ (hw _ (List.mem_of_getElem? (i := 137) rfl))) (mvT hZ (hw _ (List.mem_of_getElem? (i := 136) rfl))) (by decide) (backOf (W := 0) (rm19 l Z a0 hw [] tr lo bd S h0 n0 Z0 I0 hlo hp1_hok) hZ (hw _ (List.mem_of_getElem? (i := 138) rfl)) (hw _ (List.mem_of_getElem? (i := 15) rfl)) (by decide) (by decide)) q1a q1c (g := (mkF m 6 #[.val (.ref tr), .val (.int (2 : Int32))] [(.ref tr)])) rfl (by rw [hml]; rfl) (Steps.refl _) (argsL := []) (rest := []) (lenOf pd_2 rfl) rfl (by show 2 * 0 + _ ≤ _; exact Nat.le_of_eq rfl) (hb hby d18_6) (fun _ _ => ⟨rfl, e0, (by decide : 0 + 0 ≤ _), (by decide : 0 + 0 ≤ _)⟩)
  dsimp only [Pt.U, Pt.locs, Pt.cells, Pt.slots] at X1 l1 y1 z1 st1 hQ1
  replace y1 : k1 = 0 := y1
  replace z1 : n1 = 0 := z1
  subst l1 y1 z1
  obtain ⟨rfl, N1q, K1q, F2⟩ := hQ1
  have N1 := Fr.app N0 N1q
  have F3 : Exa Z T1.heap tr "com/example/twigmeter/twigmeter/xml/ElementTree" := Et.keep K1q
  have Z4 : n0 ≤ T1.heap.size := Nat.le_trans Z0 K1q.1
  have K5 : Keep h0 T1.heap (own_rg lo bd) := K0.trans K1q (fun x hx => Or.inl hx)
  have hp6_hok : own_okC (own_cls S) = true := (own_pre_18_2_15_hok lo bd S hlo hok0 hok1 hp1_hok)
  obtain ⟨cq6, kq6, q6a, q6b, q6c⟩ := isOf hZ rfl F3
  obtain ⟨_, _, ⟨T6, L6, k6, n6⟩, -, X6, ⟨Lc6, hQ6, l6, y6, z6⟩, st6⟩ := X1.virtualBack hx (y := (⟨"com/example/twigmeter/twigmeter/xml/ElementTree", "close", "()V"⟩ : MethodName)) (z := (⟨"com/example/twigmeter/twigmeter/xml/ElementTree", "close", "()V"⟩ : MethodName)) hown (mvT hZ (hw _ (List.mem_of_getElem? (i := 134) rfl))) (mvT hZ (hw _ (List.mem_of_getElem? (i := 135) rfl))) (notFace_of_selects (args := #[]) (mvT hZ (hw _ (List.mem_of_getElem? (i := 137) rfl)))) (mvT hZ (hw _ (List.mem_of_getElem? (i := 137) rfl))) (mvT hZ (hw _ (List.mem_of_getElem? (i := 136) rfl))) (by decide) (backOf (W := 0) (rm19 l Z a0 hw [] tr lo bd (own_cls S) T1.heap n0 Z4 F2 hlo hp6_hok) hZ (hw _ (List.mem_of_getElem? (i := 138) rfl)) (hw _ (List.mem_of_getElem? (i := 15) rfl)) (by decide) (by decide)) q6a q6c (g := (mkF m 15 #[.val (.ref tr), .val (.int (2 : Int32))] [(.ref tr)])) rfl (by rw [hml]; rfl) (Steps.refl _) (argsL := []) (rest := []) (lenOf pd_2 rfl) rfl (by show 2 * 0 + _ ≤ _; exact Nat.le_of_eq rfl) (hb hby d18_15) (fun _ _ => ⟨rfl, rfl, (by decide : 0 + 0 ≤ _), (by decide : 0 + 0 ≤ _)⟩)
  dsimp only [Pt.U, Pt.locs, Pt.cells, Pt.slots] at X6 l6 y6 z6 st6 hQ6
  replace y6 : k6 = 0 := y6
  replace z6 : n6 = 0 := z6
  subst l6 y6 z6
  obtain ⟨rfl, N6q, K6q, F7⟩ := hQ6
  have N6 := Fr.app N1 N6q
  have F8 : Exa Z T6.heap tr "com/example/twigmeter/twigmeter/xml/ElementTree" := F3.keep K6q
  have Z9 : n0 ≤ T6.heap.size := Nat.le_trans Z4 K6q.1
  have K10 : Keep h0 T6.heap (own_rg lo bd) := K5.trans K6q (fun x hx => Or.inl hx)
  obtain ⟨fs, hr, hrun, hended, hW, hsame⟩ := X6.leave (v := none) (fun _ => rfl)
  refine ⟨_, _, pre0 _ ?_, hrun, hended, _, _, rfl, ?_, ⟨_, rfl⟩, hW, hsame.mono (by decide) (by decide)⟩
  · skip
    show Steps p.tables e below (s₁.setTop (mkF m 0 #[.val (.ref tr), .val (.int (2 : Int32))] [])) _
    refine XS.iloadN X0.here hx rfl (hb hby d18_0) rfl ?_
    refine XS.iconst X0.here hx rfl (hb hby d18_1) ?_
    refine XS.icmpNo X0.here hx rfl (hb hby d18_2) rfl (flt (by decide)).1 ?_
    refine XS.aloadN X0.here hx rfl (hb hby d18_5) rfl rfl ?_
    refine st1.trans ?_
    show Steps p.tables e below (T1.setTop (mkF m 9 #[.val (.ref tr), .val (.int (2 : Int32))] [])) _
    refine XS.iloadN X1.here hx rfl (hb hby d18_9) rfl ?_
    refine XS.iconst X1.here hx rfl (hb hby d18_10) ?_
    refine XS.icmpNo X1.here hx rfl (hb hby d18_11) rfl (flt (by decide)).1 ?_
    refine XS.aloadN X1.here hx rfl (hb hby d18_14) rfl rfl ?_
    refine st6.trans ?_
    show Steps p.tables e below (T6.setTop (mkF m 18 #[.val (.ref tr), .val (.int (2 : Int32))] [])) _
    refine XS.iloadN X6.here hx rfl (hb hby d18_18) rfl ?_
    refine XS.iconst X6.here hx rfl (hb hby d18_19) ?_
    refine XS.icmpYes X6.here hx rfl (pc0 := 20) (pc' := 27) rfl (hb hby d18_20) rfl (tlt (by decide)).1 (by decide) (by decide) ?_
    refine XS.iloadN X6.here hx rfl (hb hby d18_27) rfl ?_
    refine XS.iconst X6.here hx rfl (hb hby d18_28) ?_
    refine XS.icmpYes X6.here hx rfl (pc0 := 29) (pc' := 36) rfl (hb hby d18_29) rfl (tlt (by decide)).1 (by decide) (by decide) ?_
    show Steps p.tables e below (T6.setTop (mkF m 36 #[.val (.ref tr), .val (.int (2 : Int32))] [])) _
    exact X6.returnOut hx Bd.returns (hb hby d18_36) hr
  · show Q18_2 Z tr (2 : Int32) lo bd S h0 n0 _ T6.heap _
    exact ⟨rfl, N6, K10, F7⟩
theorem d18_23 : decode method_4_code 23 = .ok (.aload_n 0, 1) := by decide +kernel
theorem d18_24 : decode method_4_code 24 = .ok (.invokevirtual 40, 3) := by decide +kernel
theorem ef_18_3 (m : MethodId) (x0 : Addr) (x1 : Int32) : entryFrame m #[(.ref x0), (.int x1)] 2 = mkF m 0 #[.val (.ref x0), .val (.int x1)] [] := by first | (simp [entryFrame, mkF, argsToLocals, Value.category]; done) | rfl
theorem own_pre_18_3_6_hok (lo : Nat) (bd : Nat) (S : own_S) (hlo : n0 ≤ lo) (hok0 : own_okC S = true) (hok1 : own_okC (own_cls S) = true) (hok2 : own_okC (own_cls (own_cls S)) = true) : own_okC S = true := by assumption
theorem own_pre_18_3_15_hok (lo : Nat) (bd : Nat) (S : own_S) (hlo : n0 ≤ lo) (hok0 : own_okC S = true) (hok1 : own_okC (own_cls S) = true) (hok2 : own_okC (own_cls (own_cls S)) = true) (hp1_hok : own_okC S = true) : own_okC (own_cls S) = true := by assumption
theorem own_pre_18_3_24_hok (lo : Nat) (bd : Nat) (S : own_S) (hlo : n0 ≤ lo) (hok0 : own_okC S = true) (hok1 : own_okC (own_cls S) = true) (hok2 : own_okC (own_cls (own_cls S)) = true) (hp1_hok : own_okC S = true) (hp6_hok : own_okC (own_cls S) = true) : own_okC (own_cls (own_cls S)) = true := by assumption
def Q18_3 (Z : State) (tr : Addr) (nn : Int32) (lo : Nat) (bd : Nat) (S : own_S) (h0 : Heap) (n0 : Nat) (v : Option Value) (h : Heap) (L : List Loc) : Prop := v = none ∧ Fr n0 L ∧ Keep h0 h (own_rg lo bd) ∧ own_tr Z h tr lo bd (own_cls (own_cls (own_cls S)))
set_option maxRecDepth 65536 in
set_option maxHeartbeats 40000000 in
theorem rm18_3 (l : Launch) (Z : State) (a0 : Array Value) (hw : ∀ d ∈ tables_1, d.before a0 Z = true) (ws : List Jvm.Cond) (tr : Addr) (nn : Int32) (lo : Nat) (bd : Nat) (S : own_S) (h0 : Heap) (n0 : Nat) (Z0 : n0 ≤ h0.size) (I0 : own_tr Z h0 tr lo bd S) (hlo : n0 ≤ lo) (hok0 : own_okC S = true) (hok1 : own_okC (own_cls S) = true) (hok2 : own_okC (own_cls (own_cls S)) = true) (hlit_nn : nn = (3 : Int32)) :
    MetFree l (⟨"com/example/twigmeter/twigmeter/workload/ReachBelowPinLaw", "closeTimes", "(Lcom/example/twigmeter/twigmeter/xml/ElementTree;I)V"⟩ : MethodName) (head1 (Jvm.Cond.code (⟨"com/example/twigmeter/twigmeter/workload/ReachBelowPinLaw", "closeTimes", "(Lcom/example/twigmeter/twigmeter/xml/ElementTree;I)V"⟩ : MethodName) method_4_code 2 none :: ws) ({ frames := 2, cells := 0, slots := 0, locals := 40 } : Room)) (fun a U => a = #[(.ref tr), (.int nn)] ∧ Z.Warmed39 U.vm ∧ U.heap = h0) (fun _ _ _ _ _ => True) (fun _ U o U' => ∃ v L, o = .returned v ∧ Q18_3 Z tr nn lo bd S h0 n0 v U'.heap L ∧ FrameEnd U o U' L ({ frames := 2, cells := 0, slots := 0, locals := 40 } : Room).cells ({ frames := 2, cells := 0, slots := 0, locals := 40 } : Room).slots) := by
  refine MetFree.of_bodySF (plainFor_of_name pn_18) hisR ?_
  intro p e s m args below meth c s₁ Bd hml0 hP hK
  obtain ⟨rfl, hZ, hh⟩ := hP
  have hx := Bd.exec
  have hby := Bd.bytes
  have hml : c.maxLocals = 2 := hml0
  have hown : s.vm.findClass "com/example/twigmeter/twigmeter/workload/ReachBelowPinLaw" = some m.cls := findClass_of_methodNamed Bd.named
  have hnm := (name_of_methodNamed Bd.named Bd.method).1
  have X0 : Stand p l e ({ frames := 2, cells := 0, slots := 0, locals := 40 } : Room) s m #[(.ref tr), (.int nn)] below meth c s₁ [] 0 0 := Stand.of_body Bd
  have e0 : s₁.heap = h0 := by rw [← hh, Bd.state]; rfl
  have N0 := Fr.nil n0
  have K0 : Keep h0 h0 (own_rg lo bd) := Keep.refl h0 _
  have pre0 : ∀ tq, Steps p.tables e below (s₁.setTop (mkF m 0 #[.val (.ref tr), .val (.int nn)] [])) tq → Steps p.tables e below (s₁.setTop (entryFrame m #[(.ref tr), (.int nn)] 2)) tq := fun tq kq => castTop (ef_18_3 m tr nn) kq
  subst hlit_nn
  have Et := own_tr.exa I0
  have hp1_hok : own_okC S = true := (own_pre_18_3_6_hok lo bd S hlo hok0 hok1 hok2)
  obtain ⟨cq1, kq1, q1a, q1b, q1c⟩ := isOf hZ e0 Et
  obtain ⟨_, _, ⟨T1, L1, k1, n1⟩, -, X1, ⟨Lc1, hQ1, l1, y1, z1⟩, st1⟩ := X0.virtualBack hx (y := (⟨"com/example/twigmeter/twigmeter/xml/ElementTree", "close", "()V"⟩ : MethodName)) (z := (⟨"com/example/twigmeter/twigmeter/xml/ElementTree", "close", "()V"⟩ : MethodName)) hown (mvT hZ (hw _ (List.mem_of_getElem? (i := 134) rfl))) (mvT hZ (hw _ (List.mem_of_getElem? (i := 135) rfl))) (notFace_of_selects (args := #[]) (mvT hZ (hw _ (List.mem_of_getElem? (i := 137) rfl)))) (mvT hZ (hw _ (List.mem_of_getElem? (i := 137) rfl))) (mvT hZ (hw _ (List.mem_of_getElem? (i := 136) rfl))) (by decide) (backOf (W := 0) (rm19 l Z a0 hw [] tr lo bd S h0 n0 Z0 I0 hlo hp1_hok) hZ (hw _ (List.mem_of_getElem? (i := 138) rfl)) (hw _ (List.mem_of_getElem? (i := 15) rfl)) (by decide) (by decide)) q1a q1c (g := (mkF m 6 #[.val (.ref tr), .val (.int (3 : Int32))] [(.ref tr)])) rfl (by rw [hml]; rfl) (Steps.refl _) (argsL := []) (rest := []) (lenOf pd_2 rfl) rfl (by show 2 * 0 + _ ≤ _; exact Nat.le_of_eq rfl) (hb hby d18_6) (fun _ _ => ⟨rfl, e0, (by decide : 0 + 0 ≤ _), (by decide : 0 + 0 ≤ _)⟩)
  dsimp only [Pt.U, Pt.locs, Pt.cells, Pt.slots] at X1 l1 y1 z1 st1 hQ1
  replace y1 : k1 = 0 := y1
  replace z1 : n1 = 0 := z1
  subst l1 y1 z1
  obtain ⟨rfl, N1q, K1q, F2⟩ := hQ1
  have N1 := Fr.app N0 N1q
  have F3 : Exa Z T1.heap tr "com/example/twigmeter/twigmeter/xml/ElementTree" := Et.keep K1q
  have Z4 : n0 ≤ T1.heap.size := Nat.le_trans Z0 K1q.1
  have K5 : Keep h0 T1.heap (own_rg lo bd) := K0.trans K1q (fun x hx => Or.inl hx)
  have hp6_hok : own_okC (own_cls S) = true := (own_pre_18_3_15_hok lo bd S hlo hok0 hok1 hok2 hp1_hok)
  obtain ⟨cq6, kq6, q6a, q6b, q6c⟩ := isOf hZ rfl F3
  obtain ⟨_, _, ⟨T6, L6, k6, n6⟩, -, X6, ⟨Lc6, hQ6, l6, y6, z6⟩, st6⟩ := X1.virtualBack hx (y := (⟨"com/example/twigmeter/twigmeter/xml/ElementTree", "close", "()V"⟩ : MethodName)) (z := (⟨"com/example/twigmeter/twigmeter/xml/ElementTree", "close", "()V"⟩ : MethodName)) hown (mvT hZ (hw _ (List.mem_of_getElem? (i := 134) rfl))) (mvT hZ (hw _ (List.mem_of_getElem? (i := 135) rfl))) (notFace_of_selects (args := #[]) (mvT hZ (hw _ (List.mem_of_getElem? (i := 137) rfl)))) (mvT hZ (hw _ (List.mem_of_getElem? (i := 137) rfl))) (mvT hZ (hw _ (List.mem_of_getElem? (i := 136) rfl))) (by decide) (backOf (W := 0) (rm19 l Z a0 hw [] tr lo bd (own_cls S) T1.heap n0 Z4 F2 hlo hp6_hok) hZ (hw _ (List.mem_of_getElem? (i := 138) rfl)) (hw _ (List.mem_of_getElem? (i := 15) rfl)) (by decide) (by decide)) q6a q6c (g := (mkF m 15 #[.val (.ref tr), .val (.int (3 : Int32))] [(.ref tr)])) rfl (by rw [hml]; rfl) (Steps.refl _) (argsL := []) (rest := []) (lenOf pd_2 rfl) rfl (by show 2 * 0 + _ ≤ _; exact Nat.le_of_eq rfl) (hb hby d18_15) (fun _ _ => ⟨rfl, rfl, (by decide : 0 + 0 ≤ _), (by decide : 0 + 0 ≤ _)⟩)
  dsimp only [Pt.U, Pt.locs, Pt.cells, Pt.slots] at X6 l6 y6 z6 st6 hQ6
  replace y6 : k6 = 0 := y6
  replace z6 : n6 = 0 := z6
  subst l6 y6 z6
  obtain ⟨rfl, N6q, K6q, F7⟩ := hQ6
  have N6 := Fr.app N1 N6q
  have F8 : Exa Z T6.heap tr "com/example/twigmeter/twigmeter/xml/ElementTree" := F3.keep K6q
  have Z9 : n0 ≤ T6.heap.size := Nat.le_trans Z4 K6q.1
  have K10 : Keep h0 T6.heap (own_rg lo bd) := K5.trans K6q (fun x hx => Or.inl hx)
  have hp11_hok : own_okC (own_cls (own_cls S)) = true := (own_pre_18_3_24_hok lo bd S hlo hok0 hok1 hok2 hp1_hok hp6_hok)
  obtain ⟨cq11, kq11, q11a, q11b, q11c⟩ := isOf hZ rfl F8
  obtain ⟨_, _, ⟨T11, L11, k11, n11⟩, -, X11, ⟨Lc11, hQ11, l11, y11, z11⟩, st11⟩ := X6.virtualBack hx (y := (⟨"com/example/twigmeter/twigmeter/xml/ElementTree", "close", "()V"⟩ : MethodName)) (z := (⟨"com/example/twigmeter/twigmeter/xml/ElementTree", "close", "()V"⟩ : MethodName)) hown (mvT hZ (hw _ (List.mem_of_getElem? (i := 134) rfl))) (mvT hZ (hw _ (List.mem_of_getElem? (i := 135) rfl))) (notFace_of_selects (args := #[]) (mvT hZ (hw _ (List.mem_of_getElem? (i := 137) rfl)))) (mvT hZ (hw _ (List.mem_of_getElem? (i := 137) rfl))) (mvT hZ (hw _ (List.mem_of_getElem? (i := 136) rfl))) (by decide) (backOf (W := 0) (rm19 l Z a0 hw [] tr lo bd (own_cls (own_cls S)) T6.heap n0 Z9 F7 hlo hp11_hok) hZ (hw _ (List.mem_of_getElem? (i := 138) rfl)) (hw _ (List.mem_of_getElem? (i := 15) rfl)) (by decide) (by decide)) q11a q11c (g := (mkF m 24 #[.val (.ref tr), .val (.int (3 : Int32))] [(.ref tr)])) rfl (by rw [hml]; rfl) (Steps.refl _) (argsL := []) (rest := []) (lenOf pd_2 rfl) rfl (by show 2 * 0 + _ ≤ _; exact Nat.le_of_eq rfl) (hb hby d18_24) (fun _ _ => ⟨rfl, rfl, (by decide : 0 + 0 ≤ _), (by decide : 0 + 0 ≤ _)⟩)
  dsimp only [Pt.U, Pt.locs, Pt.cells, Pt.slots] at X11 l11 y11 z11 st11 hQ11
  replace y11 : k11 = 0 := y11
  replace z11 : n11 = 0 := z11
  subst l11 y11 z11
  obtain ⟨rfl, N11q, K11q, F12⟩ := hQ11
  have N11 := Fr.app N6 N11q
  have F13 : Exa Z T11.heap tr "com/example/twigmeter/twigmeter/xml/ElementTree" := F8.keep K11q
  have Z14 : n0 ≤ T11.heap.size := Nat.le_trans Z9 K11q.1
  have K15 : Keep h0 T11.heap (own_rg lo bd) := K10.trans K11q (fun x hx => Or.inl hx)
  obtain ⟨fs, hr, hrun, hended, hW, hsame⟩ := X11.leave (v := none) (fun _ => rfl)
  refine ⟨_, _, pre0 _ ?_, hrun, hended, _, _, rfl, ?_, ⟨_, rfl⟩, hW, hsame.mono (by decide) (by decide)⟩
  · skip
    show Steps p.tables e below (s₁.setTop (mkF m 0 #[.val (.ref tr), .val (.int (3 : Int32))] [])) _
    refine XS.iloadN X0.here hx rfl (hb hby d18_0) rfl ?_
    refine XS.iconst X0.here hx rfl (hb hby d18_1) ?_
    refine XS.icmpNo X0.here hx rfl (hb hby d18_2) rfl (flt (by decide)).1 ?_
    refine XS.aloadN X0.here hx rfl (hb hby d18_5) rfl rfl ?_
    refine st1.trans ?_
    show Steps p.tables e below (T1.setTop (mkF m 9 #[.val (.ref tr), .val (.int (3 : Int32))] [])) _
    refine XS.iloadN X1.here hx rfl (hb hby d18_9) rfl ?_
    refine XS.iconst X1.here hx rfl (hb hby d18_10) ?_
    refine XS.icmpNo X1.here hx rfl (hb hby d18_11) rfl (flt (by decide)).1 ?_
    refine XS.aloadN X1.here hx rfl (hb hby d18_14) rfl rfl ?_
    refine st6.trans ?_
    show Steps p.tables e below (T6.setTop (mkF m 18 #[.val (.ref tr), .val (.int (3 : Int32))] [])) _
    refine XS.iloadN X6.here hx rfl (hb hby d18_18) rfl ?_
    refine XS.iconst X6.here hx rfl (hb hby d18_19) ?_
    refine XS.icmpNo X6.here hx rfl (hb hby d18_20) rfl (flt (by decide)).1 ?_
    refine XS.aloadN X6.here hx rfl (hb hby d18_23) rfl rfl ?_
    refine st11.trans ?_
    show Steps p.tables e below (T11.setTop (mkF m 27 #[.val (.ref tr), .val (.int (3 : Int32))] [])) _
    refine XS.iloadN X11.here hx rfl (hb hby d18_27) rfl ?_
    refine XS.iconst X11.here hx rfl (hb hby d18_28) ?_
    refine XS.icmpYes X11.here hx rfl (pc0 := 29) (pc' := 36) rfl (hb hby d18_29) rfl (tlt (by decide)).1 (by decide) (by decide) ?_
    show Steps p.tables e below (T11.setTop (mkF m 36 #[.val (.ref tr), .val (.int (3 : Int32))] [])) _
    exact X11.returnOut hx Bd.returns (hb hby d18_36) hr
  · show Q18_3 Z tr (3 : Int32) lo bd S h0 n0 _ T11.heap _
    exact ⟨rfl, N11, K15, F12⟩
theorem d18_32 : decode method_4_code 32 = .ok (.aload_n 0, 1) := by decide +kernel
theorem d18_33 : decode method_4_code 33 = .ok (.invokevirtual 40, 3) := by decide +kernel
theorem ef_18_4 (m : MethodId) (x0 : Addr) (x1 : Int32) : entryFrame m #[(.ref x0), (.int x1)] 2 = mkF m 0 #[.val (.ref x0), .val (.int x1)] [] := by first | (simp [entryFrame, mkF, argsToLocals, Value.category]; done) | rfl
theorem own_pre_18_4_6_hok (lo : Nat) (bd : Nat) (S : own_S) (hlo : n0 ≤ lo) (hok0 : own_okC S = true) (hok1 : own_okC (own_cls S) = true) (hok2 : own_okC (own_cls (own_cls S)) = true) (hok3 : own_okC (own_cls (own_cls (own_cls S))) = true) : own_okC S = true := by assumption
theorem own_pre_18_4_15_hok (lo : Nat) (bd : Nat) (S : own_S) (hlo : n0 ≤ lo) (hok0 : own_okC S = true) (hok1 : own_okC (own_cls S) = true) (hok2 : own_okC (own_cls (own_cls S)) = true) (hok3 : own_okC (own_cls (own_cls (own_cls S))) = true) (hp1_hok : own_okC S = true) : own_okC (own_cls S) = true := by assumption
theorem own_pre_18_4_24_hok (lo : Nat) (bd : Nat) (S : own_S) (hlo : n0 ≤ lo) (hok0 : own_okC S = true) (hok1 : own_okC (own_cls S) = true) (hok2 : own_okC (own_cls (own_cls S)) = true) (hok3 : own_okC (own_cls (own_cls (own_cls S))) = true) (hp1_hok : own_okC S = true) (hp6_hok : own_okC (own_cls S) = true) : own_okC (own_cls (own_cls S)) = true := by assumption
theorem own_pre_18_4_33_hok (lo : Nat) (bd : Nat) (S : own_S) (hlo : n0 ≤ lo) (hok0 : own_okC S = true) (hok1 : own_okC (own_cls S) = true) (hok2 : own_okC (own_cls (own_cls S)) = true) (hok3 : own_okC (own_cls (own_cls (own_cls S))) = true) (hp1_hok : own_okC S = true) (hp6_hok : own_okC (own_cls S) = true) (hp11_hok : own_okC (own_cls (own_cls S)) = true) : own_okC (own_cls (own_cls (own_cls S))) = true := by assumption
def Q18_4 (Z : State) (tr : Addr) (nn : Int32) (lo : Nat) (bd : Nat) (S : own_S) (h0 : Heap) (n0 : Nat) (v : Option Value) (h : Heap) (L : List Loc) : Prop := v = none ∧ Fr n0 L ∧ Keep h0 h (own_rg lo bd) ∧ own_tr Z h tr lo bd (own_cls (own_cls (own_cls (own_cls S))))
set_option maxRecDepth 65536 in
set_option maxHeartbeats 40000000 in
theorem rm18_4 (l : Launch) (Z : State) (a0 : Array Value) (hw : ∀ d ∈ tables_1, d.before a0 Z = true) (ws : List Jvm.Cond) (tr : Addr) (nn : Int32) (lo : Nat) (bd : Nat) (S : own_S) (h0 : Heap) (n0 : Nat) (Z0 : n0 ≤ h0.size) (I0 : own_tr Z h0 tr lo bd S) (hlo : n0 ≤ lo) (hok0 : own_okC S = true) (hok1 : own_okC (own_cls S) = true) (hok2 : own_okC (own_cls (own_cls S)) = true) (hok3 : own_okC (own_cls (own_cls (own_cls S))) = true) (hlit_nn : nn = (4 : Int32)) :
    MetFree l (⟨"com/example/twigmeter/twigmeter/workload/ReachBelowPinLaw", "closeTimes", "(Lcom/example/twigmeter/twigmeter/xml/ElementTree;I)V"⟩ : MethodName) (head1 (Jvm.Cond.code (⟨"com/example/twigmeter/twigmeter/workload/ReachBelowPinLaw", "closeTimes", "(Lcom/example/twigmeter/twigmeter/xml/ElementTree;I)V"⟩ : MethodName) method_4_code 2 none :: ws) ({ frames := 2, cells := 0, slots := 0, locals := 40 } : Room)) (fun a U => a = #[(.ref tr), (.int nn)] ∧ Z.Warmed39 U.vm ∧ U.heap = h0) (fun _ _ _ _ _ => True) (fun _ U o U' => ∃ v L, o = .returned v ∧ Q18_4 Z tr nn lo bd S h0 n0 v U'.heap L ∧ FrameEnd U o U' L ({ frames := 2, cells := 0, slots := 0, locals := 40 } : Room).cells ({ frames := 2, cells := 0, slots := 0, locals := 40 } : Room).slots) := by
  refine MetFree.of_bodySF (plainFor_of_name pn_18) hisR ?_
  intro p e s m args below meth c s₁ Bd hml0 hP hK
  obtain ⟨rfl, hZ, hh⟩ := hP
  have hx := Bd.exec
  have hby := Bd.bytes
  have hml : c.maxLocals = 2 := hml0
  have hown : s.vm.findClass "com/example/twigmeter/twigmeter/workload/ReachBelowPinLaw" = some m.cls := findClass_of_methodNamed Bd.named
  have hnm := (name_of_methodNamed Bd.named Bd.method).1
  have X0 : Stand p l e ({ frames := 2, cells := 0, slots := 0, locals := 40 } : Room) s m #[(.ref tr), (.int nn)] below meth c s₁ [] 0 0 := Stand.of_body Bd
  have e0 : s₁.heap = h0 := by rw [← hh, Bd.state]; rfl
  have N0 := Fr.nil n0
  have K0 : Keep h0 h0 (own_rg lo bd) := Keep.refl h0 _
  have pre0 : ∀ tq, Steps p.tables e below (s₁.setTop (mkF m 0 #[.val (.ref tr), .val (.int nn)] [])) tq → Steps p.tables e below (s₁.setTop (entryFrame m #[(.ref tr), (.int nn)] 2)) tq := fun tq kq => castTop (ef_18_4 m tr nn) kq
  subst hlit_nn
  have Et := own_tr.exa I0
  have hp1_hok : own_okC S = true := (own_pre_18_4_6_hok lo bd S hlo hok0 hok1 hok2 hok3)
  obtain ⟨cq1, kq1, q1a, q1b, q1c⟩ := isOf hZ e0 Et
  obtain ⟨_, _, ⟨T1, L1, k1, n1⟩, -, X1, ⟨Lc1, hQ1, l1, y1, z1⟩, st1⟩ := X0.virtualBack hx (y := (⟨"com/example/twigmeter/twigmeter/xml/ElementTree", "close", "()V"⟩ : MethodName)) (z := (⟨"com/example/twigmeter/twigmeter/xml/ElementTree", "close", "()V"⟩ : MethodName)) hown (mvT hZ (hw _ (List.mem_of_getElem? (i := 134) rfl))) (mvT hZ (hw _ (List.mem_of_getElem? (i := 135) rfl))) (notFace_of_selects (args := #[]) (mvT hZ (hw _ (List.mem_of_getElem? (i := 137) rfl)))) (mvT hZ (hw _ (List.mem_of_getElem? (i := 137) rfl))) (mvT hZ (hw _ (List.mem_of_getElem? (i := 136) rfl))) (by decide) (backOf (W := 0) (rm19 l Z a0 hw [] tr lo bd S h0 n0 Z0 I0 hlo hp1_hok) hZ (hw _ (List.mem_of_getElem? (i := 138) rfl)) (hw _ (List.mem_of_getElem? (i := 15) rfl)) (by decide) (by decide)) q1a q1c (g := (mkF m 6 #[.val (.ref tr), .val (.int (4 : Int32))] [(.ref tr)])) rfl (by rw [hml]; rfl) (Steps.refl _) (argsL := []) (rest := []) (lenOf pd_2 rfl) rfl (by show 2 * 0 + _ ≤ _; exact Nat.le_of_eq rfl) (hb hby d18_6) (fun _ _ => ⟨rfl, e0, (by decide : 0 + 0 ≤ _), (by decide : 0 + 0 ≤ _)⟩)
  dsimp only [Pt.U, Pt.locs, Pt.cells, Pt.slots] at X1 l1 y1 z1 st1 hQ1
  replace y1 : k1 = 0 := y1
  replace z1 : n1 = 0 := z1
  subst l1 y1 z1
  obtain ⟨rfl, N1q, K1q, F2⟩ := hQ1
  have N1 := Fr.app N0 N1q
  have F3 : Exa Z T1.heap tr "com/example/twigmeter/twigmeter/xml/ElementTree" := Et.keep K1q
  have Z4 : n0 ≤ T1.heap.size := Nat.le_trans Z0 K1q.1
  have K5 : Keep h0 T1.heap (own_rg lo bd) := K0.trans K1q (fun x hx => Or.inl hx)
  have hp6_hok : own_okC (own_cls S) = true := (own_pre_18_4_15_hok lo bd S hlo hok0 hok1 hok2 hok3 hp1_hok)
  obtain ⟨cq6, kq6, q6a, q6b, q6c⟩ := isOf hZ rfl F3
  obtain ⟨_, _, ⟨T6, L6, k6, n6⟩, -, X6, ⟨Lc6, hQ6, l6, y6, z6⟩, st6⟩ := X1.virtualBack hx (y := (⟨"com/example/twigmeter/twigmeter/xml/ElementTree", "close", "()V"⟩ : MethodName)) (z := (⟨"com/example/twigmeter/twigmeter/xml/ElementTree", "close", "()V"⟩ : MethodName)) hown (mvT hZ (hw _ (List.mem_of_getElem? (i := 134) rfl))) (mvT hZ (hw _ (List.mem_of_getElem? (i := 135) rfl))) (notFace_of_selects (args := #[]) (mvT hZ (hw _ (List.mem_of_getElem? (i := 137) rfl)))) (mvT hZ (hw _ (List.mem_of_getElem? (i := 137) rfl))) (mvT hZ (hw _ (List.mem_of_getElem? (i := 136) rfl))) (by decide) (backOf (W := 0) (rm19 l Z a0 hw [] tr lo bd (own_cls S) T1.heap n0 Z4 F2 hlo hp6_hok) hZ (hw _ (List.mem_of_getElem? (i := 138) rfl)) (hw _ (List.mem_of_getElem? (i := 15) rfl)) (by decide) (by decide)) q6a q6c (g := (mkF m 15 #[.val (.ref tr), .val (.int (4 : Int32))] [(.ref tr)])) rfl (by rw [hml]; rfl) (Steps.refl _) (argsL := []) (rest := []) (lenOf pd_2 rfl) rfl (by show 2 * 0 + _ ≤ _; exact Nat.le_of_eq rfl) (hb hby d18_15) (fun _ _ => ⟨rfl, rfl, (by decide : 0 + 0 ≤ _), (by decide : 0 + 0 ≤ _)⟩)
  dsimp only [Pt.U, Pt.locs, Pt.cells, Pt.slots] at X6 l6 y6 z6 st6 hQ6
  replace y6 : k6 = 0 := y6
  replace z6 : n6 = 0 := z6
  subst l6 y6 z6
  obtain ⟨rfl, N6q, K6q, F7⟩ := hQ6
  have N6 := Fr.app N1 N6q
  have F8 : Exa Z T6.heap tr "com/example/twigmeter/twigmeter/xml/ElementTree" := F3.keep K6q
  have Z9 : n0 ≤ T6.heap.size := Nat.le_trans Z4 K6q.1
  have K10 : Keep h0 T6.heap (own_rg lo bd) := K5.trans K6q (fun x hx => Or.inl hx)
  have hp11_hok : own_okC (own_cls (own_cls S)) = true := (own_pre_18_4_24_hok lo bd S hlo hok0 hok1 hok2 hok3 hp1_hok hp6_hok)
  obtain ⟨cq11, kq11, q11a, q11b, q11c⟩ := isOf hZ rfl F8
  obtain ⟨_, _, ⟨T11, L11, k11, n11⟩, -, X11, ⟨Lc11, hQ11, l11, y11, z11⟩, st11⟩ := X6.virtualBack hx (y := (⟨"com/example/twigmeter/twigmeter/xml/ElementTree", "close", "()V"⟩ : MethodName)) (z := (⟨"com/example/twigmeter/twigmeter/xml/ElementTree", "close", "()V"⟩ : MethodName)) hown (mvT hZ (hw _ (List.mem_of_getElem? (i := 134) rfl))) (mvT hZ (hw _ (List.mem_of_getElem? (i := 135) rfl))) (notFace_of_selects (args := #[]) (mvT hZ (hw _ (List.mem_of_getElem? (i := 137) rfl)))) (mvT hZ (hw _ (List.mem_of_getElem? (i := 137) rfl))) (mvT hZ (hw _ (List.mem_of_getElem? (i := 136) rfl))) (by decide) (backOf (W := 0) (rm19 l Z a0 hw [] tr lo bd (own_cls (own_cls S)) T6.heap n0 Z9 F7 hlo hp11_hok) hZ (hw _ (List.mem_of_getElem? (i := 138) rfl)) (hw _ (List.mem_of_getElem? (i := 15) rfl)) (by decide) (by decide)) q11a q11c (g := (mkF m 24 #[.val (.ref tr), .val (.int (4 : Int32))] [(.ref tr)])) rfl (by rw [hml]; rfl) (Steps.refl _) (argsL := []) (rest := []) (lenOf pd_2 rfl) rfl (by show 2 * 0 + _ ≤ _; exact Nat.le_of_eq rfl) (hb hby d18_24) (fun _ _ => ⟨rfl, rfl, (by decide : 0 + 0 ≤ _), (by decide : 0 + 0 ≤ _)⟩)
  dsimp only [Pt.U, Pt.locs, Pt.cells, Pt.slots] at X11 l11 y11 z11 st11 hQ11
  replace y11 : k11 = 0 := y11
  replace z11 : n11 = 0 := z11
  subst l11 y11 z11
  obtain ⟨rfl, N11q, K11q, F12⟩ := hQ11
  have N11 := Fr.app N6 N11q
  have F13 : Exa Z T11.heap tr "com/example/twigmeter/twigmeter/xml/ElementTree" := F8.keep K11q
  have Z14 : n0 ≤ T11.heap.size := Nat.le_trans Z9 K11q.1
  have K15 : Keep h0 T11.heap (own_rg lo bd) := K10.trans K11q (fun x hx => Or.inl hx)
  have hp16_hok : own_okC (own_cls (own_cls (own_cls S))) = true := (own_pre_18_4_33_hok lo bd S hlo hok0 hok1 hok2 hok3 hp1_hok hp6_hok hp11_hok)
  obtain ⟨cq16, kq16, q16a, q16b, q16c⟩ := isOf hZ rfl F13
  obtain ⟨_, _, ⟨T16, L16, k16, n16⟩, -, X16, ⟨Lc16, hQ16, l16, y16, z16⟩, st16⟩ := X11.virtualBack hx (y := (⟨"com/example/twigmeter/twigmeter/xml/ElementTree", "close", "()V"⟩ : MethodName)) (z := (⟨"com/example/twigmeter/twigmeter/xml/ElementTree", "close", "()V"⟩ : MethodName)) hown (mvT hZ (hw _ (List.mem_of_getElem? (i := 134) rfl))) (mvT hZ (hw _ (List.mem_of_getElem? (i := 135) rfl))) (notFace_of_selects (args := #[]) (mvT hZ (hw _ (List.mem_of_getElem? (i := 137) rfl)))) (mvT hZ (hw _ (List.mem_of_getElem? (i := 137) rfl))) (mvT hZ (hw _ (List.mem_of_getElem? (i := 136) rfl))) (by decide) (backOf (W := 0) (rm19 l Z a0 hw [] tr lo bd (own_cls (own_cls (own_cls S))) T11.heap n0 Z14 F12 hlo hp16_hok) hZ (hw _ (List.mem_of_getElem? (i := 138) rfl)) (hw _ (List.mem_of_getElem? (i := 15) rfl)) (by decide) (by decide)) q16a q16c (g := (mkF m 33 #[.val (.ref tr), .val (.int (4 : Int32))] [(.ref tr)])) rfl (by rw [hml]; rfl) (Steps.refl _) (argsL := []) (rest := []) (lenOf pd_2 rfl) rfl (by show 2 * 0 + _ ≤ _; exact Nat.le_of_eq rfl) (hb hby d18_33) (fun _ _ => ⟨rfl, rfl, (by decide : 0 + 0 ≤ _), (by decide : 0 + 0 ≤ _)⟩)
  dsimp only [Pt.U, Pt.locs, Pt.cells, Pt.slots] at X16 l16 y16 z16 st16 hQ16
  replace y16 : k16 = 0 := y16
  replace z16 : n16 = 0 := z16
  subst l16 y16 z16
  obtain ⟨rfl, N16q, K16q, F17⟩ := hQ16
  have N16 := Fr.app N11 N16q
  have F18 : Exa Z T16.heap tr "com/example/twigmeter/twigmeter/xml/ElementTree" := F13.keep K16q
  have Z19 : n0 ≤ T16.heap.size := Nat.le_trans Z14 K16q.1
  have K20 : Keep h0 T16.heap (own_rg lo bd) := K15.trans K16q (fun x hx => Or.inl hx)
  obtain ⟨fs, hr, hrun, hended, hW, hsame⟩ := X16.leave (v := none) (fun _ => rfl)
  refine ⟨_, _, pre0 _ ?_, hrun, hended, _, _, rfl, ?_, ⟨_, rfl⟩, hW, hsame.mono (by decide) (by decide)⟩
  · skip
    show Steps p.tables e below (s₁.setTop (mkF m 0 #[.val (.ref tr), .val (.int (4 : Int32))] [])) _
    refine XS.iloadN X0.here hx rfl (hb hby d18_0) rfl ?_
    refine XS.iconst X0.here hx rfl (hb hby d18_1) ?_
    refine XS.icmpNo X0.here hx rfl (hb hby d18_2) rfl (flt (by decide)).1 ?_
    refine XS.aloadN X0.here hx rfl (hb hby d18_5) rfl rfl ?_
    refine st1.trans ?_
    show Steps p.tables e below (T1.setTop (mkF m 9 #[.val (.ref tr), .val (.int (4 : Int32))] [])) _
    refine XS.iloadN X1.here hx rfl (hb hby d18_9) rfl ?_
    refine XS.iconst X1.here hx rfl (hb hby d18_10) ?_
    refine XS.icmpNo X1.here hx rfl (hb hby d18_11) rfl (flt (by decide)).1 ?_
    refine XS.aloadN X1.here hx rfl (hb hby d18_14) rfl rfl ?_
    refine st6.trans ?_
    show Steps p.tables e below (T6.setTop (mkF m 18 #[.val (.ref tr), .val (.int (4 : Int32))] [])) _
    refine XS.iloadN X6.here hx rfl (hb hby d18_18) rfl ?_
    refine XS.iconst X6.here hx rfl (hb hby d18_19) ?_
    refine XS.icmpNo X6.here hx rfl (hb hby d18_20) rfl (flt (by decide)).1 ?_
    refine XS.aloadN X6.here hx rfl (hb hby d18_23) rfl rfl ?_
    refine st11.trans ?_
    show Steps p.tables e below (T11.setTop (mkF m 27 #[.val (.ref tr), .val (.int (4 : Int32))] [])) _
    refine XS.iloadN X11.here hx rfl (hb hby d18_27) rfl ?_
    refine XS.iconst X11.here hx rfl (hb hby d18_28) ?_
    refine XS.icmpNo X11.here hx rfl (hb hby d18_29) rfl (flt (by decide)).1 ?_
    refine XS.aloadN X11.here hx rfl (hb hby d18_32) rfl rfl ?_
    refine st16.trans ?_
    show Steps p.tables e below (T16.setTop (mkF m 36 #[.val (.ref tr), .val (.int (4 : Int32))] [])) _
    exact X16.returnOut hx Bd.returns (hb hby d18_36) hr
  · show Q18_4 Z tr (4 : Int32) lo bd S h0 n0 _ T16.heap _
    exact ⟨rfl, N16, K20, F17⟩
def Q18_5 (Z : State) (tr : Addr) (nn : Int32) (lo : Nat) (bd : Nat) (S : own_S) (h0 : Heap) (n0 : Nat) (v : Option Value) (h : Heap) (L : List Loc) : Prop := v = none ∧ Fr n0 L ∧ Keep h0 h (own_rg lo bd) ∧ own_tr Z h tr lo bd (own_cts nn S)
set_option maxRecDepth 65536 in
set_option maxHeartbeats 40000000 in
theorem rm18_5 (l : Launch) (Z : State) (a0 : Array Value) (hw : ∀ d ∈ tables_1, d.before a0 Z = true) (ws : List Jvm.Cond) (tr : Addr) (nn : Int32) (lo : Nat) (bd : Nat) (S : own_S) (h0 : Heap) (n0 : Nat) (Z0 : n0 ≤ h0.size) (I0 : own_tr Z h0 tr lo bd S) (hlo : n0 ≤ lo) (hnn : nn = (0 : Int32) ∨ nn = (1 : Int32) ∨ nn = (2 : Int32) ∨ nn = (3 : Int32) ∨ nn = (4 : Int32)) (hokc : own_okCs nn S = true) :
    MetFree l (⟨"com/example/twigmeter/twigmeter/workload/ReachBelowPinLaw", "closeTimes", "(Lcom/example/twigmeter/twigmeter/xml/ElementTree;I)V"⟩ : MethodName) (head1 (Jvm.Cond.code (⟨"com/example/twigmeter/twigmeter/workload/ReachBelowPinLaw", "closeTimes", "(Lcom/example/twigmeter/twigmeter/xml/ElementTree;I)V"⟩ : MethodName) method_4_code 2 none :: ws) ({ frames := 2, cells := 0, slots := 0, locals := 40 } : Room)) (fun a U => a = #[(.ref tr), (.int nn)] ∧ Z.Warmed39 U.vm ∧ U.heap = h0) (fun _ _ _ _ _ => True) (fun _ U o U' => ∃ v L, o = .returned v ∧ Q18_5 Z tr nn lo bd S h0 n0 v U'.heap L ∧ FrameEnd U o U' L ({ frames := 2, cells := 0, slots := 0, locals := 40 } : Room).cells ({ frames := 2, cells := 0, slots := 0, locals := 40 } : Room).slots) := by
  rcases hnn with q | q | q | q | q
  · subst q
    simp only [Q18_5, own_cts_0]
    exact rm18 l Z a0 hw ws tr 0 lo bd S h0 n0 Z0 I0 hlo  rfl
  · subst q
    replace hokc := own_okCs_1 hokc
    simp only [Q18_5, own_cts_1]
    exact rm18_1 l Z a0 hw ws tr 1 lo bd S h0 n0 Z0 I0 hlo hokc rfl
  · subst q
    replace hokc := own_okCs_2 hokc
    simp only [Q18_5, own_cts_2]
    exact rm18_2 l Z a0 hw ws tr 2 lo bd S h0 n0 Z0 I0 hlo hokc.1 hokc.2 rfl
  · subst q
    replace hokc := own_okCs_3 hokc
    simp only [Q18_5, own_cts_3]
    exact rm18_3 l Z a0 hw ws tr 3 lo bd S h0 n0 Z0 I0 hlo hokc.1 hokc.2.1 hokc.2.2 rfl
  · subst q
    replace hokc := own_okCs_4 hokc
    simp only [Q18_5, own_cts_4]
    exact rm18_4 l Z a0 hw ws tr 4 lo bd S h0 n0 Z0 I0 hlo hokc.1 hokc.2.1 hokc.2.2.1 hokc.2.2.2 rfl
theorem d17_0 : decode method_3_code 0 = .ok (.aload_n 0, 1) := by decide +kernel
theorem d17_1 : decode method_3_code 1 = .ok (.iload_n 1, 1) := by decide +kernel
theorem d17_2 : decode method_3_code 2 = .ok (.invokestatic 29, 3) := by decide +kernel
theorem d17_5 : decode method_3_code 5 = .ok (.aload_n 0, 1) := by decide +kernel
theorem d17_6 : decode method_3_code 6 = .ok (.iconst 0, 1) := by decide +kernel
theorem d17_7 : decode method_3_code 7 = .ok (.iconst 0, 1) := by decide +kernel
theorem d17_8 : decode method_3_code 8 = .ok (.invokevirtual 21, 3) := by decide +kernel
theorem d17_11 : decode method_3_code 11 = .ok (.pop, 1) := by decide +kernel
theorem d17_12 : decode method_3_code 12 = .ok (.return_, 1) := by decide +kernel
theorem pn_17 : plainName "com/example/twigmeter/twigmeter/workload/ReachBelowPinLaw" = true := by first | (simp [plainName, overriddenIn]; done) | decide +kernel
theorem pd_6 : parseMethodDescriptor "(Lcom/example/twigmeter/twigmeter/xml/ElementTree;I)V" = some ⟨[(.object "com/example/twigmeter/twigmeter/xml/ElementTree"), .int], none⟩ := by decide +kernel
theorem pd_7 : parseMethodDescriptor "(II)I" = some ⟨[.int, .int], some .int⟩ := by decide +kernel
theorem ef_17 (m : MethodId) (x0 : Addr) (x1 : Int32) : entryFrame m #[(.ref x0), (.int x1)] 2 = mkF m 0 #[.val (.ref x0), .val (.int x1)] [] := by first | (simp [entryFrame, mkF, argsToLocals, Value.category]; done) | rfl
def Q17 (Z : State) (tr : Addr) (nn : Int32) (lo : Nat) (bd : Nat) (S : own_S) (h0 : Heap) (n0 : Nat) (v : Option Value) (h : Heap) (L : List Loc) : Prop := v = none ∧ Fr n0 L ∧ Keep h0 h (own_rg lo bd) ∧ own_tr Z h tr lo bd (own_stp nn S)
set_option maxRecDepth 65536 in
set_option maxHeartbeats 40000000 in
theorem rm17 (l : Launch) (Z : State) (a0 : Array Value) (hw : ∀ d ∈ tables_1, d.before a0 Z = true) (ws : List Jvm.Cond) (tr : Addr) (nn : Int32) (lo : Nat) (bd : Nat) (S : own_S) (h0 : Heap) (n0 : Nat) (Z0 : n0 ≤ h0.size) (I0 : own_tr Z h0 tr lo bd S) (hlo : n0 ≤ lo) (hnn : nn = (0 : Int32) ∨ nn = (1 : Int32) ∨ nn = (2 : Int32) ∨ nn = (3 : Int32) ∨ nn = (4 : Int32)) (hokc : own_okCs nn S = true) (hoko : own_okO (own_cts nn S) = true) :
    MetFree l (⟨"com/example/twigmeter/twigmeter/workload/ReachBelowPinLaw", "step", "(Lcom/example/twigmeter/twigmeter/xml/ElementTree;I)V"⟩ : MethodName) (head1 (Jvm.Cond.code (⟨"com/example/twigmeter/twigmeter/workload/ReachBelowPinLaw", "step", "(Lcom/example/twigmeter/twigmeter/xml/ElementTree;I)V"⟩ : MethodName) method_3_code 2 none :: ws) ({ frames := 3, cells := 0, slots := 0, locals := 53 } : Room)) (fun a U => a = #[(.ref tr), (.int nn)] ∧ Z.Warmed39 U.vm ∧ U.heap = h0) (fun _ _ _ _ _ => True) (fun _ U o U' => ∃ v L, o = .returned v ∧ Q17 Z tr nn lo bd S h0 n0 v U'.heap L ∧ FrameEnd U o U' L ({ frames := 3, cells := 0, slots := 0, locals := 53 } : Room).cells ({ frames := 3, cells := 0, slots := 0, locals := 53 } : Room).slots) := by
  refine MetFree.of_bodySF (plainFor_of_name pn_17) hisR ?_
  intro p e s m args below meth c s₁ Bd hml0 hP hK
  obtain ⟨rfl, hZ, hh⟩ := hP
  have hx := Bd.exec
  have hby := Bd.bytes
  have hml : c.maxLocals = 2 := hml0
  have hown : s.vm.findClass "com/example/twigmeter/twigmeter/workload/ReachBelowPinLaw" = some m.cls := findClass_of_methodNamed Bd.named
  have hnm := (name_of_methodNamed Bd.named Bd.method).1
  have X0 : Stand p l e ({ frames := 3, cells := 0, slots := 0, locals := 53 } : Room) s m #[(.ref tr), (.int nn)] below meth c s₁ [] 0 0 := Stand.of_body Bd
  have e0 : s₁.heap = h0 := by rw [← hh, Bd.state]; rfl
  have N0 := Fr.nil n0
  have K0 : Keep h0 h0 (own_rg lo bd) := Keep.refl h0 _
  have pre0 : ∀ tq, Steps p.tables e below (s₁.setTop (mkF m 0 #[.val (.ref tr), .val (.int nn)] [])) tq → Steps p.tables e below (s₁.setTop (entryFrame m #[(.ref tr), (.int nn)] 2)) tq := fun tq kq => castTop (ef_17 m tr nn) kq
  have Et := own_tr.exa I0
  obtain ⟨_, _, ⟨T1, L1, k1, n1⟩, -, X1, ⟨Lc1, hQ1, l1, y1, z1⟩, st1⟩ := Jvm.LawKit.callS X0 hx (y := (⟨"com/example/twigmeter/twigmeter/workload/ReachBelowPinLaw", "closeTimes", "(Lcom/example/twigmeter/twigmeter/xml/ElementTree;I)V"⟩ : MethodName)) hown (mvT hZ (hw _ (List.mem_of_getElem? (i := 131) rfl))) (mvT hZ (hw _ (List.mem_of_getElem? (i := 132) rfl))) (mvT hZ (hw _ (List.mem_of_getElem? (i := 5) rfl))) (mvT hZ (hw _ (List.mem_of_getElem? (i := 133) rfl))) (by decide) (backOf (W := 0) (rm18_5 l Z a0 hw [] tr nn lo bd S h0 n0 Z0 I0 hlo hnn hokc) hZ (hw _ (List.mem_of_getElem? (i := 133) rfl)) (hw _ (List.mem_of_getElem? (i := 5) rfl)) (by decide) (by decide)) (g := (mkF m 2 #[.val (.ref tr), .val (.int nn)] [(.int nn), (.ref tr)])) rfl (by rw [hml]; rfl) (argsL := [(.ref tr), (.int nn)]) (rest := []) (lenOf pd_6 rfl) rfl (by show 2 * 0 + _ ≤ _; exact Nat.le_of_eq rfl) (hb hby d17_2) (fun _ _ => ⟨rfl, e0, (by decide : 0 + 0 ≤ _), (by decide : 0 + 0 ≤ _)⟩)
  dsimp only [Pt.U, Pt.locs, Pt.cells, Pt.slots] at X1 l1 y1 z1 st1 hQ1
  replace y1 : k1 = 0 := y1
  replace z1 : n1 = 0 := z1
  subst l1 y1 z1
  obtain ⟨rfl, N1q, K1q, F2⟩ := hQ1
  have N1 := Fr.app N0 N1q
  have F3 : Exa Z T1.heap tr "com/example/twigmeter/twigmeter/xml/ElementTree" := Et.keep K1q
  have Z4 : n0 ≤ T1.heap.size := Nat.le_trans Z0 K1q.1
  have K5 : Keep h0 T1.heap (own_rg lo bd) := K0.trans K1q (fun x hx => Or.inl hx)
  obtain ⟨cq6, kq6, q6a, q6b, q6c⟩ := isOf hZ rfl F3
  obtain ⟨_, _, ⟨T6, L6, k6, n6⟩, -, X6, ⟨Lc6, hQ6, l6, y6, z6⟩, st6⟩ := X1.virtualBack hx (y := (⟨"com/example/twigmeter/twigmeter/xml/ElementTree", "open", "(II)I"⟩ : MethodName)) (z := (⟨"com/example/twigmeter/twigmeter/xml/ElementTree", "open", "(II)I"⟩ : MethodName)) hown (mvT hZ (hw _ (List.mem_of_getElem? (i := 111) rfl))) (mvT hZ (hw _ (List.mem_of_getElem? (i := 112) rfl))) (notFace_of_selects (args := #[]) (mvT hZ (hw _ (List.mem_of_getElem? (i := 114) rfl)))) (mvT hZ (hw _ (List.mem_of_getElem? (i := 114) rfl))) (mvT hZ (hw _ (List.mem_of_getElem? (i := 113) rfl))) (by decide) (backOf (W := 0) (rm14 l Z a0 hw [] tr (0 : Int32) (0 : Int32) lo bd (own_cts nn S) T1.heap n0 Z4 F2 hlo hoko) hZ (hw _ (List.mem_of_getElem? (i := 115) rfl)) (hw _ (List.mem_of_getElem? (i := 15) rfl)) (by decide) (by decide)) q6a q6c (g := (mkF m 8 #[.val (.ref tr), .val (.int nn)] [(.int (0 : Int32)), (.int (0 : Int32)), (.ref tr)])) rfl (by rw [hml]; rfl) (Steps.refl _) (argsL := [(.int (0 : Int32)), (.int (0 : Int32))]) (rest := []) (lenOf pd_7 rfl) rfl (by show 2 * 0 + _ ≤ _; exact Nat.le_of_eq rfl) (hb hby d17_8) (fun _ _ => ⟨rfl, rfl, (by decide : 0 + 0 ≤ _), (by decide : 0 + 0 ≤ _)⟩)
  dsimp only [Pt.U, Pt.locs, Pt.cells, Pt.slots] at X6 l6 y6 z6 st6 hQ6
  replace y6 : k6 = 0 := y6
  replace z6 : n6 = 0 := z6
  subst l6 y6 z6
  obtain ⟨rfl, N6q, K6q, F7⟩ := hQ6
  have N6 := Fr.app N1 N6q
  have F8 : Exa Z T6.heap tr "com/example/twigmeter/twigmeter/xml/ElementTree" := F3.keep K6q
  have Z9 : n0 ≤ T6.heap.size := Nat.le_trans Z4 K6q.1
  have K10 : Keep h0 T6.heap (own_rg lo bd) := K5.trans K6q (fun x hx => Or.inl hx)
  obtain ⟨r8, hr8⟩ : ∃ z_q : Int32, z_q = (own_cts nn S).2.2.1 := ⟨_, rfl⟩
  obtain ⟨fs, hr, hrun, hended, hW, hsame⟩ := X6.leave (v := none) (fun _ => rfl)
  refine ⟨_, _, pre0 _ ?_, hrun, hended, _, _, rfl, ?_, ⟨_, rfl⟩, hW, hsame.mono (by decide) (by decide)⟩
  · skip
    show Steps p.tables e below (s₁.setTop (mkF m 0 #[.val (.ref tr), .val (.int nn)] [])) _
    refine XS.aloadN X0.here hx rfl (hb hby d17_0) rfl rfl ?_
    refine XS.iloadN X0.here hx rfl (hb hby d17_1) rfl ?_
    refine st1 _ ?_
    show Steps p.tables e below (T1.setTop (mkF m 5 #[.val (.ref tr), .val (.int nn)] [])) _
    refine XS.aloadN X1.here hx rfl (hb hby d17_5) rfl rfl ?_
    refine XS.iconst X1.here hx rfl (hb hby d17_6) ?_
    refine XS.iconst X1.here hx rfl (hb hby d17_7) ?_
    refine st6.trans ?_
    show Steps p.tables e below (T6.setTop (mkF m 11 #[.val (.ref tr), .val (.int nn)] [(.int (own_cts nn S).2.2.1)])) _
    rw [← hr8]
    show Steps p.tables e below (T6.setTop (mkF m 11 #[.val (.ref tr), .val (.int nn)] [(.int r8)])) _
    refine XS.pop X6.here hx rfl (hb hby d17_11) rfl rfl ?_
    show Steps p.tables e below (T6.setTop (mkF m 12 #[.val (.ref tr), .val (.int nn)] [])) _
    exact X6.returnOut hx Bd.returns (hb hby d17_12) hr
  · show Q17 Z tr nn lo bd S h0 n0 _ T6.heap _
    exact ⟨rfl, N6, K10, F7⟩
theorem d23_0 : decode prog_64_method_7_code 0 = .ok (.aload_n 0, 1) := by decide +kernel
theorem d23_1 : decode prog_64_method_7_code 1 = .ok (.getfield 19, 3) := by decide +kernel
theorem d23_4 : decode prog_64_method_7_code 4 = .ok (.invokevirtual 44, 3) := by decide +kernel
theorem d23_7 : decode prog_64_method_7_code 7 = .ok (.ireturn, 1) := by decide +kernel
theorem pn_23 : plainName "com/example/twigmeter/twigmeter/xml/ElementTree" = true := by first | (simp [plainName, overriddenIn]; done) | decide +kernel
theorem ef_23 (m : MethodId) (x0 : Addr) : entryFrame m #[(.ref x0)] 1 = mkF m 0 #[.val (.ref x0)] [] := by first | (simp [entryFrame, mkF, argsToLocals, Value.category]; done) | rfl
def Q23 (Z : State) (tr : Addr) (lo : Nat) (bd : Nat) (S : own_S) (h0 : Heap) (n0 : Nat) (v : Option Value) (h : Heap) (L : List Loc) : Prop := v = some (.int S.2.2.1) ∧ Fr n0 L ∧ h = h0
set_option maxRecDepth 65536 in
set_option maxHeartbeats 40000000 in
theorem rm23 (l : Launch) (Z : State) (a0 : Array Value) (hw : ∀ d ∈ tables_1, d.before a0 Z = true) (ws : List Jvm.Cond) (tr : Addr) (lo : Nat) (bd : Nat) (S : own_S) (h0 : Heap) (n0 : Nat) (Z0 : n0 ≤ h0.size) (I0 : own_tr Z h0 tr lo bd S) :
    MetFree l (⟨"com/example/twigmeter/twigmeter/xml/ElementTree", "size", "()I"⟩ : MethodName) (head1 (Jvm.Cond.code (⟨"com/example/twigmeter/twigmeter/xml/ElementTree", "size", "()I"⟩ : MethodName) prog_64_method_7_code 1 (some .int) :: ws) ({ frames := 1, cells := 0, slots := 0, locals := 12 } : Room)) (fun a U => a = #[(.ref tr)] ∧ Z.Warmed39 U.vm ∧ U.heap = h0) (fun _ _ _ _ _ => True) (fun _ U o U' => ∃ v L, o = .returned v ∧ Q23 Z tr lo bd S h0 n0 v U'.heap L ∧ FrameEnd U o U' L ({ frames := 1, cells := 0, slots := 0, locals := 12 } : Room).cells ({ frames := 1, cells := 0, slots := 0, locals := 12 } : Room).slots) := by
  refine MetFree.of_bodySF (plainFor_of_name pn_23) hisR ?_
  intro p e s m args below meth c s₁ Bd hml0 hP hK
  obtain ⟨rfl, hZ, hh⟩ := hP
  have hx := Bd.exec
  have hby := Bd.bytes
  have hml : c.maxLocals = 1 := hml0
  have hown : s.vm.findClass "com/example/twigmeter/twigmeter/xml/ElementTree" = some m.cls := findClass_of_methodNamed Bd.named
  have hnm := (name_of_methodNamed Bd.named Bd.method).1
  have X0 : Stand p l e ({ frames := 1, cells := 0, slots := 0, locals := 12 } : Room) s m #[(.ref tr)] below meth c s₁ [] 0 0 := Stand.of_body Bd
  have e0 : s₁.heap = h0 := by rw [← hh, Bd.state]; rfl
  have N0 := Fr.nil n0
  have K0 : Keep h0 h0 [] := Keep.refl h0 _
  have pre0 : ∀ tq, Steps p.tables e below (s₁.setTop (mkF m 0 #[.val (.ref tr)] [])) tq → Steps p.tables e below (s₁.setTop (entryFrame m #[(.ref tr)] 1)) tq := fun tq kq => castTop (ef_23 m tr) kq
  obtain ⟨nm, vn, at_, va, en, ve, op, vo, xn, xa, l1, l2, o1, o2, o3, o4, o5, o6, o7, o8, o9, o10, q11, f1, f2, f3, f4, f5, ⟨i0e, i0v, i0s, i0a⟩, ⟨i1e, i1v, i1s, i1a⟩, ⟨i2e, i2v, i2s, i2a⟩, ⟨i3e, i3v, i3s, i3a⟩⟩ := id I0
  have ne_tr_nm : tr ≠ nm := own_ne (by omega)
  have ne_tr_vn : tr ≠ vn := own_ne (by omega)
  have ne_tr_at_ : tr ≠ at_ := own_ne (by omega)
  have ne_tr_va : tr ≠ va := own_ne (by omega)
  have ne_tr_en : tr ≠ en := own_ne (by omega)
  have ne_tr_ve : tr ≠ ve := own_ne (by omega)
  have ne_tr_op : tr ≠ op := own_ne (by omega)
  have ne_tr_vo : tr ≠ vo := own_ne (by omega)
  have ne_nm_vn : nm ≠ vn := own_ne (by omega)
  have ne_nm_at_ : nm ≠ at_ := own_ne (by omega)
  have ne_nm_va : nm ≠ va := own_ne (by omega)
  have ne_nm_en : nm ≠ en := own_ne (by omega)
  have ne_nm_ve : nm ≠ ve := own_ne (by omega)
  have ne_nm_op : nm ≠ op := own_ne (by omega)
  have ne_nm_vo : nm ≠ vo := own_ne (by omega)
  have ne_vn_at_ : vn ≠ at_ := own_ne (by omega)
  have ne_vn_va : vn ≠ va := own_ne (by omega)
  have ne_vn_en : vn ≠ en := own_ne (by omega)
  have ne_vn_ve : vn ≠ ve := own_ne (by omega)
  have ne_vn_op : vn ≠ op := own_ne (by omega)
  have ne_vn_vo : vn ≠ vo := own_ne (by omega)
  have ne_at__va : at_ ≠ va := own_ne (by omega)
  have ne_at__en : at_ ≠ en := own_ne (by omega)
  have ne_at__ve : at_ ≠ ve := own_ne (by omega)
  have ne_at__op : at_ ≠ op := own_ne (by omega)
  have ne_at__vo : at_ ≠ vo := own_ne (by omega)
  have ne_va_en : va ≠ en := own_ne (by omega)
  have ne_va_ve : va ≠ ve := own_ne (by omega)
  have ne_va_op : va ≠ op := own_ne (by omega)
  have ne_va_vo : va ≠ vo := own_ne (by omega)
  have ne_en_ve : en ≠ ve := own_ne (by omega)
  have ne_en_op : en ≠ op := own_ne (by omega)
  have ne_en_vo : en ≠ vo := own_ne (by omega)
  have ne_ve_op : ve ≠ op := own_ne (by omega)
  have ne_ve_vo : ve ≠ vo := own_ne (by omega)
  have ne_op_vo : op ≠ vo := own_ne (by omega)
  obtain ⟨T1, X1, e1, st1⟩ := getF X0 hx hZ hown (host := "") (Or.inl (hw _ (List.mem_of_getElem? (i := 103) rfl))) Via.refl e0 f2 (g := (mkF m 1 #[.val (.ref tr)] [(.ref tr)])) rfl rfl (hb hby d23_1)
  obtain ⟨cq2, kq2, q2a, q2b, q2c⟩ := isOf hZ e1 i0e
  obtain ⟨_, _, ⟨T2, L2, k2, n2⟩, -, X2, ⟨Lc2, hQ2, l2, y2, z2⟩, st2⟩ := X1.virtualBack hx (y := (⟨"com/example/twigmeter/twigmeter/xml/IntList", "size", "()I"⟩ : MethodName)) (z := (⟨"com/example/twigmeter/twigmeter/xml/IntList", "size", "()I"⟩ : MethodName)) hown (mvT hZ (hw _ (List.mem_of_getElem? (i := 116) rfl))) (mvT hZ (hw _ (List.mem_of_getElem? (i := 117) rfl))) (notFace_of_selects (args := #[]) (mvT hZ (hw _ (List.mem_of_getElem? (i := 119) rfl)))) (mvT hZ (hw _ (List.mem_of_getElem? (i := 119) rfl))) (mvT hZ (hw _ (List.mem_of_getElem? (i := 118) rfl))) (by decide) (backOf (W := 0) (rm15 l Z a0 hw [] nm S.2.2.1 h0 n0 Z0 i0s) hZ (hw _ (List.mem_of_getElem? (i := 120) rfl)) (hw _ (List.mem_of_getElem? (i := 96) rfl)) (by decide) (by decide)) q2a q2c (g := (mkF m 4 #[.val (.ref tr)] [(.ref nm)])) rfl (by rw [hml]; rfl) (Steps.refl _) (argsL := []) (rest := []) (lenOf pd_3 rfl) rfl (by show 2 * 0 + _ ≤ _; exact Nat.le_of_eq rfl) (hb hby d23_4) (fun _ _ => ⟨rfl, e1, (by decide : 0 + 0 ≤ _), (by decide : 0 + 0 ≤ _)⟩)
  dsimp only [Pt.U, Pt.locs, Pt.cells, Pt.slots] at X2 l2 y2 z2 st2 hQ2
  replace y2 : k2 = 0 := y2
  replace z2 : n2 = 0 := z2
  subst l2 y2 z2
  obtain ⟨rfl, N2q, e2⟩ := hQ2
  have N2 := Fr.app N0 N2q
  obtain ⟨fs, hr, hrun, hended, hW, hsame⟩ := X2.leave (v := some (Value.int S.2.2.1)) (fun h => by rw [Bd.returns] at h; cases h)
  refine ⟨_, _, pre0 _ ?_, hrun, hended, _, _, rfl, ?_, ⟨_, rfl⟩, hW, hsame.mono (by decide) (by decide)⟩
  · skip
    show Steps p.tables e below (s₁.setTop (mkF m 0 #[.val (.ref tr)] [])) _
    refine XS.aloadN X0.here hx rfl (hb hby d23_0) rfl rfl ?_
    refine st1 _ ?_
    show Steps p.tables e below (T1.setTop (mkF m 4 #[.val (.ref tr)] [(.ref nm)])) _
    refine st2.trans ?_
    show Steps p.tables e below (T2.setTop (mkF m 7 #[.val (.ref tr)] [(.int S.2.2.1)])) _
    exact retI X2 hx Bd.returns (hb hby d23_7) hr
  · show Q23 Z tr lo bd S h0 n0 _ T2.heap _
    rw [e2]
    exact ⟨rfl, N2, rfl⟩
theorem d24_0 : decode prog_66_method_8_code 0 = .ok (.aload_n 0, 1) := by decide +kernel
theorem d24_1 : decode prog_66_method_8_code 1 = .ok (.getfield 13, 3) := by decide +kernel
theorem d24_4 : decode prog_66_method_8_code 4 = .ok (.ifCond .ne 7, 3) := by decide +kernel
theorem d24_7 : decode prog_66_method_8_code 7 = .ok (.iconst 1, 1) := by decide +kernel
theorem d24_8 : decode prog_66_method_8_code 8 = .ok (.goto 4, 3) := by decide +kernel
theorem d24_11 : decode prog_66_method_8_code 11 = .ok (.iconst 0, 1) := by decide +kernel
theorem d24_12 : decode prog_66_method_8_code 12 = .ok (.ireturn, 1) := by decide +kernel
theorem pn_24 : plainName "com/example/twigmeter/twigmeter/xml/IntList" = true := by first | (simp [plainName, overriddenIn]; done) | decide +kernel
theorem ef_24 (m : MethodId) (x0 : Addr) : entryFrame m #[(.ref x0)] 1 = mkF m 0 #[.val (.ref x0)] [] := by first | (simp [entryFrame, mkF, argsToLocals, Value.category]; done) | rfl
def Q24 (Z : State) (ob : Addr) (sz : Int32) (h0 : Heap) (n0 : Nat) (v : Option Value) (h : Heap) (L : List Loc) : Prop := v = some (.int (if sz = (0 : Int32) then (1 : Int32) else (0 : Int32))) ∧ Fr n0 L ∧ h = h0
set_option maxRecDepth 65536 in
set_option maxHeartbeats 40000000 in
theorem rm24 (l : Launch) (Z : State) (a0 : Array Value) (hw : ∀ d ∈ tables_1, d.before a0 Z = true) (ws : List Jvm.Cond) (ob : Addr) (sz : Int32) (h0 : Heap) (n0 : Nat) (Z0 : n0 ≤ h0.size) (I0 : Fld Z h0 ob "com/example/twigmeter/twigmeter/xml/IntList" "size" "I" (.int sz)) :
    MetFree l (⟨"com/example/twigmeter/twigmeter/xml/IntList", "isEmpty", "()Z"⟩ : MethodName) (head1 (Jvm.Cond.code (⟨"com/example/twigmeter/twigmeter/xml/IntList", "isEmpty", "()Z"⟩ : MethodName) prog_66_method_8_code 1 (some .boolean) :: ws) ({ frames := 0, cells := 0, slots := 0, locals := 0 } : Room)) (fun a U => a = #[(.ref ob)] ∧ Z.Warmed39 U.vm ∧ U.heap = h0) (fun _ _ _ _ _ => True) (fun _ U o U' => ∃ v L, o = .returned v ∧ Q24 Z ob sz h0 n0 v U'.heap L ∧ FrameEnd U o U' L ({ frames := 0, cells := 0, slots := 0, locals := 0 } : Room).cells ({ frames := 0, cells := 0, slots := 0, locals := 0 } : Room).slots) := by
  refine MetFree.of_bodySF (plainFor_of_name pn_24) hisR ?_
  intro p e s m args below meth c s₁ Bd hml0 hP hK
  obtain ⟨rfl, hZ, hh⟩ := hP
  have hx := Bd.exec
  have hby := Bd.bytes
  have hml : c.maxLocals = 1 := hml0
  have hown : s.vm.findClass "com/example/twigmeter/twigmeter/xml/IntList" = some m.cls := findClass_of_methodNamed Bd.named
  have hnm := (name_of_methodNamed Bd.named Bd.method).1
  have X0 : Stand p l e ({ frames := 0, cells := 0, slots := 0, locals := 0 } : Room) s m #[(.ref ob)] below meth c s₁ [] 0 0 := Stand.of_body Bd
  have e0 : s₁.heap = h0 := by rw [← hh, Bd.state]; rfl
  have N0 := Fr.nil n0
  have K0 : Keep h0 h0 [] := Keep.refl h0 _
  have pre0 : ∀ tq, Steps p.tables e below (s₁.setTop (mkF m 0 #[.val (.ref ob)] [])) tq → Steps p.tables e below (s₁.setTop (entryFrame m #[(.ref ob)] 1)) tq := fun tq kq => castTop (ef_24 m ob) kq
  obtain ⟨T1, X1, e1, st1⟩ := getF X0 hx hZ hown (host := "") (Or.inl (hw _ (List.mem_of_getElem? (i := 121) rfl))) Via.refl e0 I0 (g := (mkF m 1 #[.val (.ref ob)] [(.ref ob)])) rfl rfl (hb hby d24_1)
  obtain ⟨m12, hm12⟩ : ∃ z_q : Int32, z_q = (if sz = (0 : Int32) then (1 : Int32) else (0 : Int32)) := ⟨_, rfl⟩
  have pre3 : ∀ tq, Steps p.tables e below (T1.setTop (mkF m 12 #[.val (.ref ob)] [(.int m12)])) tq → Steps p.tables e below (s₁.setTop (entryFrame m #[(.ref ob)] 1)) tq := by
    intro tq kt
    refine pre0 _ ?_
    show Steps p.tables e below (s₁.setTop (mkF m 0 #[.val (.ref ob)] [])) _
    refine XS.aloadN X0.here hx rfl (hb hby d24_0) rfl rfl ?_
    refine st1 _ ?_
    by_cases d2 : sz = (0 : Int32)
    · skip
      show Steps p.tables e below (T1.setTop (mkF m 4 #[.val (.ref ob)] [(.int sz)])) _
      refine XS.ifNo X1.here hx rfl (hb hby d24_4) rfl ((if0 _ _).trans (teq d2).2) ?_
      refine XS.iconst X1.here hx rfl (hb hby d24_7) ?_
      refine XS.goto X1.here hx rfl (pc0 := 8) (pc' := 12) rfl (hb hby d24_8) (by decide) (by decide) ?_
      show Steps p.tables e below (T1.setTop (mkF m 12 #[.val (.ref ob)] [(.int (1 : Int32))])) _
      exact castTop (by simp only [hm12, if_pos d2]) kt
    · skip
      show Steps p.tables e below (T1.setTop (mkF m 4 #[.val (.ref ob)] [(.int sz)])) _
      refine XS.ifYes X1.here hx rfl (pc0 := 4) (pc' := 11) rfl (hb hby d24_4) rfl ((if0 _ _).trans (feq d2).2) (by decide) (by decide) ?_
      refine XS.iconst X1.here hx rfl (hb hby d24_11) ?_
      show Steps p.tables e below (T1.setTop (mkF m 12 #[.val (.ref ob)] [(.int (0 : Int32))])) _
      exact castTop (by simp only [hm12, if_neg d2]) kt
  obtain ⟨fs, hr, hrun, hended, hW, hsame⟩ := X1.leave (v := some (Value.int (nar .boolean m12))) (fun h => by rw [Bd.returns] at h; cases h)
  have hres4 : (nar .boolean m12) = (if sz = (0 : Int32) then (1 : Int32) else (0 : Int32)) := by subst_vars; split <;> rfl
  refine ⟨_, _, pre3 _ ?_, hrun, hended, _, _, rfl, ?_, ⟨_, rfl⟩, hW, hsame.mono (by decide) (by decide)⟩
  · skip
    show Steps p.tables e below (T1.setTop (mkF m 12 #[.val (.ref ob)] [(.int m12)])) _
    exact retN X1 hx (t := .boolean) Bd.returns (by simp) (hb hby d24_12) hr
  · show Q24 Z ob sz h0 n0 _ T1.heap _
    rw [e1]
    exact ⟨congrArg (fun z => some (Value.int z)) hres4, N0, rfl⟩
theorem d25_0 : decode prog_66_method_6_code 0 = .ok (.aload_n 0, 1) := by decide +kernel
theorem d25_1 : decode prog_66_method_6_code 1 = .ok (.getfield 7, 3) := by decide +kernel
theorem d25_4 : decode prog_66_method_6_code 4 = .ok (.aload_n 0, 1) := by decide +kernel
theorem d25_5 : decode prog_66_method_6_code 5 = .ok (.getfield 13, 3) := by decide +kernel
theorem d25_8 : decode prog_66_method_6_code 8 = .ok (.iconst 1, 1) := by decide +kernel
theorem d25_9 : decode prog_66_method_6_code 9 = .ok (.isub, 1) := by decide +kernel
theorem d25_10 : decode prog_66_method_6_code 10 = .ok (.iaload, 1) := by decide +kernel
theorem d25_11 : decode prog_66_method_6_code 11 = .ok (.ireturn, 1) := by decide +kernel
theorem pn_25 : plainName "com/example/twigmeter/twigmeter/xml/IntList" = true := by first | (simp [plainName, overriddenIn]; done) | decide +kernel
theorem ef_25 (m : MethodId) (x0 : Addr) : entryFrame m #[(.ref x0)] 1 = mkF m 0 #[.val (.ref x0)] [] := by first | (simp [entryFrame, mkF, argsToLocals, Value.category]; done) | rfl
theorem own_inx_25_10 (xs : List Int32) (sz : Int32) (hin : own_inx xs (sz - (1 : Int32)) = true) : own_inx xs (sz - (1 : Int32)) = true := hin
def Q25 (Z : State) (ob : Addr) (vr : Addr) (xs : List Int32) (sz : Int32) (h0 : Heap) (n0 : Nat) (v : Option Value) (h : Heap) (L : List Loc) : Prop := v = some (.int (own_rd xs (sz - (1 : Int32)))) ∧ Fr n0 L ∧ h = h0
set_option maxRecDepth 65536 in
set_option maxHeartbeats 40000000 in
theorem rm25 (l : Launch) (Z : State) (a0 : Array Value) (hw : ∀ d ∈ tables_1, d.before a0 Z = true) (ws : List Jvm.Cond) (ob : Addr) (vr : Addr) (xs : List Int32) (sz : Int32) (h0 : Heap) (n0 : Nat) (Z0 : n0 ≤ h0.size) (I0 : Fld Z h0 ob "com/example/twigmeter/twigmeter/xml/IntList" "values" "[I" (.ref vr)) (I1 : Fld Z h0 ob "com/example/twigmeter/twigmeter/xml/IntList" "size" "I" (.int sz)) (I2 : own_ia Z h0 vr xs) (hin : own_inx xs (sz - (1 : Int32)) = true) :
    MetFree l (⟨"com/example/twigmeter/twigmeter/xml/IntList", "last", "()I"⟩ : MethodName) (head1 (Jvm.Cond.code (⟨"com/example/twigmeter/twigmeter/xml/IntList", "last", "()I"⟩ : MethodName) prog_66_method_6_code 1 (some .int) :: ws) ({ frames := 0, cells := 0, slots := 0, locals := 0 } : Room)) (fun a U => a = #[(.ref ob)] ∧ Z.Warmed39 U.vm ∧ U.heap = h0) (fun _ _ _ _ _ => True) (fun _ U o U' => ∃ v L, o = .returned v ∧ Q25 Z ob vr xs sz h0 n0 v U'.heap L ∧ FrameEnd U o U' L ({ frames := 0, cells := 0, slots := 0, locals := 0 } : Room).cells ({ frames := 0, cells := 0, slots := 0, locals := 0 } : Room).slots) := by
  refine MetFree.of_bodySF (plainFor_of_name pn_25) hisR ?_
  intro p e s m args below meth c s₁ Bd hml0 hP hK
  obtain ⟨rfl, hZ, hh⟩ := hP
  have hx := Bd.exec
  have hby := Bd.bytes
  have hml : c.maxLocals = 1 := hml0
  have hown : s.vm.findClass "com/example/twigmeter/twigmeter/xml/IntList" = some m.cls := findClass_of_methodNamed Bd.named
  have hnm := (name_of_methodNamed Bd.named Bd.method).1
  have X0 : Stand p l e ({ frames := 0, cells := 0, slots := 0, locals := 0 } : Room) s m #[(.ref ob)] below meth c s₁ [] 0 0 := Stand.of_body Bd
  have e0 : s₁.heap = h0 := by rw [← hh, Bd.state]; rfl
  have N0 := Fr.nil n0
  have K0 : Keep h0 h0 [] := Keep.refl h0 _
  have pre0 : ∀ tq, Steps p.tables e below (s₁.setTop (mkF m 0 #[.val (.ref ob)] [])) tq → Steps p.tables e below (s₁.setTop (entryFrame m #[(.ref ob)] 1)) tq := fun tq kq => castTop (ef_25 m ob) kq
  obtain ⟨T1, X1, e1, st1⟩ := getF X0 hx hZ hown (host := "") (Or.inl (hw _ (List.mem_of_getElem? (i := 101) rfl))) Via.refl e0 I0 (g := (mkF m 1 #[.val (.ref ob)] [(.ref ob)])) rfl rfl (hb hby d25_1)
  obtain ⟨T2, X2, e2, st2⟩ := getF X1 hx hZ hown (host := "") (Or.inl (hw _ (List.mem_of_getElem? (i := 121) rfl))) Via.refl e1 I1 (g := (mkF m 5 #[.val (.ref ob)] [(.ref ob), (.ref vr)])) rfl rfl (hb hby d25_5)
  obtain ⟨cl3, Ar3, hin3, hat3⟩ := I2.get (j := (sz - (1 : Int32))) (own_inx_25_10 xs sz hin)
  obtain ⟨fs, hr, hrun, hended, hW, hsame⟩ := X2.leave (v := some (Value.int (own_rd xs (sz - (1 : Int32))))) (fun h => by rw [Bd.returns] at h; cases h)
  refine ⟨_, _, pre0 _ ?_, hrun, hended, _, _, rfl, ?_, ⟨_, rfl⟩, hW, hsame.mono (by decide) (by decide)⟩
  · skip
    show Steps p.tables e below (s₁.setTop (mkF m 0 #[.val (.ref ob)] [])) _
    refine XS.aloadN X0.here hx rfl (hb hby d25_0) rfl rfl ?_
    refine st1 _ ?_
    show Steps p.tables e below (T1.setTop (mkF m 4 #[.val (.ref ob)] [(.ref vr)])) _
    refine XS.aloadN X1.here hx rfl (hb hby d25_4) rfl rfl ?_
    refine st2 _ ?_
    show Steps p.tables e below (T2.setTop (mkF m 8 #[.val (.ref ob)] [(.int sz), (.ref vr)])) _
    refine XS.iconst X2.here hx rfl (hb hby d25_8) ?_
    refine XS.isub X2.here hx rfl (hb hby d25_9) rfl ?_
    refine X2.iaload hx (j := (sz - (1 : Int32))) (v := (.int (own_rd xs (sz - (1 : Int32))))) (heq_of e2 Ar3.1) (State.isArrayOf_alike hZ.alike Ar3.2.1) Ar3.2.2 hin3 hat3 (g := (mkF m 10 #[.val (.ref ob)] [(.int (sz - (1 : Int32))), (.ref vr)])) rfl rfl (hb hby d25_10) _ ?_
    show Steps p.tables e below (T2.setTop (mkF m 11 #[.val (.ref ob)] [(.int (own_rd xs (sz - (1 : Int32))))])) _
    exact retI X2 hx Bd.returns (hb hby d25_11) hr
  · show Q25 Z ob vr xs sz h0 n0 _ T2.heap _
    rw [e2]
    exact ⟨rfl, N0, rfl⟩
theorem d27_0 : decode prog_66_method_3_code 0 = .ok (.aload_n 0, 1) := by decide +kernel
theorem d27_1 : decode prog_66_method_3_code 1 = .ok (.getfield 7, 3) := by decide +kernel
theorem d27_4 : decode prog_66_method_3_code 4 = .ok (.iload_n 1, 1) := by decide +kernel
theorem d27_5 : decode prog_66_method_3_code 5 = .ok (.iaload, 1) := by decide +kernel
theorem d27_6 : decode prog_66_method_3_code 6 = .ok (.ireturn, 1) := by decide +kernel
theorem pn_27 : plainName "com/example/twigmeter/twigmeter/xml/IntList" = true := by first | (simp [plainName, overriddenIn]; done) | decide +kernel
theorem ef_27 (m : MethodId) (x0 : Addr) (x1 : Int32) : entryFrame m #[(.ref x0), (.int x1)] 2 = mkF m 0 #[.val (.ref x0), .val (.int x1)] [] := by first | (simp [entryFrame, mkF, argsToLocals, Value.category]; done) | rfl
theorem own_inx_27_5 (ix : Int32) (xs : List Int32) (hin : own_inx xs ix = true) : own_inx xs ix = true := hin
def Q27 (Z : State) (ob : Addr) (ix : Int32) (vr : Addr) (xs : List Int32) (h0 : Heap) (n0 : Nat) (v : Option Value) (h : Heap) (L : List Loc) : Prop := v = some (.int (own_rd xs ix)) ∧ Fr n0 L ∧ h = h0
set_option maxRecDepth 65536 in
set_option maxHeartbeats 40000000 in
theorem rm27 (l : Launch) (Z : State) (a0 : Array Value) (hw : ∀ d ∈ tables_1, d.before a0 Z = true) (ws : List Jvm.Cond) (ob : Addr) (ix : Int32) (vr : Addr) (xs : List Int32) (h0 : Heap) (n0 : Nat) (Z0 : n0 ≤ h0.size) (I0 : Fld Z h0 ob "com/example/twigmeter/twigmeter/xml/IntList" "values" "[I" (.ref vr)) (I1 : own_ia Z h0 vr xs) (hin : own_inx xs ix = true) :
    MetFree l (⟨"com/example/twigmeter/twigmeter/xml/IntList", "get", "(I)I"⟩ : MethodName) (head1 (Jvm.Cond.code (⟨"com/example/twigmeter/twigmeter/xml/IntList", "get", "(I)I"⟩ : MethodName) prog_66_method_3_code 2 (some .int) :: ws) ({ frames := 0, cells := 0, slots := 0, locals := 0 } : Room)) (fun a U => a = #[(.ref ob), (.int ix)] ∧ Z.Warmed39 U.vm ∧ U.heap = h0) (fun _ _ _ _ _ => True) (fun _ U o U' => ∃ v L, o = .returned v ∧ Q27 Z ob ix vr xs h0 n0 v U'.heap L ∧ FrameEnd U o U' L ({ frames := 0, cells := 0, slots := 0, locals := 0 } : Room).cells ({ frames := 0, cells := 0, slots := 0, locals := 0 } : Room).slots) := by
  refine MetFree.of_bodySF (plainFor_of_name pn_27) hisR ?_
  intro p e s m args below meth c s₁ Bd hml0 hP hK
  obtain ⟨rfl, hZ, hh⟩ := hP
  have hx := Bd.exec
  have hby := Bd.bytes
  have hml : c.maxLocals = 2 := hml0
  have hown : s.vm.findClass "com/example/twigmeter/twigmeter/xml/IntList" = some m.cls := findClass_of_methodNamed Bd.named
  have hnm := (name_of_methodNamed Bd.named Bd.method).1
  have X0 : Stand p l e ({ frames := 0, cells := 0, slots := 0, locals := 0 } : Room) s m #[(.ref ob), (.int ix)] below meth c s₁ [] 0 0 := Stand.of_body Bd
  have e0 : s₁.heap = h0 := by rw [← hh, Bd.state]; rfl
  have N0 := Fr.nil n0
  have K0 : Keep h0 h0 [] := Keep.refl h0 _
  have pre0 : ∀ tq, Steps p.tables e below (s₁.setTop (mkF m 0 #[.val (.ref ob), .val (.int ix)] [])) tq → Steps p.tables e below (s₁.setTop (entryFrame m #[(.ref ob), (.int ix)] 2)) tq := fun tq kq => castTop (ef_27 m ob ix) kq
  obtain ⟨T1, X1, e1, st1⟩ := getF X0 hx hZ hown (host := "") (Or.inl (hw _ (List.mem_of_getElem? (i := 101) rfl))) Via.refl e0 I0 (g := (mkF m 1 #[.val (.ref ob), .val (.int ix)] [(.ref ob)])) rfl rfl (hb hby d27_1)
  obtain ⟨cl2, Ar2, hin2, hat2⟩ := I1.get (j := ix) (own_inx_27_5 ix xs hin)
  obtain ⟨fs, hr, hrun, hended, hW, hsame⟩ := X1.leave (v := some (Value.int (own_rd xs ix))) (fun h => by rw [Bd.returns] at h; cases h)
  refine ⟨_, _, pre0 _ ?_, hrun, hended, _, _, rfl, ?_, ⟨_, rfl⟩, hW, hsame.mono (by decide) (by decide)⟩
  · skip
    show Steps p.tables e below (s₁.setTop (mkF m 0 #[.val (.ref ob), .val (.int ix)] [])) _
    refine XS.aloadN X0.here hx rfl (hb hby d27_0) rfl rfl ?_
    refine st1 _ ?_
    show Steps p.tables e below (T1.setTop (mkF m 4 #[.val (.ref ob), .val (.int ix)] [(.ref vr)])) _
    refine XS.iloadN X1.here hx rfl (hb hby d27_4) rfl ?_
    refine X1.iaload hx (j := ix) (v := (.int (own_rd xs ix))) (heq_of e1 Ar2.1) (State.isArrayOf_alike hZ.alike Ar2.2.1) Ar2.2.2 hin2 hat2 (g := (mkF m 5 #[.val (.ref ob), .val (.int ix)] [(.int ix), (.ref vr)])) rfl rfl (hb hby d27_5) _ ?_
    show Steps p.tables e below (T1.setTop (mkF m 6 #[.val (.ref ob), .val (.int ix)] [(.int (own_rd xs ix))])) _
    exact retI X1 hx Bd.returns (hb hby d27_6) hr
  · show Q27 Z ob ix vr xs h0 n0 _ T1.heap _
    rw [e1]
    exact ⟨rfl, N0, rfl⟩
theorem d26_0 : decode prog_64_method_10_code 0 = .ok (.aload_n 0, 1) := by decide +kernel
theorem d26_1 : decode prog_64_method_10_code 1 = .ok (.getfield 26, 3) := by decide +kernel
theorem d26_4 : decode prog_64_method_10_code 4 = .ok (.iload_n 1, 1) := by decide +kernel
theorem d26_5 : decode prog_64_method_10_code 5 = .ok (.invokevirtual 59, 3) := by decide +kernel
theorem d26_8 : decode prog_64_method_10_code 8 = .ok (.ireturn, 1) := by decide +kernel
theorem pn_26 : plainName "com/example/twigmeter/twigmeter/xml/ElementTree" = true := by first | (simp [plainName, overriddenIn]; done) | decide +kernel
theorem pd_8 : parseMethodDescriptor "(I)I" = some ⟨[.int], some .int⟩ := by decide +kernel
theorem ef_26 (m : MethodId) (x0 : Addr) (x1 : Int32) : entryFrame m #[(.ref x0), (.int x1)] 2 = mkF m 0 #[.val (.ref x0), .val (.int x1)] [] := by first | (simp [entryFrame, mkF, argsToLocals, Value.category]; done) | rfl
theorem own_pre_26_5_hin (ix : Int32) (lo : Nat) (bd : Nat) (S : own_S) (hin : own_inx S.1 ix = true) (xn : List Int32) (xa : List Int32) (l1 : xn.length = 16) (l2 : xa.length = 16) : own_inx S.1 ix = true := hin
theorem own_leaf_26_8 (ix : Int32) (lo : Nat) (bd : Nat) (S : own_S) (hin : own_inx S.1 ix = true) (xn : List Int32) (xa : List Int32) (l1 : xn.length = 16) (l2 : xa.length = 16) (hp2_hin : own_inx S.1 ix = true) (r5 : Int32) (hr5 : r5 = (own_rd S.1 ix)) : r5 = (own_rd S.1 ix) := hr5
def Q26 (Z : State) (tr : Addr) (ix : Int32) (lo : Nat) (bd : Nat) (S : own_S) (h0 : Heap) (n0 : Nat) (v : Option Value) (h : Heap) (L : List Loc) : Prop := v = some (.int (own_rd S.1 ix)) ∧ Fr n0 L ∧ h = h0
set_option maxRecDepth 65536 in
set_option maxHeartbeats 40000000 in
theorem rm26 (l : Launch) (Z : State) (a0 : Array Value) (hw : ∀ d ∈ tables_1, d.before a0 Z = true) (ws : List Jvm.Cond) (tr : Addr) (ix : Int32) (lo : Nat) (bd : Nat) (S : own_S) (h0 : Heap) (n0 : Nat) (Z0 : n0 ≤ h0.size) (I0 : own_tr Z h0 tr lo bd S) (hin : own_inx S.1 ix = true) :
    MetFree l (⟨"com/example/twigmeter/twigmeter/xml/ElementTree", "endOf", "(I)I"⟩ : MethodName) (head1 (Jvm.Cond.code (⟨"com/example/twigmeter/twigmeter/xml/ElementTree", "endOf", "(I)I"⟩ : MethodName) prog_64_method_10_code 2 (some .int) :: ws) ({ frames := 1, cells := 0, slots := 0, locals := 13 } : Room)) (fun a U => a = #[(.ref tr), (.int ix)] ∧ Z.Warmed39 U.vm ∧ U.heap = h0) (fun _ _ _ _ _ => True) (fun _ U o U' => ∃ v L, o = .returned v ∧ Q26 Z tr ix lo bd S h0 n0 v U'.heap L ∧ FrameEnd U o U' L ({ frames := 1, cells := 0, slots := 0, locals := 13 } : Room).cells ({ frames := 1, cells := 0, slots := 0, locals := 13 } : Room).slots) := by
  refine MetFree.of_bodySF (plainFor_of_name pn_26) hisR ?_
  intro p e s m args below meth c s₁ Bd hml0 hP hK
  obtain ⟨rfl, hZ, hh⟩ := hP
  have hx := Bd.exec
  have hby := Bd.bytes
  have hml : c.maxLocals = 2 := hml0
  have hown : s.vm.findClass "com/example/twigmeter/twigmeter/xml/ElementTree" = some m.cls := findClass_of_methodNamed Bd.named
  have hnm := (name_of_methodNamed Bd.named Bd.method).1
  have X0 : Stand p l e ({ frames := 1, cells := 0, slots := 0, locals := 13 } : Room) s m #[(.ref tr), (.int ix)] below meth c s₁ [] 0 0 := Stand.of_body Bd
  have e0 : s₁.heap = h0 := by rw [← hh, Bd.state]; rfl
  have N0 := Fr.nil n0
  have K0 : Keep h0 h0 [] := Keep.refl h0 _
  have pre0 : ∀ tq, Steps p.tables e below (s₁.setTop (mkF m 0 #[.val (.ref tr), .val (.int ix)] [])) tq → Steps p.tables e below (s₁.setTop (entryFrame m #[(.ref tr), (.int ix)] 2)) tq := fun tq kq => castTop (ef_26 m tr ix) kq
  obtain ⟨nm, vn, at_, va, en, ve, op, vo, xn, xa, l1, l2, o1, o2, o3, o4, o5, o6, o7, o8, o9, o10, q11, f1, f2, f3, f4, f5, ⟨i0e, i0v, i0s, i0a⟩, ⟨i1e, i1v, i1s, i1a⟩, ⟨i2e, i2v, i2s, i2a⟩, ⟨i3e, i3v, i3s, i3a⟩⟩ := id I0
  have ne_tr_nm : tr ≠ nm := own_ne (by omega)
  have ne_tr_vn : tr ≠ vn := own_ne (by omega)
  have ne_tr_at_ : tr ≠ at_ := own_ne (by omega)
  have ne_tr_va : tr ≠ va := own_ne (by omega)
  have ne_tr_en : tr ≠ en := own_ne (by omega)
  have ne_tr_ve : tr ≠ ve := own_ne (by omega)
  have ne_tr_op : tr ≠ op := own_ne (by omega)
  have ne_tr_vo : tr ≠ vo := own_ne (by omega)
  have ne_nm_vn : nm ≠ vn := own_ne (by omega)
  have ne_nm_at_ : nm ≠ at_ := own_ne (by omega)
  have ne_nm_va : nm ≠ va := own_ne (by omega)
  have ne_nm_en : nm ≠ en := own_ne (by omega)
  have ne_nm_ve : nm ≠ ve := own_ne (by omega)
  have ne_nm_op : nm ≠ op := own_ne (by omega)
  have ne_nm_vo : nm ≠ vo := own_ne (by omega)
  have ne_vn_at_ : vn ≠ at_ := own_ne (by omega)
  have ne_vn_va : vn ≠ va := own_ne (by omega)
  have ne_vn_en : vn ≠ en := own_ne (by omega)
  have ne_vn_ve : vn ≠ ve := own_ne (by omega)
  have ne_vn_op : vn ≠ op := own_ne (by omega)
  have ne_vn_vo : vn ≠ vo := own_ne (by omega)
  have ne_at__va : at_ ≠ va := own_ne (by omega)
  have ne_at__en : at_ ≠ en := own_ne (by omega)
  have ne_at__ve : at_ ≠ ve := own_ne (by omega)
  have ne_at__op : at_ ≠ op := own_ne (by omega)
  have ne_at__vo : at_ ≠ vo := own_ne (by omega)
  have ne_va_en : va ≠ en := own_ne (by omega)
  have ne_va_ve : va ≠ ve := own_ne (by omega)
  have ne_va_op : va ≠ op := own_ne (by omega)
  have ne_va_vo : va ≠ vo := own_ne (by omega)
  have ne_en_ve : en ≠ ve := own_ne (by omega)
  have ne_en_op : en ≠ op := own_ne (by omega)
  have ne_en_vo : en ≠ vo := own_ne (by omega)
  have ne_ve_op : ve ≠ op := own_ne (by omega)
  have ne_ve_vo : ve ≠ vo := own_ne (by omega)
  have ne_op_vo : op ≠ vo := own_ne (by omega)
  obtain ⟨T1, X1, e1, st1⟩ := getF X0 hx hZ hown (host := "") (Or.inl (hw _ (List.mem_of_getElem? (i := 107) rfl))) Via.refl e0 f4 (g := (mkF m 1 #[.val (.ref tr), .val (.int ix)] [(.ref tr)])) rfl rfl (hb hby d26_1)
  have hp2_hin : own_inx S.1 ix = true := (own_pre_26_5_hin ix lo bd S hin xn xa l1 l2)
  obtain ⟨cq2, kq2, q2a, q2b, q2c⟩ := isOf hZ e1 i2e
  obtain ⟨_, _, ⟨T2, L2, k2, n2⟩, -, X2, ⟨Lc2, hQ2, l2, y2, z2⟩, st2⟩ := X1.virtualBack hx (y := (⟨"com/example/twigmeter/twigmeter/xml/IntList", "get", "(I)I"⟩ : MethodName)) (z := (⟨"com/example/twigmeter/twigmeter/xml/IntList", "get", "(I)I"⟩ : MethodName)) hown (mvT hZ (hw _ (List.mem_of_getElem? (i := 185) rfl))) (mvT hZ (hw _ (List.mem_of_getElem? (i := 186) rfl))) (notFace_of_selects (args := #[]) (mvT hZ (hw _ (List.mem_of_getElem? (i := 188) rfl)))) (mvT hZ (hw _ (List.mem_of_getElem? (i := 188) rfl))) (mvT hZ (hw _ (List.mem_of_getElem? (i := 187) rfl))) (by decide) (backOf (W := 0) (rm27 l Z a0 hw [] en ix ve S.1 h0 n0 Z0 i2v i2a hp2_hin) hZ (hw _ (List.mem_of_getElem? (i := 189) rfl)) (hw _ (List.mem_of_getElem? (i := 96) rfl)) (by decide) (by decide)) q2a q2c (g := (mkF m 5 #[.val (.ref tr), .val (.int ix)] [(.int ix), (.ref en)])) rfl (by rw [hml]; rfl) (Steps.refl _) (argsL := [(.int ix)]) (rest := []) (lenOf pd_8 rfl) rfl (by show 2 * 0 + _ ≤ _; exact Nat.le_of_eq rfl) (hb hby d26_5) (fun _ _ => ⟨rfl, e1, (by decide : 0 + 0 ≤ _), (by decide : 0 + 0 ≤ _)⟩)
  dsimp only [Pt.U, Pt.locs, Pt.cells, Pt.slots] at X2 l2 y2 z2 st2 hQ2
  replace y2 : k2 = 0 := y2
  replace z2 : n2 = 0 := z2
  subst l2 y2 z2
  obtain ⟨rfl, N2q, e2⟩ := hQ2
  have N2 := Fr.app N0 N2q
  obtain ⟨r5, hr5⟩ : ∃ z_q : Int32, z_q = (own_rd S.1 ix) := ⟨_, rfl⟩
  obtain ⟨fs, hr, hrun, hended, hW, hsame⟩ := X2.leave (v := some (Value.int r5)) (fun h => by rw [Bd.returns] at h; cases h)
  have hres3 : r5 = (own_rd S.1 ix) := (own_leaf_26_8 ix lo bd S hin xn xa l1 l2 hp2_hin r5 hr5)
  refine ⟨_, _, pre0 _ ?_, hrun, hended, _, _, rfl, ?_, ⟨_, rfl⟩, hW, hsame.mono (by decide) (by decide)⟩
  · skip
    show Steps p.tables e below (s₁.setTop (mkF m 0 #[.val (.ref tr), .val (.int ix)] [])) _
    refine XS.aloadN X0.here hx rfl (hb hby d26_0) rfl rfl ?_
    refine st1 _ ?_
    show Steps p.tables e below (T1.setTop (mkF m 4 #[.val (.ref tr), .val (.int ix)] [(.ref en)])) _
    refine XS.iloadN X1.here hx rfl (hb hby d26_4) rfl ?_
    refine st2.trans ?_
    show Steps p.tables e below (T2.setTop (mkF m 8 #[.val (.ref tr), .val (.int ix)] [(.int (own_rd S.1 ix))])) _
    rw [← hr5]
    show Steps p.tables e below (T2.setTop (mkF m 8 #[.val (.ref tr), .val (.int ix)] [(.int r5)])) _
    exact retI X2 hx Bd.returns (hb hby d26_8) hr
  · show Q26 Z tr ix lo bd S h0 n0 _ T2.heap _
    rw [e2]
    exact ⟨congrArg (fun z => some (Value.int z)) hres3, N2, rfl⟩
theorem d22_44 : decode prog_53_method_1_code 44 = .ok (.aload 4, 2) := by decide +kernel
theorem d22_46 : decode prog_53_method_1_code 46 = .ok (.invokevirtual 30, 3) := by decide +kernel
theorem d22_49 : decode prog_53_method_1_code 49 = .ok (.ifCond .ne 26, 3) := by decide +kernel
theorem d22_52 : decode prog_53_method_1_code 52 = .ok (.aload_n 1, 1) := by decide +kernel
theorem d22_53 : decode prog_53_method_1_code 53 = .ok (.aload 4, 2) := by decide +kernel
theorem d22_55 : decode prog_53_method_1_code 55 = .ok (.invokevirtual 34, 3) := by decide +kernel
theorem d22_58 : decode prog_53_method_1_code 58 = .ok (.invokevirtual 37, 3) := by decide +kernel
theorem d22_61 : decode prog_53_method_1_code 61 = .ok (.iload 5, 2) := by decide +kernel
theorem d22_63 : decode prog_53_method_1_code 63 = .ok (.if_icmp .gt 12, 3) := by decide +kernel
theorem d22_66 : decode prog_53_method_1_code 66 = .ok (.aload 4, 2) := by decide +kernel
theorem d22_68 : decode prog_53_method_1_code 68 = .ok (.invokevirtual 41, 3) := by decide +kernel
theorem d22_71 : decode prog_53_method_1_code 71 = .ok (.pop, 1) := by decide +kernel
theorem d22_72 : decode prog_53_method_1_code 72 = .ok (.goto (-28), 3) := by decide +kernel
theorem pd_9 : parseMethodDescriptor "()Z" = some ⟨[], some .boolean⟩ := by decide +kernel
theorem own_pre_22_55_hin_f (ds : Int32) (i : Int32) (st : List Int32) (lo : Nat) (bd : Nat) (S : own_S) (fin : Int32) (k : Nat) (sz : Int32) (hinv : own_pop S.1 st i k sz = some fin) (r46 : Int32) (hr46 : r46 = (if sz = (0 : Int32) then (1 : Int32) else (0 : Int32))) (hc49_3 : r46 = (0 : Int32)) : own_inx st (sz - (1 : Int32)) = true := (own_pop_s hinv (own_e0 hr46 hc49_3)).1
theorem own_pre_22_58_hin_f (ds : Int32) (i : Int32) (st : List Int32) (lo : Nat) (bd : Nat) (S : own_S) (fin : Int32) (k : Nat) (sz : Int32) (hinv : own_pop S.1 st i k sz = some fin) (r46 : Int32) (hr46 : r46 = (if sz = (0 : Int32) then (1 : Int32) else (0 : Int32))) (hc49_3 : r46 = (0 : Int32)) (hp4_hin : own_inx st (sz - (1 : Int32)) = true) (r55 : Int32) (hr55 : r55 = (own_rd st (sz - (1 : Int32)))) : own_inx S.1 r55 = true := by rw [hr55]; exact (own_pop_s hinv (own_e0 hr46 hc49_3)).2.1
theorem own_post_22_75_ft (ds : Int32) (i : Int32) (st : List Int32) (lo : Nat) (bd : Nat) (S : own_S) (fin : Int32) (k : Nat) (sz : Int32) (hinv : own_pop S.1 st i k sz = some fin) (r46 : Int32) (hr46 : r46 = (if sz = (0 : Int32) then (1 : Int32) else (0 : Int32))) (hc49_3 : r46 = (0 : Int32)) (hp4_hin : own_inx st (sz - (1 : Int32)) = true) (r55 : Int32) (hr55 : r55 = (own_rd st (sz - (1 : Int32)))) (hp5_hin : own_inx S.1 r55 = true) (r58 : Int32) (hr58 : r58 = (own_rd S.1 r55)) (hc63_7 : i < r58) : fin = sz := ((own_pop_s hinv (own_e0 hr46 hc49_3)).2.2.1 (by rw [← hr55, ← hr58]; exact hc63_7)).symm
theorem own_pre_22_68_hin_ff (ds : Int32) (i : Int32) (st : List Int32) (lo : Nat) (bd : Nat) (S : own_S) (fin : Int32) (k : Nat) (sz : Int32) (hinv : own_pop S.1 st i k sz = some fin) (r46 : Int32) (hr46 : r46 = (if sz = (0 : Int32) then (1 : Int32) else (0 : Int32))) (hc49_3 : r46 = (0 : Int32)) (hp4_hin : own_inx st (sz - (1 : Int32)) = true) (r55 : Int32) (hr55 : r55 = (own_rd st (sz - (1 : Int32)))) (hp5_hin : own_inx S.1 r55 = true) (r58 : Int32) (hr58 : r58 = (own_rd S.1 r55)) (hc63_7 : ¬ (i < r58)) : own_inx st (sz - (1 : Int32)) = true := (own_pop_s hinv (own_e0 hr46 hc49_3)).1
theorem own_back_22_44_ff (ds : Int32) (i : Int32) (st : List Int32) (lo : Nat) (bd : Nat) (S : own_S) (fin : Int32) (k : Nat) (sz : Int32) (hinv : own_pop S.1 st i k sz = some fin) (r46 : Int32) (hr46 : r46 = (if sz = (0 : Int32) then (1 : Int32) else (0 : Int32))) (hc49_3 : r46 = (0 : Int32)) (hp4_hin : own_inx st (sz - (1 : Int32)) = true) (r55 : Int32) (hr55 : r55 = (own_rd st (sz - (1 : Int32)))) (hp5_hin : own_inx S.1 r55 = true) (r58 : Int32) (hr58 : r58 = (own_rd S.1 r55)) (hc63_7 : ¬ (i < r58)) (hp10_hin : own_inx st (sz - (1 : Int32)) = true) (r68 : Int32) (hr68 : r68 = (own_rd st (sz - (1 : Int32)))) : ∃ k' : Nat, k' < k ∧ own_pop S.1 st i k' (sz - (1 : Int32)) = some fin := (own_pop_s hinv (own_e0 hr46 hc49_3)).2.2.2 (by rw [← hr55, ← hr58]; exact hc63_7)
theorem own_post_22_75_t (ds : Int32) (i : Int32) (st : List Int32) (lo : Nat) (bd : Nat) (S : own_S) (fin : Int32) (k : Nat) (sz : Int32) (hinv : own_pop S.1 st i k sz = some fin) (r46 : Int32) (hr46 : r46 = (if sz = (0 : Int32) then (1 : Int32) else (0 : Int32))) (hc49_3 : ¬ (r46 = (0 : Int32))) : fin = sz := (own_pop_0 hinv (own_e1 hr46 hc49_3)).symm
set_option maxRecDepth 65536 in
set_option maxHeartbeats 40000000 in
theorem lp22_44 {p : Program} {l : Launch} {e : Env} {s : State} {m : MethodId} {args : Array Value} {below : List Frame} {meth : Method} {c : Code} {Z : State} {a0 : Array Value} (n0 : Nat) (ob : Addr) (tr : Addr) (ds : Int32) (sk : Addr) (sv : Addr) (i : Int32) (st : List Int32) (lo : Nat) (bd : Nat) (S : own_S) (fin : Int32) (hx : p.tables.exec = Jvm.exec) (hZ : Z.Warmed39 s.vm) (hw : ∀ d ∈ tables_1, d.before a0 Z = true) (hby : c.code = prog_53_method_1_code) (hml : c.maxLocals = 8) (hown : s.vm.findClass "com/example/twigmeter/twigmeter/workload/Reach" = some m.cls) (g_sk : n0 ≤ sk) (ne_sk_sv : sk ≠ sv) (bd_sk : bd ≤ sk) :
    ∀ (k : Nat) (sz : Int32) (T0 : State) (h0 : Heap) (locs : List Loc), (own_pop S.1 st i k sz = some fin) → Stand p l e ({ frames := 2, cells := 6, slots := 35, locals := 60 } : Room) s m args below meth c T0 locs 3 22 → T0.heap = h0 → Fr n0 locs → n0 ≤ h0.size → own_tr Z h0 tr lo bd S → Exa Z h0 tr "com/example/twigmeter/twigmeter/xml/ElementTree" → Exa Z h0 sk "com/example/twigmeter/twigmeter/xml/IntList" → Fld Z h0 sk "com/example/twigmeter/twigmeter/xml/IntList" "values" "[I" (.ref sv) → Fld Z h0 sk "com/example/twigmeter/twigmeter/xml/IntList" "size" "I" (.int sz) → own_ia Z h0 sv st → 
      ∃ (T' : State) (h' : Heap) (locs' : List Loc) (so : Int32), Stand p l e ({ frames := 2, cells := 6, slots := 35, locals := 60 } : Room) s m args below meth c T' locs' 3 22 ∧ T'.heap = h' ∧ Fr n0 locs' ∧ Keep h0 h' [sk] ∧ own_tr Z h' tr lo bd S ∧ Exa Z h' sk "com/example/twigmeter/twigmeter/xml/IntList" ∧ Fld Z h' sk "com/example/twigmeter/twigmeter/xml/IntList" "values" "[I" (.ref sv) ∧ Fld Z h' sk "com/example/twigmeter/twigmeter/xml/IntList" "size" "I" (.int so) ∧ own_ia Z h' sv st ∧ (fin = so) ∧
        ∀ tq, Steps p.tables e below (T'.setTop (mkF m 75 #[.val (.ref ob), .val (.ref tr), .val (.int ds), .val (.int (4 : Int32)), .val (.ref sk), .val (.int i), .unset, .unset] [])) tq → Steps p.tables e below (T0.setTop (mkF m 44 #[.val (.ref ob), .val (.ref tr), .val (.int ds), .val (.int (4 : Int32)), .val (.ref sk), .val (.int i), .unset, .unset] [])) tq := by
  intro k
  induction k using Nat.strongRecOn with
  | _ k ih =>
    intro sz T0 h0 locs hinv X0 e0 N0 Z0 I0 I1 I2 I3 I4 I5
    have K0 : Keep h0 h0 [sk] := Keep.refl h0 _
    have pre0 : ∀ tq, Steps p.tables e below (T0.setTop (mkF m 44 #[.val (.ref ob), .val (.ref tr), .val (.int ds), .val (.int (4 : Int32)), .val (.ref sk), .val (.int i), .unset, .unset] [])) tq → Steps p.tables e below (T0.setTop (mkF m 44 #[.val (.ref ob), .val (.ref tr), .val (.int ds), .val (.int (4 : Int32)), .val (.ref sk), .val (.int i), .unset, .unset] [])) tq := fun _ h => h
    obtain ⟨cq1, kq1, q1a, q1b, q1c⟩ := isOf hZ e0 I2
    obtain ⟨_, _, ⟨T1, L1, k1, n1⟩, -, X1, ⟨Lc1, hQ1, l1, y1, z1⟩, st1⟩ := X0.virtualBack hx (y := (⟨"com/example/twigmeter/twigmeter/xml/IntList", "isEmpty", "()Z"⟩ : MethodName)) (z := (⟨"com/example/twigmeter/twigmeter/xml/IntList", "isEmpty", "()Z"⟩ : MethodName)) hown (mvT hZ (hw _ (List.mem_of_getElem? (i := 169) rfl))) (mvT hZ (hw _ (List.mem_of_getElem? (i := 170) rfl))) (notFace_of_selects (args := #[]) (mvT hZ (hw _ (List.mem_of_getElem? (i := 172) rfl)))) (mvT hZ (hw _ (List.mem_of_getElem? (i := 172) rfl))) (mvT hZ (hw _ (List.mem_of_getElem? (i := 171) rfl))) (by decide) (backOf (W := 0) (rm24 l Z a0 hw [] sk sz h0 n0 Z0 I4) hZ (hw _ (List.mem_of_getElem? (i := 173) rfl)) (hw _ (List.mem_of_getElem? (i := 96) rfl)) (by decide) (by decide)) q1a q1c (g := (mkF m 46 #[.val (.ref ob), .val (.ref tr), .val (.int ds), .val (.int (4 : Int32)), .val (.ref sk), .val (.int i), .unset, .unset] [(.ref sk)])) rfl (by rw [hml]; rfl) (Steps.refl _) (argsL := []) (rest := []) (lenOf pd_9 rfl) rfl (by show 2 * 0 + _ ≤ _; exact Nat.le_of_eq rfl) (hb hby d22_46) (fun _ _ => ⟨rfl, e0, (by decide : 3 + 0 ≤ _), (by decide : 22 + 0 ≤ _)⟩)
    dsimp only [Pt.U, Pt.locs, Pt.cells, Pt.slots] at X1 l1 y1 z1 st1 hQ1
    replace y1 : k1 = 3 := y1
    replace z1 : n1 = 22 := z1
    subst l1 y1 z1
    obtain ⟨rfl, N1q, e1⟩ := hQ1
    have N1 := Fr.app N0 N1q
    obtain ⟨r46, hr46⟩ : ∃ z_q : Int32, z_q = (if sz = (0 : Int32) then (1 : Int32) else (0 : Int32)) := ⟨_, rfl⟩
    have pre2 : ∀ tq, Steps p.tables e below (T1.setTop (mkF m 49 #[.val (.ref ob), .val (.ref tr), .val (.int ds), .val (.int (4 : Int32)), .val (.ref sk), .val (.int i), .unset, .unset] [(.int r46)])) tq → Steps p.tables e below (T0.setTop (mkF m 44 #[.val (.ref ob), .val (.ref tr), .val (.int ds), .val (.int (4 : Int32)), .val (.ref sk), .val (.int i), .unset, .unset] [])) tq := by
      intro tq kt
      refine pre0 _ ?_
      show Steps p.tables e below (T0.setTop (mkF m 44 #[.val (.ref ob), .val (.ref tr), .val (.int ds), .val (.int (4 : Int32)), .val (.ref sk), .val (.int i), .unset, .unset] [])) _
      refine XS.aload X0.here hx rfl (hb hby d22_44) rfl rfl ?_
      refine st1.trans ?_
      show Steps p.tables e below (T1.setTop (mkF m 49 #[.val (.ref ob), .val (.ref tr), .val (.int ds), .val (.int (4 : Int32)), .val (.ref sk), .val (.int i), .unset, .unset] [(.int (if sz = (0 : Int32) then (1 : Int32) else (0 : Int32)))])) _
      rw [← hr46]
      show Steps p.tables e below (T1.setTop (mkF m 49 #[.val (.ref ob), .val (.ref tr), .val (.int ds), .val (.int (4 : Int32)), .val (.ref sk), .val (.int i), .unset, .unset] [(.int r46)])) _
      exact kt
    by_cases hc49_3 : r46 = (0 : Int32)
    · skip
      have hp4_hin : own_inx st (sz - (1 : Int32)) = true := (own_pre_22_55_hin_f ds i st lo bd S fin k sz hinv r46 hr46 hc49_3)
      obtain ⟨cq4, kq4, q4a, q4b, q4c⟩ := isOf hZ e1 I2
      obtain ⟨_, _, ⟨T4, L4, k4, n4⟩, -, X4, ⟨Lc4, hQ4, l4, y4, z4⟩, st4⟩ := X1.virtualBack hx (y := (⟨"com/example/twigmeter/twigmeter/xml/IntList", "last", "()I"⟩ : MethodName)) (z := (⟨"com/example/twigmeter/twigmeter/xml/IntList", "last", "()I"⟩ : MethodName)) hown (mvT hZ (hw _ (List.mem_of_getElem? (i := 175) rfl))) (mvT hZ (hw _ (List.mem_of_getElem? (i := 176) rfl))) (notFace_of_selects (args := #[]) (mvT hZ (hw _ (List.mem_of_getElem? (i := 178) rfl)))) (mvT hZ (hw _ (List.mem_of_getElem? (i := 178) rfl))) (mvT hZ (hw _ (List.mem_of_getElem? (i := 177) rfl))) (by decide) (backOf (W := 1) (rm25 l Z a0 hw [] sk sv st sz h0 n0 Z0 I3 I4 I5 hp4_hin) hZ (hw _ (List.mem_of_getElem? (i := 179) rfl)) (hw _ (List.mem_of_getElem? (i := 96) rfl)) (by decide) (by decide)) q4a q4c (g := (mkF m 55 #[.val (.ref ob), .val (.ref tr), .val (.int ds), .val (.int (4 : Int32)), .val (.ref sk), .val (.int i), .unset, .unset] [(.ref sk), (.ref tr)])) rfl (by rw [hml]; rfl) (Steps.refl _) (argsL := []) (rest := [(.ref tr)]) (lenOf pd_3 rfl) rfl (by show 2 * 0 + _ ≤ _; exact Nat.le_of_eq rfl) (hb hby d22_55) (fun _ _ => ⟨rfl, e1, (by decide : 3 + 0 ≤ _), (by decide : 22 + 0 ≤ _)⟩)
      dsimp only [Pt.U, Pt.locs, Pt.cells, Pt.slots] at X4 l4 y4 z4 st4 hQ4
      replace y4 : k4 = 3 := y4
      replace z4 : n4 = 22 := z4
      subst l4 y4 z4
      obtain ⟨rfl, N4q, e4⟩ := hQ4
      have N4 := Fr.app N1 N4q
      obtain ⟨r55, hr55⟩ : ∃ z_q : Int32, z_q = (own_rd st (sz - (1 : Int32))) := ⟨_, rfl⟩
      have hp5_hin : own_inx S.1 r55 = true := (own_pre_22_58_hin_f ds i st lo bd S fin k sz hinv r46 hr46 hc49_3 hp4_hin r55 hr55)
      obtain ⟨cq5, kq5, q5a, q5b, q5c⟩ := isOf hZ e4 I1
      obtain ⟨_, _, ⟨T5, L5, k5, n5⟩, -, X5, ⟨Lc5, hQ5, l5, y5, z5⟩, st5⟩ := X4.virtualBack hx (y := (⟨"com/example/twigmeter/twigmeter/xml/ElementTree", "endOf", "(I)I"⟩ : MethodName)) (z := (⟨"com/example/twigmeter/twigmeter/xml/ElementTree", "endOf", "(I)I"⟩ : MethodName)) hown (mvT hZ (hw _ (List.mem_of_getElem? (i := 180) rfl))) (mvT hZ (hw _ (List.mem_of_getElem? (i := 181) rfl))) (notFace_of_selects (args := #[]) (mvT hZ (hw _ (List.mem_of_getElem? (i := 183) rfl)))) (mvT hZ (hw _ (List.mem_of_getElem? (i := 183) rfl))) (mvT hZ (hw _ (List.mem_of_getElem? (i := 182) rfl))) (by decide) (backOf (W := 0) (rm26 l Z a0 hw [] tr r55 lo bd S h0 n0 Z0 I0 hp5_hin) hZ (hw _ (List.mem_of_getElem? (i := 184) rfl)) (hw _ (List.mem_of_getElem? (i := 15) rfl)) (by decide) (by decide)) q5a q5c (g := (mkF m 58 #[.val (.ref ob), .val (.ref tr), .val (.int ds), .val (.int (4 : Int32)), .val (.ref sk), .val (.int i), .unset, .unset] [(.int r55), (.ref tr)])) rfl (by rw [hml]; rfl) (Steps.refl _) (argsL := [(.int r55)]) (rest := []) (lenOf pd_8 rfl) rfl (by show 2 * 0 + _ ≤ _; exact Nat.le_of_eq rfl) (hb hby d22_58) (fun _ _ => ⟨rfl, e4, (by decide : 3 + 0 ≤ _), (by decide : 22 + 0 ≤ _)⟩)
      dsimp only [Pt.U, Pt.locs, Pt.cells, Pt.slots] at X5 l5 y5 z5 st5 hQ5
      replace y5 : k5 = 3 := y5
      replace z5 : n5 = 22 := z5
      subst l5 y5 z5
      obtain ⟨rfl, N5q, e5⟩ := hQ5
      have N5 := Fr.app N4 N5q
      obtain ⟨r58, hr58⟩ : ∃ z_q : Int32, z_q = (own_rd S.1 r55) := ⟨_, rfl⟩
      have pre6 : ∀ tq, Steps p.tables e below (T5.setTop (mkF m 63 #[.val (.ref ob), .val (.ref tr), .val (.int ds), .val (.int (4 : Int32)), .val (.ref sk), .val (.int i), .unset, .unset] [(.int i), (.int r58)])) tq → Steps p.tables e below (T0.setTop (mkF m 44 #[.val (.ref ob), .val (.ref tr), .val (.int ds), .val (.int (4 : Int32)), .val (.ref sk), .val (.int i), .unset, .unset] [])) tq := by
        intro tq kt
        refine pre2 _ ?_
        show Steps p.tables e below (T1.setTop (mkF m 49 #[.val (.ref ob), .val (.ref tr), .val (.int ds), .val (.int (4 : Int32)), .val (.ref sk), .val (.int i), .unset, .unset] [(.int r46)])) _
        refine XS.ifNo X1.here hx rfl (hb hby d22_49) rfl ((if0 _ _).trans (teq hc49_3).2) ?_
        refine XS.aloadN X1.here hx rfl (hb hby d22_52) rfl rfl ?_
        refine XS.aload X1.here hx rfl (hb hby d22_53) rfl rfl ?_
        refine st4.trans ?_
        show Steps p.tables e below (T4.setTop (mkF m 58 #[.val (.ref ob), .val (.ref tr), .val (.int ds), .val (.int (4 : Int32)), .val (.ref sk), .val (.int i), .unset, .unset] [(.int (own_rd st (sz - (1 : Int32)))), (.ref tr)])) _
        rw [← hr55]
        show Steps p.tables e below (T4.setTop (mkF m 58 #[.val (.ref ob), .val (.ref tr), .val (.int ds), .val (.int (4 : Int32)), .val (.ref sk), .val (.int i), .unset, .unset] [(.int r55), (.ref tr)])) _
        refine st5.trans ?_
        show Steps p.tables e below (T5.setTop (mkF m 61 #[.val (.ref ob), .val (.ref tr), .val (.int ds), .val (.int (4 : Int32)), .val (.ref sk), .val (.int i), .unset, .unset] [(.int (own_rd S.1 r55))])) _
        rw [← hr58]
        show Steps p.tables e below (T5.setTop (mkF m 61 #[.val (.ref ob), .val (.ref tr), .val (.int ds), .val (.int (4 : Int32)), .val (.ref sk), .val (.int i), .unset, .unset] [(.int r58)])) _
        refine XS.iload X5.here hx rfl (hb hby d22_61) rfl ?_
        show Steps p.tables e below (T5.setTop (mkF m 63 #[.val (.ref ob), .val (.ref tr), .val (.int ds), .val (.int (4 : Int32)), .val (.ref sk), .val (.int i), .unset, .unset] [(.int i), (.int r58)])) _
        exact kt
      by_cases hc63_7 : i < r58
      · skip
        have pre8 : ∀ tq, Steps p.tables e below (T5.setTop (mkF m 75 #[.val (.ref ob), .val (.ref tr), .val (.int ds), .val (.int (4 : Int32)), .val (.ref sk), .val (.int i), .unset, .unset] [])) tq → Steps p.tables e below (T0.setTop (mkF m 44 #[.val (.ref ob), .val (.ref tr), .val (.int ds), .val (.int (4 : Int32)), .val (.ref sk), .val (.int i), .unset, .unset] [])) tq := by
          intro tq kt
          refine pre6 _ ?_
          show Steps p.tables e below (T5.setTop (mkF m 63 #[.val (.ref ob), .val (.ref tr), .val (.int ds), .val (.int (4 : Int32)), .val (.ref sk), .val (.int i), .unset, .unset] [(.int i), (.int r58)])) _
          refine XS.icmpYes X5.here hx rfl (pc0 := 63) (pc' := 75) rfl (hb hby d22_63) rfl (tlt hc63_7).2.2.1 (by decide) (by decide) ?_
          show Steps p.tables e below (T5.setTop (mkF m 75 #[.val (.ref ob), .val (.ref tr), .val (.int ds), .val (.int (4 : Int32)), .val (.ref sk), .val (.int i), .unset, .unset] [])) _
          exact kt
        have hq9 : fin = sz := (own_post_22_75_ft ds i st lo bd S fin k sz hinv r46 hr46 hc49_3 hp4_hin r55 hr55 hp5_hin r58 hr58 hc63_7)
        exact ⟨T5, h0, _, sz, X5, e5, N5, K0, I0, I2, I3, I4, I5, hq9, fun tq kt => pre8 tq kt⟩
      · skip
        have hp10_hin : own_inx st (sz - (1 : Int32)) = true := (own_pre_22_68_hin_ff ds i st lo bd S fin k sz hinv r46 hr46 hc49_3 hp4_hin r55 hr55 hp5_hin r58 hr58 hc63_7)
        obtain ⟨cq10, kq10, q10a, q10b, q10c⟩ := isOf hZ e5 I2
        obtain ⟨_, _, ⟨T10, L10, k10, n10⟩, -, X10, ⟨Lc10, hQ10, l10, y10, z10⟩, st10⟩ := X5.virtualBack hx (y := (⟨"com/example/twigmeter/twigmeter/xml/IntList", "removeLast", "()I"⟩ : MethodName)) (z := (⟨"com/example/twigmeter/twigmeter/xml/IntList", "removeLast", "()I"⟩ : MethodName)) hown (mvT hZ (hw _ (List.mem_of_getElem? (i := 190) rfl))) (mvT hZ (hw _ (List.mem_of_getElem? (i := 140) rfl))) (notFace_of_selects (args := #[]) (mvT hZ (hw _ (List.mem_of_getElem? (i := 142) rfl)))) (mvT hZ (hw _ (List.mem_of_getElem? (i := 142) rfl))) (mvT hZ (hw _ (List.mem_of_getElem? (i := 141) rfl))) (by decide) (backOf (W := 0) (rm20 l Z a0 hw [] sk sv st sz h0 n0 Z0 I3 I4 I5 I2 g_sk ne_sk_sv hp10_hin) hZ (hw _ (List.mem_of_getElem? (i := 143) rfl)) (hw _ (List.mem_of_getElem? (i := 96) rfl)) (by decide) (by decide)) q10a q10c (g := (mkF m 68 #[.val (.ref ob), .val (.ref tr), .val (.int ds), .val (.int (4 : Int32)), .val (.ref sk), .val (.int i), .unset, .unset] [(.ref sk)])) rfl (by rw [hml]; rfl) (Steps.refl _) (argsL := []) (rest := []) (lenOf pd_3 rfl) rfl (by show 2 * 0 + _ ≤ _; exact Nat.le_of_eq rfl) (hb hby d22_68) (fun _ _ => ⟨rfl, e5, (by decide : 3 + 0 ≤ _), (by decide : 22 + 0 ≤ _)⟩)
        dsimp only [Pt.U, Pt.locs, Pt.cells, Pt.slots] at X10 l10 y10 z10 st10 hQ10
        replace y10 : k10 = 3 := y10
        replace z10 : n10 = 22 := z10
        subst l10 y10 z10
        obtain ⟨rfl, N10q, K10q, F11, F12, F13⟩ := hQ10
        have N10 := Fr.app N5 N10q
        have F14 : own_tr Z T10.heap tr lo bd S := I0.keep K10q (allS bd_sk all0)
        have F15 : Exa Z T10.heap tr "com/example/twigmeter/twigmeter/xml/ElementTree" := I1.keep K10q
        have F16 : Exa Z T10.heap sk "com/example/twigmeter/twigmeter/xml/IntList" := I2.keep K10q
        have F17 : own_ia Z T10.heap sv st := I5.keep K10q (ninS (Ne.symm ne_sk_sv) nin0)
        have Z18 : n0 ≤ T10.heap.size := Nat.le_trans Z0 K10q.1
        have K19 : Keep h0 T10.heap [sk] := K0.trans K10q (allS (Or.inl (List.mem_of_getElem? (i := 0) rfl)) all0)
        obtain ⟨r68, hr68⟩ : ∃ z_q : Int32, z_q = (own_rd st (sz - (1 : Int32))) := ⟨_, rfl⟩
        have pre20 : ∀ tq, Steps p.tables e below (T10.setTop (mkF m 44 #[.val (.ref ob), .val (.ref tr), .val (.int ds), .val (.int (4 : Int32)), .val (.ref sk), .val (.int i), .unset, .unset] [])) tq → Steps p.tables e below (T0.setTop (mkF m 44 #[.val (.ref ob), .val (.ref tr), .val (.int ds), .val (.int (4 : Int32)), .val (.ref sk), .val (.int i), .unset, .unset] [])) tq := by
          intro tq kt
          refine pre6 _ ?_
          show Steps p.tables e below (T5.setTop (mkF m 63 #[.val (.ref ob), .val (.ref tr), .val (.int ds), .val (.int (4 : Int32)), .val (.ref sk), .val (.int i), .unset, .unset] [(.int i), (.int r58)])) _
          refine XS.icmpNo X5.here hx rfl (hb hby d22_63) rfl (flt hc63_7).2.2.1 ?_
          refine XS.aload X5.here hx rfl (hb hby d22_66) rfl rfl ?_
          refine st10.trans ?_
          show Steps p.tables e below (T10.setTop (mkF m 71 #[.val (.ref ob), .val (.ref tr), .val (.int ds), .val (.int (4 : Int32)), .val (.ref sk), .val (.int i), .unset, .unset] [(.int (own_rd st (sz - (1 : Int32))))])) _
          rw [← hr68]
          show Steps p.tables e below (T10.setTop (mkF m 71 #[.val (.ref ob), .val (.ref tr), .val (.int ds), .val (.int (4 : Int32)), .val (.ref sk), .val (.int i), .unset, .unset] [(.int r68)])) _
          refine XS.pop X10.here hx rfl (hb hby d22_71) rfl rfl ?_
          refine XS.goto X10.here hx rfl (pc0 := 72) (pc' := 44) rfl (hb hby d22_72) (by decide) (by decide) ?_
          show Steps p.tables e below (T10.setTop (mkF m 44 #[.val (.ref ob), .val (.ref tr), .val (.int ds), .val (.int (4 : Int32)), .val (.ref sk), .val (.int i), .unset, .unset] [])) _
          exact kt
        obtain ⟨k', hk', hinv'⟩ : ∃ k' : Nat, k' < k ∧ own_pop S.1 st i k' (sz - (1 : Int32)) = some fin := (own_back_22_44_ff ds i st lo bd S fin k sz hinv r46 hr46 hc49_3 hp4_hin r55 hr55 hp5_hin r58 hr58 hc63_7 hp10_hin r68 hr68)
        obtain ⟨T', h', lc', so, X', e', N', K', fo0_21, fo1_21, fo2_21, fo3_21, fo4_21, hpost', st'⟩ := ih k' hk' ((sz - (1 : Int32))) T10 T10.heap _ hinv' X10 rfl N10 Z18 F14 F15 F11 F12 F13 F17
        exact ⟨T', h', lc', so, X', e', N', K19.trans K' (fun x hx => Or.inl hx), fo0_21, fo1_21, fo2_21, fo3_21, fo4_21, hpost', fun tq kt => pre20 tq (st' tq kt)⟩
    · skip
      have pre22 : ∀ tq, Steps p.tables e below (T1.setTop (mkF m 75 #[.val (.ref ob), .val (.ref tr), .val (.int ds), .val (.int (4 : Int32)), .val (.ref sk), .val (.int i), .unset, .unset] [])) tq → Steps p.tables e below (T0.setTop (mkF m 44 #[.val (.ref ob), .val (.ref tr), .val (.int ds), .val (.int (4 : Int32)), .val (.ref sk), .val (.int i), .unset, .unset] [])) tq := by
        intro tq kt
        refine pre2 _ ?_
        show Steps p.tables e below (T1.setTop (mkF m 49 #[.val (.ref ob), .val (.ref tr), .val (.int ds), .val (.int (4 : Int32)), .val (.ref sk), .val (.int i), .unset, .unset] [(.int r46)])) _
        refine XS.ifYes X1.here hx rfl (pc0 := 49) (pc' := 75) rfl (hb hby d22_49) rfl ((if0 _ _).trans (feq hc49_3).2) (by decide) (by decide) ?_
        show Steps p.tables e below (T1.setTop (mkF m 75 #[.val (.ref ob), .val (.ref tr), .val (.int ds), .val (.int (4 : Int32)), .val (.ref sk), .val (.int i), .unset, .unset] [])) _
        exact kt
      have hq23 : fin = sz := (own_post_22_75_t ds i st lo bd S fin k sz hinv r46 hr46 hc49_3)
      exact ⟨T1, h0, _, sz, X1, e1, N1, K0, I0, I2, I3, I4, I5, hq23, fun tq kt => pre22 tq kt⟩
theorem d22_38 : decode prog_53_method_1_code 38 = .ok (.iload 5, 2) := by decide +kernel
theorem d22_40 : decode prog_53_method_1_code 40 = .ok (.iload_n 3, 1) := by decide +kernel
theorem d22_41 : decode prog_53_method_1_code 41 = .ok (.if_icmp .ge 71, 3) := by decide +kernel
theorem d22_75 : decode prog_53_method_1_code 75 = .ok (.aload_n 0, 1) := by decide +kernel
theorem d22_76 : decode prog_53_method_1_code 76 = .ok (.getfield 23, 3) := by decide +kernel
theorem d22_79 : decode prog_53_method_1_code 79 = .ok (.iload 5, 2) := by decide +kernel
theorem d22_81 : decode prog_53_method_1_code 81 = .ok (.aload 4, 2) := by decide +kernel
theorem d22_83 : decode prog_53_method_1_code 83 = .ok (.invokevirtual 30, 3) := by decide +kernel
theorem d22_86 : decode prog_53_method_1_code 86 = .ok (.ifCond .eq 7, 3) := by decide +kernel
theorem d22_89 : decode prog_53_method_1_code 89 = .ok (.iconst (-1), 1) := by decide +kernel
theorem d22_90 : decode prog_53_method_1_code 90 = .ok (.goto 8, 3) := by decide +kernel
theorem d22_93 : decode prog_53_method_1_code 93 = .ok (.aload 4, 2) := by decide +kernel
theorem d22_95 : decode prog_53_method_1_code 95 = .ok (.invokevirtual 34, 3) := by decide +kernel
theorem d22_98 : decode prog_53_method_1_code 98 = .ok (.iastore, 1) := by decide +kernel
theorem d22_99 : decode prog_53_method_1_code 99 = .ok (.aload 4, 2) := by decide +kernel
theorem d22_101 : decode prog_53_method_1_code 101 = .ok (.iload 5, 2) := by decide +kernel
theorem d22_103 : decode prog_53_method_1_code 103 = .ok (.invokevirtual 44, 3) := by decide +kernel
theorem d22_106 : decode prog_53_method_1_code 106 = .ok (.iinc 5 1, 3) := by decide +kernel
theorem d22_109 : decode prog_53_method_1_code 109 = .ok (.goto (-71), 3) := by decide +kernel
theorem own_inv_22_44_f (ds : Int32) (lo : Nat) (bd : Nat) (S : own_S) (parF : List Int32) (k : Nat) (i : Int32) (par : List Int32) (st : List Int32) (sz : Int32) (hinv : own_A S.1 k i par st sz = some parF) (hc41_2 : i < (4 : Int32)) (fin : Int32) (hA1 : own_pop S.1 st i 6 sz = some fin) (hA2 : own_inx par i = true) (hA3 : ¬ fin = (0 : Int32) → own_inx st (fin - 1) = true) (hA4 : own_inx st fin = true) (hA5 : ¬ fin = own_len st) (hA6 : ∃ k' : Nat, k' < k ∧ own_A S.1 k' (i + 1) (own_wr par i (if fin = (0 : Int32) then (-1 : Int32) else own_rd st (fin - 1))) (own_wr st fin i) (fin + 1) = some parF) : own_pop S.1 st i (6) sz = some fin := hA1
theorem own_pre_22_95_hin_ft (ds : Int32) (lo : Nat) (bd : Nat) (S : own_S) (parF : List Int32) (k : Nat) (i : Int32) (par : List Int32) (st : List Int32) (sz : Int32) (hinv : own_A S.1 k i par st sz = some parF) (hc41_2 : i < (4 : Int32)) (fin : Int32) (hA1 : own_pop S.1 st i 6 sz = some fin) (hA2 : own_inx par i = true) (hA3 : ¬ fin = (0 : Int32) → own_inx st (fin - 1) = true) (hA4 : own_inx st fin = true) (hA5 : ¬ fin = own_len st) (hA6 : ∃ k' : Nat, k' < k ∧ own_A S.1 k' (i + 1) (own_wr par i (if fin = (0 : Int32) then (-1 : Int32) else own_rd st (fin - 1))) (own_wr st fin i) (fin + 1) = some parF) (r83 : Int32) (hr83 : r83 = (if fin = (0 : Int32) then (1 : Int32) else (0 : Int32))) (hc86_23 : r83 = (0 : Int32)) : own_inx st (fin - (1 : Int32)) = true := hA3 (own_e0 hr83 hc86_23)
theorem own_inx_22_98_ft (ds : Int32) (lo : Nat) (bd : Nat) (S : own_S) (parF : List Int32) (k : Nat) (i : Int32) (par : List Int32) (st : List Int32) (sz : Int32) (hinv : own_A S.1 k i par st sz = some parF) (hc41_2 : i < (4 : Int32)) (fin : Int32) (hA1 : own_pop S.1 st i 6 sz = some fin) (hA2 : own_inx par i = true) (hA3 : ¬ fin = (0 : Int32) → own_inx st (fin - 1) = true) (hA4 : own_inx st fin = true) (hA5 : ¬ fin = own_len st) (hA6 : ∃ k' : Nat, k' < k ∧ own_A S.1 k' (i + 1) (own_wr par i (if fin = (0 : Int32) then (-1 : Int32) else own_rd st (fin - 1))) (own_wr st fin i) (fin + 1) = some parF) (r83 : Int32) (hr83 : r83 = (if fin = (0 : Int32) then (1 : Int32) else (0 : Int32))) (hc86_23 : r83 = (0 : Int32)) (hp24_hin : own_inx st (fin - (1 : Int32)) = true) (r95 : Int32) (hr95 : r95 = (own_rd st (fin - (1 : Int32)))) : own_inx par i = true := hA2
theorem own_pre_22_103_hin_ft (ds : Int32) (lo : Nat) (bd : Nat) (S : own_S) (parF : List Int32) (k : Nat) (i : Int32) (par : List Int32) (st : List Int32) (sz : Int32) (hinv : own_A S.1 k i par st sz = some parF) (hc41_2 : i < (4 : Int32)) (fin : Int32) (hA1 : own_pop S.1 st i 6 sz = some fin) (hA2 : own_inx par i = true) (hA3 : ¬ fin = (0 : Int32) → own_inx st (fin - 1) = true) (hA4 : own_inx st fin = true) (hA5 : ¬ fin = own_len st) (hA6 : ∃ k' : Nat, k' < k ∧ own_A S.1 k' (i + 1) (own_wr par i (if fin = (0 : Int32) then (-1 : Int32) else own_rd st (fin - 1))) (own_wr st fin i) (fin + 1) = some parF) (r83 : Int32) (hr83 : r83 = (if fin = (0 : Int32) then (1 : Int32) else (0 : Int32))) (hc86_23 : r83 = (0 : Int32)) (hp24_hin : own_inx st (fin - (1 : Int32)) = true) (r95 : Int32) (hr95 : r95 = (own_rd st (fin - (1 : Int32)))) : own_inx st fin = true := hA4
theorem own_pre_22_103_hne_ft (ds : Int32) (lo : Nat) (bd : Nat) (S : own_S) (parF : List Int32) (k : Nat) (i : Int32) (par : List Int32) (st : List Int32) (sz : Int32) (hinv : own_A S.1 k i par st sz = some parF) (hc41_2 : i < (4 : Int32)) (fin : Int32) (hA1 : own_pop S.1 st i 6 sz = some fin) (hA2 : own_inx par i = true) (hA3 : ¬ fin = (0 : Int32) → own_inx st (fin - 1) = true) (hA4 : own_inx st fin = true) (hA5 : ¬ fin = own_len st) (hA6 : ∃ k' : Nat, k' < k ∧ own_A S.1 k' (i + 1) (own_wr par i (if fin = (0 : Int32) then (-1 : Int32) else own_rd st (fin - 1))) (own_wr st fin i) (fin + 1) = some parF) (r83 : Int32) (hr83 : r83 = (if fin = (0 : Int32) then (1 : Int32) else (0 : Int32))) (hc86_23 : r83 = (0 : Int32)) (hp24_hin : own_inx st (fin - (1 : Int32)) = true) (r95 : Int32) (hr95 : r95 = (own_rd st (fin - (1 : Int32)))) (hp37_hin : own_inx st fin = true) : ¬ (fin = (own_len st)) := hA5
theorem own_back_22_38_ft (ds : Int32) (lo : Nat) (bd : Nat) (S : own_S) (parF : List Int32) (k : Nat) (i : Int32) (par : List Int32) (st : List Int32) (sz : Int32) (hinv : own_A S.1 k i par st sz = some parF) (hc41_2 : i < (4 : Int32)) (fin : Int32) (hA1 : own_pop S.1 st i 6 sz = some fin) (hA2 : own_inx par i = true) (hA3 : ¬ fin = (0 : Int32) → own_inx st (fin - 1) = true) (hA4 : own_inx st fin = true) (hA5 : ¬ fin = own_len st) (hA6 : ∃ k' : Nat, k' < k ∧ own_A S.1 k' (i + 1) (own_wr par i (if fin = (0 : Int32) then (-1 : Int32) else own_rd st (fin - 1))) (own_wr st fin i) (fin + 1) = some parF) (r83 : Int32) (hr83 : r83 = (if fin = (0 : Int32) then (1 : Int32) else (0 : Int32))) (hc86_23 : r83 = (0 : Int32)) (hp24_hin : own_inx st (fin - (1 : Int32)) = true) (r95 : Int32) (hr95 : r95 = (own_rd st (fin - (1 : Int32)))) (hp37_hin : own_inx st fin = true) (hp37_hne : ¬ (fin = (own_len st))) (v106 : Int32) (hv106 : v106 = (i + (1 : Int32))) : ∃ k' : Nat, k' < k ∧ own_A S.1 k' v106 (own_wr par i r95) (own_wr st fin i) (fin + (1 : Int32)) = some parF := by obtain ⟨k', hk, hh⟩ := hA6; rw [if_neg (own_e0 hr83 hc86_23)] at hh; exact ⟨k', hk, by rw [hv106, hr95]; exact hh⟩
theorem own_inx_22_98_ff (ds : Int32) (lo : Nat) (bd : Nat) (S : own_S) (parF : List Int32) (k : Nat) (i : Int32) (par : List Int32) (st : List Int32) (sz : Int32) (hinv : own_A S.1 k i par st sz = some parF) (hc41_2 : i < (4 : Int32)) (fin : Int32) (hA1 : own_pop S.1 st i 6 sz = some fin) (hA2 : own_inx par i = true) (hA3 : ¬ fin = (0 : Int32) → own_inx st (fin - 1) = true) (hA4 : own_inx st fin = true) (hA5 : ¬ fin = own_len st) (hA6 : ∃ k' : Nat, k' < k ∧ own_A S.1 k' (i + 1) (own_wr par i (if fin = (0 : Int32) then (-1 : Int32) else own_rd st (fin - 1))) (own_wr st fin i) (fin + 1) = some parF) (r83 : Int32) (hr83 : r83 = (if fin = (0 : Int32) then (1 : Int32) else (0 : Int32))) (hc86_23 : ¬ (r83 = (0 : Int32))) : own_inx par i = true := hA2
theorem own_pre_22_103_hin_ff (ds : Int32) (lo : Nat) (bd : Nat) (S : own_S) (parF : List Int32) (k : Nat) (i : Int32) (par : List Int32) (st : List Int32) (sz : Int32) (hinv : own_A S.1 k i par st sz = some parF) (hc41_2 : i < (4 : Int32)) (fin : Int32) (hA1 : own_pop S.1 st i 6 sz = some fin) (hA2 : own_inx par i = true) (hA3 : ¬ fin = (0 : Int32) → own_inx st (fin - 1) = true) (hA4 : own_inx st fin = true) (hA5 : ¬ fin = own_len st) (hA6 : ∃ k' : Nat, k' < k ∧ own_A S.1 k' (i + 1) (own_wr par i (if fin = (0 : Int32) then (-1 : Int32) else own_rd st (fin - 1))) (own_wr st fin i) (fin + 1) = some parF) (r83 : Int32) (hr83 : r83 = (if fin = (0 : Int32) then (1 : Int32) else (0 : Int32))) (hc86_23 : ¬ (r83 = (0 : Int32))) : own_inx st fin = true := hA4
theorem own_pre_22_103_hne_ff (ds : Int32) (lo : Nat) (bd : Nat) (S : own_S) (parF : List Int32) (k : Nat) (i : Int32) (par : List Int32) (st : List Int32) (sz : Int32) (hinv : own_A S.1 k i par st sz = some parF) (hc41_2 : i < (4 : Int32)) (fin : Int32) (hA1 : own_pop S.1 st i 6 sz = some fin) (hA2 : own_inx par i = true) (hA3 : ¬ fin = (0 : Int32) → own_inx st (fin - 1) = true) (hA4 : own_inx st fin = true) (hA5 : ¬ fin = own_len st) (hA6 : ∃ k' : Nat, k' < k ∧ own_A S.1 k' (i + 1) (own_wr par i (if fin = (0 : Int32) then (-1 : Int32) else own_rd st (fin - 1))) (own_wr st fin i) (fin + 1) = some parF) (r83 : Int32) (hr83 : r83 = (if fin = (0 : Int32) then (1 : Int32) else (0 : Int32))) (hc86_23 : ¬ (r83 = (0 : Int32))) (hp64_hin : own_inx st fin = true) : ¬ (fin = (own_len st)) := hA5
theorem own_back_22_38_ff (ds : Int32) (lo : Nat) (bd : Nat) (S : own_S) (parF : List Int32) (k : Nat) (i : Int32) (par : List Int32) (st : List Int32) (sz : Int32) (hinv : own_A S.1 k i par st sz = some parF) (hc41_2 : i < (4 : Int32)) (fin : Int32) (hA1 : own_pop S.1 st i 6 sz = some fin) (hA2 : own_inx par i = true) (hA3 : ¬ fin = (0 : Int32) → own_inx st (fin - 1) = true) (hA4 : own_inx st fin = true) (hA5 : ¬ fin = own_len st) (hA6 : ∃ k' : Nat, k' < k ∧ own_A S.1 k' (i + 1) (own_wr par i (if fin = (0 : Int32) then (-1 : Int32) else own_rd st (fin - 1))) (own_wr st fin i) (fin + 1) = some parF) (r83 : Int32) (hr83 : r83 = (if fin = (0 : Int32) then (1 : Int32) else (0 : Int32))) (hc86_23 : ¬ (r83 = (0 : Int32))) (hp64_hin : own_inx st fin = true) (hp64_hne : ¬ (fin = (own_len st))) (v106 : Int32) (hv106 : v106 = (i + (1 : Int32))) : ∃ k' : Nat, k' < k ∧ own_A S.1 k' v106 (own_wr par i (-1 : Int32)) (own_wr st fin i) (fin + (1 : Int32)) = some parF := by obtain ⟨k', hk, hh⟩ := hA6; rw [if_pos (own_e1 hr83 hc86_23)] at hh; exact ⟨k', hk, by rw [hv106]; exact hh⟩
theorem own_post_22_112_t (ds : Int32) (lo : Nat) (bd : Nat) (S : own_S) (parF : List Int32) (k : Nat) (i : Int32) (par : List Int32) (st : List Int32) (sz : Int32) (hinv : own_A S.1 k i par st sz = some parF) (hc41_2 : ¬ (i < (4 : Int32))) : parF = par := (own_A_out hinv hc41_2).symm
set_option maxRecDepth 65536 in
set_option maxHeartbeats 40000000 in
theorem lp22_38 {p : Program} {l : Launch} {e : Env} {s : State} {m : MethodId} {args : Array Value} {below : List Frame} {meth : Method} {c : Code} {Z : State} {a0 : Array Value} (n0 : Nat) (ob : Addr) (tr : Addr) (ds : Int32) (sk : Addr) (sv : Addr) (pr : Addr) (lo : Nat) (bd : Nat) (S : own_S) (parF : List Int32) (hx : p.tables.exec = Jvm.exec) (hZ : Z.Warmed39 s.vm) (hw : ∀ d ∈ tables_1, d.before a0 Z = true) (hby : c.code = prog_53_method_1_code) (hml : c.maxLocals = 8) (hown : s.vm.findClass "com/example/twigmeter/twigmeter/workload/Reach" = some m.cls) (g_sk : n0 ≤ sk) (g_sv : n0 ≤ sv) (g_pr : n0 ≤ pr) (ne_ob_sk : ob ≠ sk) (ne_ob_sv : ob ≠ sv) (ne_ob_pr : ob ≠ pr) (ne_sk_sv : sk ≠ sv) (ne_sk_pr : sk ≠ pr) (ne_sv_pr : sv ≠ pr) (bd_sk : bd ≤ sk) (bd_sv : bd ≤ sv) (bd_pr : bd ≤ pr) :
    ∀ (k : Nat) (i : Int32) (par : List Int32) (st : List Int32) (sz : Int32) (T0 : State) (h0 : Heap) (locs : List Loc), (own_A S.1 k i par st sz = some parF) → Stand p l e ({ frames := 2, cells := 6, slots := 35, locals := 60 } : Room) s m args below meth c T0 locs 3 22 → T0.heap = h0 → Fr n0 locs → n0 ≤ h0.size → own_tr Z h0 tr lo bd S → Exa Z h0 tr "com/example/twigmeter/twigmeter/xml/ElementTree" → Exa Z h0 ob "com/example/twigmeter/twigmeter/workload/Reach" → Fld Z h0 ob "com/example/twigmeter/twigmeter/workload/Reach" "parents" "[I" (.ref pr) → own_ia Z h0 pr par → Exa Z h0 sk "com/example/twigmeter/twigmeter/xml/IntList" → Fld Z h0 sk "com/example/twigmeter/twigmeter/xml/IntList" "values" "[I" (.ref sv) → Fld Z h0 sk "com/example/twigmeter/twigmeter/xml/IntList" "size" "I" (.int sz) → own_ia Z h0 sv st → 
      ∃ (T' : State) (h' : Heap) (locs' : List Loc) (io : Int32) (po : List Int32), Stand p l e ({ frames := 2, cells := 6, slots := 35, locals := 60 } : Room) s m args below meth c T' locs' 3 22 ∧ T'.heap = h' ∧ Fr n0 locs' ∧ Keep h0 h' [sk, sv, pr] ∧ own_ia Z h' pr po ∧ (parF = po) ∧
        ∀ tq, Steps p.tables e below (T'.setTop (mkF m 112 #[.val (.ref ob), .val (.ref tr), .val (.int ds), .val (.int (4 : Int32)), .val (.ref sk), .val (.int io), .unset, .unset] [])) tq → Steps p.tables e below (T0.setTop (mkF m 38 #[.val (.ref ob), .val (.ref tr), .val (.int ds), .val (.int (4 : Int32)), .val (.ref sk), .val (.int i), .unset, .unset] [])) tq := by
  intro k
  induction k using Nat.strongRecOn with
  | _ k ih =>
    intro i par st sz T0 h0 locs hinv X0 e0 N0 Z0 I0 I1 I2 I3 I4 I5 I6 I7 I8
    have K0 : Keep h0 h0 [sk, sv, pr] := Keep.refl h0 _
    have pre0 : ∀ tq, Steps p.tables e below (T0.setTop (mkF m 38 #[.val (.ref ob), .val (.ref tr), .val (.int ds), .val (.int (4 : Int32)), .val (.ref sk), .val (.int i), .unset, .unset] [])) tq → Steps p.tables e below (T0.setTop (mkF m 38 #[.val (.ref ob), .val (.ref tr), .val (.int ds), .val (.int (4 : Int32)), .val (.ref sk), .val (.int i), .unset, .unset] [])) tq := fun _ h => h
    have pre1 : ∀ tq, Steps p.tables e below (T0.setTop (mkF m 41 #[.val (.ref ob), .val (.ref tr), .val (.int ds), .val (.int (4 : Int32)), .val (.ref sk), .val (.int i), .unset, .unset] [(.int (4 : Int32)), (.int i)])) tq → Steps p.tables e below (T0.setTop (mkF m 38 #[.val (.ref ob), .val (.ref tr), .val (.int ds), .val (.int (4 : Int32)), .val (.ref sk), .val (.int i), .unset, .unset] [])) tq := by
      intro tq kt
      refine pre0 _ ?_
      show Steps p.tables e below (T0.setTop (mkF m 38 #[.val (.ref ob), .val (.ref tr), .val (.int ds), .val (.int (4 : Int32)), .val (.ref sk), .val (.int i), .unset, .unset] [])) _
      refine XS.iload X0.here hx rfl (hb hby d22_38) rfl ?_
      refine XS.iloadN X0.here hx rfl (hb hby d22_40) rfl ?_
      show Steps p.tables e below (T0.setTop (mkF m 41 #[.val (.ref ob), .val (.ref tr), .val (.int ds), .val (.int (4 : Int32)), .val (.ref sk), .val (.int i), .unset, .unset] [(.int (4 : Int32)), (.int i)])) _
      exact kt
    by_cases hc41_2 : i < (4 : Int32)
    · skip
      have pre4 : ∀ tq, Steps p.tables e below (T0.setTop (mkF m 44 #[.val (.ref ob), .val (.ref tr), .val (.int ds), .val (.int (4 : Int32)), .val (.ref sk), .val (.int i), .unset, .unset] [])) tq → Steps p.tables e below (T0.setTop (mkF m 38 #[.val (.ref ob), .val (.ref tr), .val (.int ds), .val (.int (4 : Int32)), .val (.ref sk), .val (.int i), .unset, .unset] [])) tq := by
        intro tq kt
        refine pre1 _ ?_
        show Steps p.tables e below (T0.setTop (mkF m 41 #[.val (.ref ob), .val (.ref tr), .val (.int ds), .val (.int (4 : Int32)), .val (.ref sk), .val (.int i), .unset, .unset] [(.int (4 : Int32)), (.int i)])) _
        refine XS.icmpNo X0.here hx rfl (hb hby d22_41) rfl (tlt hc41_2).2.1 ?_
        show Steps p.tables e below (T0.setTop (mkF m 44 #[.val (.ref ob), .val (.ref tr), .val (.int ds), .val (.int (4 : Int32)), .val (.ref sk), .val (.int i), .unset, .unset] [])) _
        exact kt
      obtain ⟨fin, hA1, hA2, hA3, hA4, hA5, hA6⟩ := own_A_in hinv hc41_2
      have hinv3 : own_pop S.1 st i (6) sz = some fin := (own_inv_22_44_f ds lo bd S parF k i par st sz hinv hc41_2 fin hA1 hA2 hA3 hA4 hA5 hA6)
      obtain ⟨T3, hX3, lc3, so_3, X3, e3, N3, K3q, F5, F6, F7, F8, F9, hpost3, st3⟩ := lp22_44 n0 (ob) (tr) (ds) (sk) (sv) (i) (st) (lo) (bd) (S) (fin) hx hZ hw hby hml hown g_sk ne_sk_sv bd_sk (6) (sz) T0 h0 _ hinv3 X0 e0 N0 Z0 I0 I1 I5 I6 I7 I8
      have F10 : own_tr Z hX3 tr lo bd S := I0.keep K3q (allS bd_sk all0)
      have F11 : Exa Z hX3 tr "com/example/twigmeter/twigmeter/xml/ElementTree" := I1.keep K3q
      have F12 : Exa Z hX3 ob "com/example/twigmeter/twigmeter/workload/Reach" := I2.keep K3q
      have F13 : Fld Z hX3 ob "com/example/twigmeter/twigmeter/workload/Reach" "parents" "[I" (.ref pr) := I3.keep K3q (ninS ne_ob_sk nin0)
      have F14 : own_ia Z hX3 pr par := I4.keep K3q (ninS (Ne.symm ne_sk_pr) nin0)
      have F15 : Exa Z hX3 sk "com/example/twigmeter/twigmeter/xml/IntList" := I5.keep K3q
      have F16 : own_ia Z hX3 sv st := I8.keep K3q (ninS (Ne.symm ne_sk_sv) nin0)
      have Z17 : n0 ≤ hX3.size := Nat.le_trans Z0 K3q.1
      have K18 : Keep h0 hX3 [sk, sv, pr] := K0.trans K3q (allS (Or.inl (List.mem_of_getElem? (i := 0) rfl)) all0)
      have pre19 : ∀ tq, Steps p.tables e below (T3.setTop (mkF m 75 #[.val (.ref ob), .val (.ref tr), .val (.int ds), .val (.int (4 : Int32)), .val (.ref sk), .val (.int i), .unset, .unset] [])) tq → Steps p.tables e below (T0.setTop (mkF m 38 #[.val (.ref ob), .val (.ref tr), .val (.int ds), .val (.int (4 : Int32)), .val (.ref sk), .val (.int i), .unset, .unset] [])) tq := by
        intro tq kt
        refine pre4 _ ?_
        show Steps p.tables e below (T0.setTop (mkF m 44 #[.val (.ref ob), .val (.ref tr), .val (.int ds), .val (.int (4 : Int32)), .val (.ref sk), .val (.int i), .unset, .unset] [])) _
        refine st3 _ ?_
        show Steps p.tables e below (T3.setTop (mkF m 75 #[.val (.ref ob), .val (.ref tr), .val (.int ds), .val (.int (4 : Int32)), .val (.ref sk), .val (.int i), .unset, .unset] [])) _
        exact kt
      obtain ⟨rfl⟩ := hpost3
      obtain ⟨T20, X20, e20, st20⟩ := getF X3 hx hZ hown (host := "") (Or.inl (hw _ (List.mem_of_getElem? (i := 165) rfl))) Via.refl e3 F13 (g := (mkF m 76 #[.val (.ref ob), .val (.ref tr), .val (.int ds), .val (.int (4 : Int32)), .val (.ref sk), .val (.int i), .unset, .unset] [(.ref ob)])) rfl rfl (hb hby d22_76)
      obtain ⟨cq21, kq21, q21a, q21b, q21c⟩ := isOf hZ e20 F6
      obtain ⟨_, _, ⟨T21, L21, k21, n21⟩, -, X21, ⟨Lc21, hQ21, l21, y21, z21⟩, st21⟩ := X20.virtualBack hx (y := (⟨"com/example/twigmeter/twigmeter/xml/IntList", "isEmpty", "()Z"⟩ : MethodName)) (z := (⟨"com/example/twigmeter/twigmeter/xml/IntList", "isEmpty", "()Z"⟩ : MethodName)) hown (mvT hZ (hw _ (List.mem_of_getElem? (i := 169) rfl))) (mvT hZ (hw _ (List.mem_of_getElem? (i := 170) rfl))) (notFace_of_selects (args := #[]) (mvT hZ (hw _ (List.mem_of_getElem? (i := 172) rfl)))) (mvT hZ (hw _ (List.mem_of_getElem? (i := 172) rfl))) (mvT hZ (hw _ (List.mem_of_getElem? (i := 171) rfl))) (by decide) (backOf (W := 2) (rm24 l Z a0 hw [] sk fin hX3 n0 Z17 F8) hZ (hw _ (List.mem_of_getElem? (i := 173) rfl)) (hw _ (List.mem_of_getElem? (i := 96) rfl)) (by decide) (by decide)) q21a q21c (g := (mkF m 83 #[.val (.ref ob), .val (.ref tr), .val (.int ds), .val (.int (4 : Int32)), .val (.ref sk), .val (.int i), .unset, .unset] [(.ref sk), (.int i), (.ref pr)])) rfl (by rw [hml]; rfl) (Steps.refl _) (argsL := []) (rest := [(.int i), (.ref pr)]) (lenOf pd_9 rfl) rfl (by show 2 * 0 + _ ≤ _; exact Nat.le_of_eq rfl) (hb hby d22_83) (fun _ _ => ⟨rfl, e20, (by decide : 3 + 0 ≤ _), (by decide : 22 + 0 ≤ _)⟩)
      dsimp only [Pt.U, Pt.locs, Pt.cells, Pt.slots] at X21 l21 y21 z21 st21 hQ21
      replace y21 : k21 = 3 := y21
      replace z21 : n21 = 22 := z21
      subst l21 y21 z21
      obtain ⟨rfl, N21q, e21⟩ := hQ21
      have N21 := Fr.app N3 N21q
      obtain ⟨r83, hr83⟩ : ∃ z_q : Int32, z_q = (if fin = (0 : Int32) then (1 : Int32) else (0 : Int32)) := ⟨_, rfl⟩
      have pre22 : ∀ tq, Steps p.tables e below (T21.setTop (mkF m 86 #[.val (.ref ob), .val (.ref tr), .val (.int ds), .val (.int (4 : Int32)), .val (.ref sk), .val (.int i), .unset, .unset] [(.int r83), (.int i), (.ref pr)])) tq → Steps p.tables e below (T0.setTop (mkF m 38 #[.val (.ref ob), .val (.ref tr), .val (.int ds), .val (.int (4 : Int32)), .val (.ref sk), .val (.int i), .unset, .unset] [])) tq := by
        intro tq kt
        refine pre19 _ ?_
        show Steps p.tables e below (T3.setTop (mkF m 75 #[.val (.ref ob), .val (.ref tr), .val (.int ds), .val (.int (4 : Int32)), .val (.ref sk), .val (.int i), .unset, .unset] [])) _
        refine XS.aloadN X3.here hx rfl (hb hby d22_75) rfl rfl ?_
        refine st20 _ ?_
        show Steps p.tables e below (T20.setTop (mkF m 79 #[.val (.ref ob), .val (.ref tr), .val (.int ds), .val (.int (4 : Int32)), .val (.ref sk), .val (.int i), .unset, .unset] [(.ref pr)])) _
        refine XS.iload X20.here hx rfl (hb hby d22_79) rfl ?_
        refine XS.aload X20.here hx rfl (hb hby d22_81) rfl rfl ?_
        refine st21.trans ?_
        show Steps p.tables e below (T21.setTop (mkF m 86 #[.val (.ref ob), .val (.ref tr), .val (.int ds), .val (.int (4 : Int32)), .val (.ref sk), .val (.int i), .unset, .unset] [(.int (if fin = (0 : Int32) then (1 : Int32) else (0 : Int32))), (.int i), (.ref pr)])) _
        rw [← hr83]
        show Steps p.tables e below (T21.setTop (mkF m 86 #[.val (.ref ob), .val (.ref tr), .val (.int ds), .val (.int (4 : Int32)), .val (.ref sk), .val (.int i), .unset, .unset] [(.int r83), (.int i), (.ref pr)])) _
        exact kt
      by_cases hc86_23 : r83 = (0 : Int32)
      · skip
        have hp24_hin : own_inx st (fin - (1 : Int32)) = true := (own_pre_22_95_hin_ft ds lo bd S parF k i par st sz hinv hc41_2 fin hA1 hA2 hA3 hA4 hA5 hA6 r83 hr83 hc86_23)
        obtain ⟨cq24, kq24, q24a, q24b, q24c⟩ := isOf hZ e21 F6
        obtain ⟨_, _, ⟨T24, L24, k24, n24⟩, -, X24, ⟨Lc24, hQ24, l24, y24, z24⟩, st24⟩ := X21.virtualBack hx (y := (⟨"com/example/twigmeter/twigmeter/xml/IntList", "last", "()I"⟩ : MethodName)) (z := (⟨"com/example/twigmeter/twigmeter/xml/IntList", "last", "()I"⟩ : MethodName)) hown (mvT hZ (hw _ (List.mem_of_getElem? (i := 175) rfl))) (mvT hZ (hw _ (List.mem_of_getElem? (i := 176) rfl))) (notFace_of_selects (args := #[]) (mvT hZ (hw _ (List.mem_of_getElem? (i := 178) rfl)))) (mvT hZ (hw _ (List.mem_of_getElem? (i := 178) rfl))) (mvT hZ (hw _ (List.mem_of_getElem? (i := 177) rfl))) (by decide) (backOf (W := 2) (rm25 l Z a0 hw [] sk sv st fin hX3 n0 Z17 F7 F8 F9 hp24_hin) hZ (hw _ (List.mem_of_getElem? (i := 179) rfl)) (hw _ (List.mem_of_getElem? (i := 96) rfl)) (by decide) (by decide)) q24a q24c (g := (mkF m 95 #[.val (.ref ob), .val (.ref tr), .val (.int ds), .val (.int (4 : Int32)), .val (.ref sk), .val (.int i), .unset, .unset] [(.ref sk), (.int i), (.ref pr)])) rfl (by rw [hml]; rfl) (Steps.refl _) (argsL := []) (rest := [(.int i), (.ref pr)]) (lenOf pd_3 rfl) rfl (by show 2 * 0 + _ ≤ _; exact Nat.le_of_eq rfl) (hb hby d22_95) (fun _ _ => ⟨rfl, e21, (by decide : 3 + 0 ≤ _), (by decide : 22 + 0 ≤ _)⟩)
        dsimp only [Pt.U, Pt.locs, Pt.cells, Pt.slots] at X24 l24 y24 z24 st24 hQ24
        replace y24 : k24 = 3 := y24
        replace z24 : n24 = 22 := z24
        subst l24 y24 z24
        obtain ⟨rfl, N24q, e24⟩ := hQ24
        have N24 := Fr.app N21 N24q
        obtain ⟨r95, hr95⟩ : ∃ z_q : Int32, z_q = (own_rd st (fin - (1 : Int32))) := ⟨_, rfl⟩
        obtain ⟨cl25, Ar25, hin25, pt25⟩ := F14.put (j := i) (own_inx_22_98_ft ds lo bd S parF k i par st sz hinv hc41_2 fin hA1 hA2 hA3 hA4 hA5 hA6 r83 hr83 hc86_23 hp24_hin r95 hr95)
        obtain ⟨T25, hX25, X25, e25, W25, st25⟩ := stI X24 hx hZ e24 Ar25 (j := i) hin25 (g := (mkF m 98 #[.val (.ref ob), .val (.ref tr), .val (.int ds), .val (.int (4 : Int32)), .val (.ref sk), .val (.int i), .unset, .unset] [(.int r95), (.int i), (.ref pr)])) rfl rfl (hb hby d22_98)
        have F26 : own_ia Z hX25 pr (own_wr par i r95) := pt25 _ _ W25
        have N25 := Fr.snoc X25 N24 g_pr
        have F27 : own_tr Z hX25 tr lo bd S := F5.keep (Keep.of_wr W25) (allS bd_pr all0)
        have F28 : Exa Z hX25 tr "com/example/twigmeter/twigmeter/xml/ElementTree" := F11.wr W25
        have F29 : Exa Z hX25 ob "com/example/twigmeter/twigmeter/workload/Reach" := F12.wr W25
        have F30 : Fld Z hX25 ob "com/example/twigmeter/twigmeter/workload/Reach" "parents" "[I" (.ref pr) := F13.other W25 (Or.inl ne_ob_pr)
        have F31 : Exa Z hX25 sk "com/example/twigmeter/twigmeter/xml/IntList" := F6.wr W25
        have F32 : own_ia Z hX25 sv st := F9.other W25 ne_sv_pr
        have F33 : Fld Z hX25 sk "com/example/twigmeter/twigmeter/xml/IntList" "values" "[I" (.ref sv) := F7.other W25 (Or.inl ne_sk_pr)
        have F34 : Fld Z hX25 sk "com/example/twigmeter/twigmeter/xml/IntList" "size" "I" (.int fin) := F8.other W25 (Or.inl ne_sk_pr)
        have Z35 : n0 ≤ hX25.size := Nat.le_trans Z17 (Keep.of_wr W25).1
        have K36 : Keep h0 hX25 [sk, sv, pr] := K18.wr W25 (Or.inl (List.mem_of_getElem? (i := 2) rfl))
        have hp37_hin : own_inx st fin = true := (own_pre_22_103_hin_ft ds lo bd S parF k i par st sz hinv hc41_2 fin hA1 hA2 hA3 hA4 hA5 hA6 r83 hr83 hc86_23 hp24_hin r95 hr95)
        have hp37_hne : ¬ (fin = (own_len st)) := (own_pre_22_103_hne_ft ds lo bd S parF k i par st sz hinv hc41_2 fin hA1 hA2 hA3 hA4 hA5 hA6 r83 hr83 hc86_23 hp24_hin r95 hr95 hp37_hin)
        obtain ⟨cq37, kq37, q37a, q37b, q37c⟩ := isOf hZ e25 F31
        obtain ⟨_, _, ⟨T37, L37, k37, n37⟩, -, X37, ⟨Lc37, hQ37, l37, y37, z37⟩, st37⟩ := X25.virtualBack hx (y := (⟨"com/example/twigmeter/twigmeter/xml/IntList", "add", "(I)V"⟩ : MethodName)) (z := (⟨"com/example/twigmeter/twigmeter/xml/IntList", "add", "(I)V"⟩ : MethodName)) hown (mvT hZ (hw _ (List.mem_of_getElem? (i := 174) rfl))) (mvT hZ (hw _ (List.mem_of_getElem? (i := 124) rfl))) (notFace_of_selects (args := #[]) (mvT hZ (hw _ (List.mem_of_getElem? (i := 126) rfl)))) (mvT hZ (hw _ (List.mem_of_getElem? (i := 126) rfl))) (mvT hZ (hw _ (List.mem_of_getElem? (i := 125) rfl))) (by decide) (backOf (W := 0) (rm16 l Z a0 hw [] sk i sv st fin hX25 n0 Z35 F33 F34 F32 F31 g_sk g_sv ne_sk_sv hp37_hin hp37_hne) hZ (hw _ (List.mem_of_getElem? (i := 127) rfl)) (hw _ (List.mem_of_getElem? (i := 96) rfl)) (by decide) (by decide)) q37a q37c (g := (mkF m 103 #[.val (.ref ob), .val (.ref tr), .val (.int ds), .val (.int (4 : Int32)), .val (.ref sk), .val (.int i), .unset, .unset] [(.int i), (.ref sk)])) rfl (by rw [hml]; rfl) (Steps.refl _) (argsL := [(.int i)]) (rest := []) (lenOf pd_4 rfl) rfl (by show 2 * 0 + _ ≤ _; exact Nat.le_of_eq rfl) (hb hby d22_103) (fun _ _ => ⟨rfl, e25, (by decide : 3 + 0 ≤ _), (by decide : 22 + 0 ≤ _)⟩)
        dsimp only [Pt.U, Pt.locs, Pt.cells, Pt.slots] at X37 l37 y37 z37 st37 hQ37
        replace y37 : k37 = 3 := y37
        replace z37 : n37 = 22 := z37
        subst l37 y37 z37
        obtain ⟨rfl, N37q, K37q, F38, F39, F40, F41⟩ := hQ37
        have N37 := Fr.app N25 N37q
        have F42 : own_tr Z T37.heap tr lo bd S := F27.keep K37q (allS bd_sk (allS bd_sv all0))
        have F43 : Exa Z T37.heap tr "com/example/twigmeter/twigmeter/xml/ElementTree" := F28.keep K37q
        have F44 : Exa Z T37.heap ob "com/example/twigmeter/twigmeter/workload/Reach" := F29.keep K37q
        have F45 : Fld Z T37.heap ob "com/example/twigmeter/twigmeter/workload/Reach" "parents" "[I" (.ref pr) := F30.keep K37q (ninS ne_ob_sk (ninS ne_ob_sv nin0))
        have F46 : Exa Z T37.heap sk "com/example/twigmeter/twigmeter/xml/IntList" := F31.keep K37q
        have F47 : own_ia Z T37.heap pr (own_wr par i r95) := F26.keep K37q (ninS (Ne.symm ne_sk_pr) (ninS (Ne.symm ne_sv_pr) nin0))
        have Z48 : n0 ≤ T37.heap.size := Nat.le_trans Z35 K37q.1
        have K49 : Keep h0 T37.heap [sk, sv, pr] := K36.trans K37q (allS (Or.inl (List.mem_of_getElem? (i := 0) rfl)) (allS (Or.inl (List.mem_of_getElem? (i := 1) rfl)) all0))
        obtain ⟨v106, hv106⟩ : ∃ z_q : Int32, z_q = (i + (1 : Int32)) := ⟨_, rfl⟩
        have pre50 : ∀ tq, Steps p.tables e below (T37.setTop (mkF m 38 #[.val (.ref ob), .val (.ref tr), .val (.int ds), .val (.int (4 : Int32)), .val (.ref sk), .val (.int v106), .unset, .unset] [])) tq → Steps p.tables e below (T0.setTop (mkF m 38 #[.val (.ref ob), .val (.ref tr), .val (.int ds), .val (.int (4 : Int32)), .val (.ref sk), .val (.int i), .unset, .unset] [])) tq := by
          intro tq kt
          refine pre22 _ ?_
          show Steps p.tables e below (T21.setTop (mkF m 86 #[.val (.ref ob), .val (.ref tr), .val (.int ds), .val (.int (4 : Int32)), .val (.ref sk), .val (.int i), .unset, .unset] [(.int r83), (.int i), (.ref pr)])) _
          refine XS.ifYes X21.here hx rfl (pc0 := 86) (pc' := 93) rfl (hb hby d22_86) rfl ((if0 _ _).trans (teq hc86_23).1) (by decide) (by decide) ?_
          refine XS.aload X21.here hx rfl (hb hby d22_93) rfl rfl ?_
          refine st24.trans ?_
          show Steps p.tables e below (T24.setTop (mkF m 98 #[.val (.ref ob), .val (.ref tr), .val (.int ds), .val (.int (4 : Int32)), .val (.ref sk), .val (.int i), .unset, .unset] [(.int (own_rd st (fin - (1 : Int32)))), (.int i), (.ref pr)])) _
          rw [← hr95]
          show Steps p.tables e below (T24.setTop (mkF m 98 #[.val (.ref ob), .val (.ref tr), .val (.int ds), .val (.int (4 : Int32)), .val (.ref sk), .val (.int i), .unset, .unset] [(.int r95), (.int i), (.ref pr)])) _
          refine st25 _ ?_
          show Steps p.tables e below (T25.setTop (mkF m 99 #[.val (.ref ob), .val (.ref tr), .val (.int ds), .val (.int (4 : Int32)), .val (.ref sk), .val (.int i), .unset, .unset] [])) _
          refine XS.aload X25.here hx rfl (hb hby d22_99) rfl rfl ?_
          refine XS.iload X25.here hx rfl (hb hby d22_101) rfl ?_
          refine st37.trans ?_
          show Steps p.tables e below (T37.setTop (mkF m 106 #[.val (.ref ob), .val (.ref tr), .val (.int ds), .val (.int (4 : Int32)), .val (.ref sk), .val (.int i), .unset, .unset] [])) _
          refine XS.iinc X37.here hx rfl (hb hby d22_106) rfl (l' := #[.val (.ref ob), .val (.ref tr), .val (.int ds), .val (.int (4 : Int32)), .val (.ref sk), .val (.int v106), .unset, .unset]) (by rw [hv106]; rfl) ?_
          refine XS.goto X37.here hx rfl (pc0 := 109) (pc' := 38) rfl (hb hby d22_109) (by decide) (by decide) ?_
          show Steps p.tables e below (T37.setTop (mkF m 38 #[.val (.ref ob), .val (.ref tr), .val (.int ds), .val (.int (4 : Int32)), .val (.ref sk), .val (.int v106), .unset, .unset] [])) _
          exact kt
        obtain ⟨k', hk', hinv'⟩ : ∃ k' : Nat, k' < k ∧ own_A S.1 k' v106 (own_wr par i r95) (own_wr st fin i) (fin + (1 : Int32)) = some parF := (own_back_22_38_ft ds lo bd S parF k i par st sz hinv hc41_2 fin hA1 hA2 hA3 hA4 hA5 hA6 r83 hr83 hc86_23 hp24_hin r95 hr95 hp37_hin hp37_hne v106 hv106)
        obtain ⟨T', h', lc', io, po, X', e', N', K', fo0_51, hpost', st'⟩ := ih k' hk' (v106) ((own_wr par i r95)) ((own_wr st fin i)) ((fin + (1 : Int32))) T37 T37.heap _ hinv' X37 rfl N37 Z48 F42 F43 F44 F45 F47 F38 F39 F40 F41
        exact ⟨T', h', lc', io, po, X', e', N', K49.trans K' (fun x hx => Or.inl hx), fo0_51, hpost', fun tq kt => pre50 tq (st' tq kt)⟩
      · skip
        obtain ⟨cl52, Ar52, hin52, pt52⟩ := F14.put (j := i) (own_inx_22_98_ff ds lo bd S parF k i par st sz hinv hc41_2 fin hA1 hA2 hA3 hA4 hA5 hA6 r83 hr83 hc86_23)
        obtain ⟨T52, hX52, X52, e52, W52, st52⟩ := stI X21 hx hZ e21 Ar52 (j := i) hin52 (g := (mkF m 98 #[.val (.ref ob), .val (.ref tr), .val (.int ds), .val (.int (4 : Int32)), .val (.ref sk), .val (.int i), .unset, .unset] [(.int (-1 : Int32)), (.int i), (.ref pr)])) rfl rfl (hb hby d22_98)
        have F53 : own_ia Z hX52 pr (own_wr par i (-1 : Int32)) := pt52 _ _ W52
        have N52 := Fr.snoc X52 N21 g_pr
        have F54 : own_tr Z hX52 tr lo bd S := F5.keep (Keep.of_wr W52) (allS bd_pr all0)
        have F55 : Exa Z hX52 tr "com/example/twigmeter/twigmeter/xml/ElementTree" := F11.wr W52
        have F56 : Exa Z hX52 ob "com/example/twigmeter/twigmeter/workload/Reach" := F12.wr W52
        have F57 : Fld Z hX52 ob "com/example/twigmeter/twigmeter/workload/Reach" "parents" "[I" (.ref pr) := F13.other W52 (Or.inl ne_ob_pr)
        have F58 : Exa Z hX52 sk "com/example/twigmeter/twigmeter/xml/IntList" := F6.wr W52
        have F59 : own_ia Z hX52 sv st := F9.other W52 ne_sv_pr
        have F60 : Fld Z hX52 sk "com/example/twigmeter/twigmeter/xml/IntList" "values" "[I" (.ref sv) := F7.other W52 (Or.inl ne_sk_pr)
        have F61 : Fld Z hX52 sk "com/example/twigmeter/twigmeter/xml/IntList" "size" "I" (.int fin) := F8.other W52 (Or.inl ne_sk_pr)
        have Z62 : n0 ≤ hX52.size := Nat.le_trans Z17 (Keep.of_wr W52).1
        have K63 : Keep h0 hX52 [sk, sv, pr] := K18.wr W52 (Or.inl (List.mem_of_getElem? (i := 2) rfl))
        have hp64_hin : own_inx st fin = true := (own_pre_22_103_hin_ff ds lo bd S parF k i par st sz hinv hc41_2 fin hA1 hA2 hA3 hA4 hA5 hA6 r83 hr83 hc86_23)
        have hp64_hne : ¬ (fin = (own_len st)) := (own_pre_22_103_hne_ff ds lo bd S parF k i par st sz hinv hc41_2 fin hA1 hA2 hA3 hA4 hA5 hA6 r83 hr83 hc86_23 hp64_hin)
        obtain ⟨cq64, kq64, q64a, q64b, q64c⟩ := isOf hZ e52 F58
        obtain ⟨_, _, ⟨T64, L64, k64, n64⟩, -, X64, ⟨Lc64, hQ64, l64, y64, z64⟩, st64⟩ := X52.virtualBack hx (y := (⟨"com/example/twigmeter/twigmeter/xml/IntList", "add", "(I)V"⟩ : MethodName)) (z := (⟨"com/example/twigmeter/twigmeter/xml/IntList", "add", "(I)V"⟩ : MethodName)) hown (mvT hZ (hw _ (List.mem_of_getElem? (i := 174) rfl))) (mvT hZ (hw _ (List.mem_of_getElem? (i := 124) rfl))) (notFace_of_selects (args := #[]) (mvT hZ (hw _ (List.mem_of_getElem? (i := 126) rfl)))) (mvT hZ (hw _ (List.mem_of_getElem? (i := 126) rfl))) (mvT hZ (hw _ (List.mem_of_getElem? (i := 125) rfl))) (by decide) (backOf (W := 0) (rm16 l Z a0 hw [] sk i sv st fin hX52 n0 Z62 F60 F61 F59 F58 g_sk g_sv ne_sk_sv hp64_hin hp64_hne) hZ (hw _ (List.mem_of_getElem? (i := 127) rfl)) (hw _ (List.mem_of_getElem? (i := 96) rfl)) (by decide) (by decide)) q64a q64c (g := (mkF m 103 #[.val (.ref ob), .val (.ref tr), .val (.int ds), .val (.int (4 : Int32)), .val (.ref sk), .val (.int i), .unset, .unset] [(.int i), (.ref sk)])) rfl (by rw [hml]; rfl) (Steps.refl _) (argsL := [(.int i)]) (rest := []) (lenOf pd_4 rfl) rfl (by show 2 * 0 + _ ≤ _; exact Nat.le_of_eq rfl) (hb hby d22_103) (fun _ _ => ⟨rfl, e52, (by decide : 3 + 0 ≤ _), (by decide : 22 + 0 ≤ _)⟩)
        dsimp only [Pt.U, Pt.locs, Pt.cells, Pt.slots] at X64 l64 y64 z64 st64 hQ64
        replace y64 : k64 = 3 := y64
        replace z64 : n64 = 22 := z64
        subst l64 y64 z64
        obtain ⟨rfl, N64q, K64q, F65, F66, F67, F68⟩ := hQ64
        have N64 := Fr.app N52 N64q
        have F69 : own_tr Z T64.heap tr lo bd S := F54.keep K64q (allS bd_sk (allS bd_sv all0))
        have F70 : Exa Z T64.heap tr "com/example/twigmeter/twigmeter/xml/ElementTree" := F55.keep K64q
        have F71 : Exa Z T64.heap ob "com/example/twigmeter/twigmeter/workload/Reach" := F56.keep K64q
        have F72 : Fld Z T64.heap ob "com/example/twigmeter/twigmeter/workload/Reach" "parents" "[I" (.ref pr) := F57.keep K64q (ninS ne_ob_sk (ninS ne_ob_sv nin0))
        have F73 : Exa Z T64.heap sk "com/example/twigmeter/twigmeter/xml/IntList" := F58.keep K64q
        have F74 : own_ia Z T64.heap pr (own_wr par i (-1 : Int32)) := F53.keep K64q (ninS (Ne.symm ne_sk_pr) (ninS (Ne.symm ne_sv_pr) nin0))
        have Z75 : n0 ≤ T64.heap.size := Nat.le_trans Z62 K64q.1
        have K76 : Keep h0 T64.heap [sk, sv, pr] := K63.trans K64q (allS (Or.inl (List.mem_of_getElem? (i := 0) rfl)) (allS (Or.inl (List.mem_of_getElem? (i := 1) rfl)) all0))
        obtain ⟨v106, hv106⟩ : ∃ z_q : Int32, z_q = (i + (1 : Int32)) := ⟨_, rfl⟩
        have pre77 : ∀ tq, Steps p.tables e below (T64.setTop (mkF m 38 #[.val (.ref ob), .val (.ref tr), .val (.int ds), .val (.int (4 : Int32)), .val (.ref sk), .val (.int v106), .unset, .unset] [])) tq → Steps p.tables e below (T0.setTop (mkF m 38 #[.val (.ref ob), .val (.ref tr), .val (.int ds), .val (.int (4 : Int32)), .val (.ref sk), .val (.int i), .unset, .unset] [])) tq := by
          intro tq kt
          refine pre22 _ ?_
          show Steps p.tables e below (T21.setTop (mkF m 86 #[.val (.ref ob), .val (.ref tr), .val (.int ds), .val (.int (4 : Int32)), .val (.ref sk), .val (.int i), .unset, .unset] [(.int r83), (.int i), (.ref pr)])) _
          refine XS.ifNo X21.here hx rfl (hb hby d22_86) rfl ((if0 _ _).trans (feq hc86_23).1) ?_
          refine XS.iconst X21.here hx rfl (hb hby d22_89) ?_
          refine XS.goto X21.here hx rfl (pc0 := 90) (pc' := 98) rfl (hb hby d22_90) (by decide) (by decide) ?_
          refine st52 _ ?_
          show Steps p.tables e below (T52.setTop (mkF m 99 #[.val (.ref ob), .val (.ref tr), .val (.int ds), .val (.int (4 : Int32)), .val (.ref sk), .val (.int i), .unset, .unset] [])) _
          refine XS.aload X52.here hx rfl (hb hby d22_99) rfl rfl ?_
          refine XS.iload X52.here hx rfl (hb hby d22_101) rfl ?_
          refine st64.trans ?_
          show Steps p.tables e below (T64.setTop (mkF m 106 #[.val (.ref ob), .val (.ref tr), .val (.int ds), .val (.int (4 : Int32)), .val (.ref sk), .val (.int i), .unset, .unset] [])) _
          refine XS.iinc X64.here hx rfl (hb hby d22_106) rfl (l' := #[.val (.ref ob), .val (.ref tr), .val (.int ds), .val (.int (4 : Int32)), .val (.ref sk), .val (.int v106), .unset, .unset]) (by rw [hv106]; rfl) ?_
          refine XS.goto X64.here hx rfl (pc0 := 109) (pc' := 38) rfl (hb hby d22_109) (by decide) (by decide) ?_
          show Steps p.tables e below (T64.setTop (mkF m 38 #[.val (.ref ob), .val (.ref tr), .val (.int ds), .val (.int (4 : Int32)), .val (.ref sk), .val (.int v106), .unset, .unset] [])) _
          exact kt
        obtain ⟨k', hk', hinv'⟩ : ∃ k' : Nat, k' < k ∧ own_A S.1 k' v106 (own_wr par i (-1 : Int32)) (own_wr st fin i) (fin + (1 : Int32)) = some parF := (own_back_22_38_ff ds lo bd S parF k i par st sz hinv hc41_2 fin hA1 hA2 hA3 hA4 hA5 hA6 r83 hr83 hc86_23 hp64_hin hp64_hne v106 hv106)
        obtain ⟨T', h', lc', io, po, X', e', N', K', fo0_78, hpost', st'⟩ := ih k' hk' (v106) ((own_wr par i (-1 : Int32))) ((own_wr st fin i)) ((fin + (1 : Int32))) T64 T64.heap _ hinv' X64 rfl N64 Z75 F69 F70 F71 F72 F74 F65 F66 F67 F68
        exact ⟨T', h', lc', io, po, X', e', N', K76.trans K' (fun x hx => Or.inl hx), fo0_78, hpost', fun tq kt => pre77 tq (st' tq kt)⟩
    · skip
      have pre79 : ∀ tq, Steps p.tables e below (T0.setTop (mkF m 112 #[.val (.ref ob), .val (.ref tr), .val (.int ds), .val (.int (4 : Int32)), .val (.ref sk), .val (.int i), .unset, .unset] [])) tq → Steps p.tables e below (T0.setTop (mkF m 38 #[.val (.ref ob), .val (.ref tr), .val (.int ds), .val (.int (4 : Int32)), .val (.ref sk), .val (.int i), .unset, .unset] [])) tq := by
        intro tq kt
        refine pre1 _ ?_
        show Steps p.tables e below (T0.setTop (mkF m 41 #[.val (.ref ob), .val (.ref tr), .val (.int ds), .val (.int (4 : Int32)), .val (.ref sk), .val (.int i), .unset, .unset] [(.int (4 : Int32)), (.int i)])) _
        refine XS.icmpYes X0.here hx rfl (pc0 := 41) (pc' := 112) rfl (hb hby d22_41) rfl (flt hc41_2).2.1 (by decide) (by decide) ?_
        show Steps p.tables e below (T0.setTop (mkF m 112 #[.val (.ref ob), .val (.ref tr), .val (.int ds), .val (.int (4 : Int32)), .val (.ref sk), .val (.int i), .unset, .unset] [])) _
        exact kt
      have hq80 : parF = par := (own_post_22_112_t ds lo bd S parF k i par st sz hinv hc41_2)
      exact ⟨T0, h0, _, i, par, X0, e0, N0, K0, I4, hq80, fun tq kt => pre79 tq kt⟩
theorem d22_124 : decode prog_53_method_1_code 124 = .ok (.iload 5, 2) := by decide +kernel
theorem d22_126 : decode prog_53_method_1_code 126 = .ok (.iload_n 3, 1) := by decide +kernel
theorem d22_127 : decode prog_53_method_1_code 127 = .ok (.if_icmp .ge 38, 3) := by decide +kernel
theorem d22_130 : decode prog_53_method_1_code 130 = .ok (.aload_n 0, 1) := by decide +kernel
theorem d22_131 : decode prog_53_method_1_code 131 = .ok (.getfield 23, 3) := by decide +kernel
theorem d22_134 : decode prog_53_method_1_code 134 = .ok (.iload 5, 2) := by decide +kernel
theorem d22_136 : decode prog_53_method_1_code 136 = .ok (.iaload, 1) := by decide +kernel
theorem d22_137 : decode prog_53_method_1_code 137 = .ok (.iconst (-1), 1) := by decide +kernel
theorem d22_138 : decode prog_53_method_1_code 138 = .ok (.if_icmp .eq 21, 3) := by decide +kernel
theorem d22_141 : decode prog_53_method_1_code 141 = .ok (.aload_n 0, 1) := by decide +kernel
theorem d22_142 : decode prog_53_method_1_code 142 = .ok (.getfield 48, 3) := by decide +kernel
theorem d22_145 : decode prog_53_method_1_code 145 = .ok (.aload_n 0, 1) := by decide +kernel
theorem d22_146 : decode prog_53_method_1_code 146 = .ok (.getfield 23, 3) := by decide +kernel
theorem d22_149 : decode prog_53_method_1_code 149 = .ok (.iload 5, 2) := by decide +kernel
theorem d22_151 : decode prog_53_method_1_code 151 = .ok (.iaload, 1) := by decide +kernel
theorem d22_152 : decode prog_53_method_1_code 152 = .ok (.iconst 1, 1) := by decide +kernel
theorem d22_153 : decode prog_53_method_1_code 153 = .ok (.iadd, 1) := by decide +kernel
theorem d22_154 : decode prog_53_method_1_code 154 = .ok (.dup2, 1) := by decide +kernel
theorem d22_155 : decode prog_53_method_1_code 155 = .ok (.iaload, 1) := by decide +kernel
theorem d22_156 : decode prog_53_method_1_code 156 = .ok (.iconst 1, 1) := by decide +kernel
theorem d22_157 : decode prog_53_method_1_code 157 = .ok (.iadd, 1) := by decide +kernel
theorem d22_158 : decode prog_53_method_1_code 158 = .ok (.iastore, 1) := by decide +kernel
theorem d22_159 : decode prog_53_method_1_code 159 = .ok (.iinc 5 1, 3) := by decide +kernel
theorem d22_162 : decode prog_53_method_1_code 162 = .ok (.goto (-38), 3) := by decide +kernel
theorem own_inx_22_136_f (ds : Int32) (parF : List Int32) (F1 : List Int32) (k : Nat) (i : Int32) (xs : List Int32) (hinv : own_C parF k i xs = some F1) (hc127_2 : i < (4 : Int32)) : own_inx parF i = true := (own_C_in hinv hc127_2).1
theorem own_back_22_124_ft (ds : Int32) (parF : List Int32) (F1 : List Int32) (k : Nat) (i : Int32) (xs : List Int32) (hinv : own_C parF k i xs = some F1) (hc127_2 : i < (4 : Int32)) (hc138_6 : (own_rd parF i) = (-1 : Int32)) (v159 : Int32) (hv159 : v159 = (i + (1 : Int32))) : ∃ k' : Nat, k' < k ∧ own_C parF k' v159 xs = some F1 := by obtain ⟨k', hk, hh⟩ := (own_C_in hinv hc127_2).2.1 hc138_6; exact ⟨k', hk, by rw [hv159]; exact hh⟩
theorem own_inx_22_151_ff (ds : Int32) (parF : List Int32) (F1 : List Int32) (k : Nat) (i : Int32) (xs : List Int32) (hinv : own_C parF k i xs = some F1) (hc127_2 : i < (4 : Int32)) (hc138_6 : ¬ ((own_rd parF i) = (-1 : Int32))) : own_inx parF i = true := (own_C_in hinv hc127_2).1
theorem own_inx_22_155_ff (ds : Int32) (parF : List Int32) (F1 : List Int32) (k : Nat) (i : Int32) (xs : List Int32) (hinv : own_C parF k i xs = some F1) (hc127_2 : i < (4 : Int32)) (hc138_6 : ¬ ((own_rd parF i) = (-1 : Int32))) : own_inx xs ((own_rd parF i) + (1 : Int32)) = true := ((own_C_in hinv hc127_2).2.2 hc138_6).1
theorem own_inx_22_158_ff (ds : Int32) (parF : List Int32) (F1 : List Int32) (k : Nat) (i : Int32) (xs : List Int32) (hinv : own_C parF k i xs = some F1) (hc127_2 : i < (4 : Int32)) (hc138_6 : ¬ ((own_rd parF i) = (-1 : Int32))) : own_inx xs ((own_rd parF i) + (1 : Int32)) = true := ((own_C_in hinv hc127_2).2.2 hc138_6).1
theorem own_back_22_124_ff (ds : Int32) (parF : List Int32) (F1 : List Int32) (k : Nat) (i : Int32) (xs : List Int32) (hinv : own_C parF k i xs = some F1) (hc127_2 : i < (4 : Int32)) (hc138_6 : ¬ ((own_rd parF i) = (-1 : Int32))) (v159 : Int32) (hv159 : v159 = (i + (1 : Int32))) : ∃ k' : Nat, k' < k ∧ own_C parF k' v159 (own_wr xs ((own_rd parF i) + (1 : Int32)) ((own_rd xs ((own_rd parF i) + (1 : Int32))) + (1 : Int32))) = some F1 := by obtain ⟨k', hk, hh⟩ := ((own_C_in hinv hc127_2).2.2 hc138_6).2; exact ⟨k', hk, by rw [hv159]; exact hh⟩
theorem own_post_22_165_t (ds : Int32) (parF : List Int32) (F1 : List Int32) (k : Nat) (i : Int32) (xs : List Int32) (hinv : own_C parF k i xs = some F1) (hc127_2 : ¬ (i < (4 : Int32))) : F1 = xs := (own_C_out hinv hc127_2).symm
set_option maxRecDepth 65536 in
set_option maxHeartbeats 40000000 in
theorem lp22_124 {p : Program} {l : Launch} {e : Env} {s : State} {m : MethodId} {args : Array Value} {below : List Frame} {meth : Method} {c : Code} {Z : State} {a0 : Array Value} (n0 : Nat) (ob : Addr) (tr : Addr) (ds : Int32) (sk : Addr) (pr : Addr) (fr : Addr) (parF : List Int32) (F1 : List Int32) (hx : p.tables.exec = Jvm.exec) (hZ : Z.Warmed39 s.vm) (hw : ∀ d ∈ tables_1, d.before a0 Z = true) (hby : c.code = prog_53_method_1_code) (hml : c.maxLocals = 8) (hown : s.vm.findClass "com/example/twigmeter/twigmeter/workload/Reach" = some m.cls) (g_fr : n0 ≤ fr) (ne_ob_fr : ob ≠ fr) (ne_pr_fr : pr ≠ fr) :
    ∀ (k : Nat) (i : Int32) (xs : List Int32) (T0 : State) (h0 : Heap) (locs : List Loc), (own_C parF k i xs = some F1) → Stand p l e ({ frames := 2, cells := 6, slots := 35, locals := 60 } : Room) s m args below meth c T0 locs 4 27 → T0.heap = h0 → Fr n0 locs → n0 ≤ h0.size → Exa Z h0 ob "com/example/twigmeter/twigmeter/workload/Reach" → Fld Z h0 ob "com/example/twigmeter/twigmeter/workload/Reach" "parents" "[I" (.ref pr) → own_ia Z h0 pr parF → Fld Z h0 ob "com/example/twigmeter/twigmeter/workload/Reach" "firstChild" "[I" (.ref fr) → own_ia Z h0 fr xs → 
      ∃ (T' : State) (h' : Heap) (locs' : List Loc) (io : Int32) (xo : List Int32), Stand p l e ({ frames := 2, cells := 6, slots := 35, locals := 60 } : Room) s m args below meth c T' locs' 4 27 ∧ T'.heap = h' ∧ Fr n0 locs' ∧ Keep h0 h' [fr] ∧ own_ia Z h' fr xo ∧ (F1 = xo) ∧
        ∀ tq, Steps p.tables e below (T'.setTop (mkF m 165 #[.val (.ref ob), .val (.ref tr), .val (.int ds), .val (.int (4 : Int32)), .val (.ref sk), .val (.int io), .unset, .unset] [])) tq → Steps p.tables e below (T0.setTop (mkF m 124 #[.val (.ref ob), .val (.ref tr), .val (.int ds), .val (.int (4 : Int32)), .val (.ref sk), .val (.int i), .unset, .unset] [])) tq := by
  intro k
  induction k using Nat.strongRecOn with
  | _ k ih =>
    intro i xs T0 h0 locs hinv X0 e0 N0 Z0 I0 I1 I2 I3 I4
    have K0 : Keep h0 h0 [fr] := Keep.refl h0 _
    have pre0 : ∀ tq, Steps p.tables e below (T0.setTop (mkF m 124 #[.val (.ref ob), .val (.ref tr), .val (.int ds), .val (.int (4 : Int32)), .val (.ref sk), .val (.int i), .unset, .unset] [])) tq → Steps p.tables e below (T0.setTop (mkF m 124 #[.val (.ref ob), .val (.ref tr), .val (.int ds), .val (.int (4 : Int32)), .val (.ref sk), .val (.int i), .unset, .unset] [])) tq := fun _ h => h
    have pre1 : ∀ tq, Steps p.tables e below (T0.setTop (mkF m 127 #[.val (.ref ob), .val (.ref tr), .val (.int ds), .val (.int (4 : Int32)), .val (.ref sk), .val (.int i), .unset, .unset] [(.int (4 : Int32)), (.int i)])) tq → Steps p.tables e below (T0.setTop (mkF m 124 #[.val (.ref ob), .val (.ref tr), .val (.int ds), .val (.int (4 : Int32)), .val (.ref sk), .val (.int i), .unset, .unset] [])) tq := by
      intro tq kt
      refine pre0 _ ?_
      show Steps p.tables e below (T0.setTop (mkF m 124 #[.val (.ref ob), .val (.ref tr), .val (.int ds), .val (.int (4 : Int32)), .val (.ref sk), .val (.int i), .unset, .unset] [])) _
      refine XS.iload X0.here hx rfl (hb hby d22_124) rfl ?_
      refine XS.iloadN X0.here hx rfl (hb hby d22_126) rfl ?_
      show Steps p.tables e below (T0.setTop (mkF m 127 #[.val (.ref ob), .val (.ref tr), .val (.int ds), .val (.int (4 : Int32)), .val (.ref sk), .val (.int i), .unset, .unset] [(.int (4 : Int32)), (.int i)])) _
      exact kt
    by_cases hc127_2 : i < (4 : Int32)
    · skip
      obtain ⟨T3, X3, e3, st3⟩ := getF X0 hx hZ hown (host := "") (Or.inl (hw _ (List.mem_of_getElem? (i := 165) rfl))) Via.refl e0 I1 (g := (mkF m 131 #[.val (.ref ob), .val (.ref tr), .val (.int ds), .val (.int (4 : Int32)), .val (.ref sk), .val (.int i), .unset, .unset] [(.ref ob)])) rfl rfl (hb hby d22_131)
      obtain ⟨cl4, Ar4, hin4, hat4⟩ := I2.get (j := i) (own_inx_22_136_f ds parF F1 k i xs hinv hc127_2)
      have pre5 : ∀ tq, Steps p.tables e below (T3.setTop (mkF m 138 #[.val (.ref ob), .val (.ref tr), .val (.int ds), .val (.int (4 : Int32)), .val (.ref sk), .val (.int i), .unset, .unset] [(.int (-1 : Int32)), (.int (own_rd parF i))])) tq → Steps p.tables e below (T0.setTop (mkF m 124 #[.val (.ref ob), .val (.ref tr), .val (.int ds), .val (.int (4 : Int32)), .val (.ref sk), .val (.int i), .unset, .unset] [])) tq := by
        intro tq kt
        refine pre1 _ ?_
        show Steps p.tables e below (T0.setTop (mkF m 127 #[.val (.ref ob), .val (.ref tr), .val (.int ds), .val (.int (4 : Int32)), .val (.ref sk), .val (.int i), .unset, .unset] [(.int (4 : Int32)), (.int i)])) _
        refine XS.icmpNo X0.here hx rfl (hb hby d22_127) rfl (tlt hc127_2).2.1 ?_
        refine XS.aloadN X0.here hx rfl (hb hby d22_130) rfl rfl ?_
        refine st3 _ ?_
        show Steps p.tables e below (T3.setTop (mkF m 134 #[.val (.ref ob), .val (.ref tr), .val (.int ds), .val (.int (4 : Int32)), .val (.ref sk), .val (.int i), .unset, .unset] [(.ref pr)])) _
        refine XS.iload X3.here hx rfl (hb hby d22_134) rfl ?_
        refine X3.iaload hx (j := i) (v := (.int (own_rd parF i))) (heq_of e3 Ar4.1) (State.isArrayOf_alike hZ.alike Ar4.2.1) Ar4.2.2 hin4 hat4 (g := (mkF m 136 #[.val (.ref ob), .val (.ref tr), .val (.int ds), .val (.int (4 : Int32)), .val (.ref sk), .val (.int i), .unset, .unset] [(.int i), (.ref pr)])) rfl rfl (hb hby d22_136) _ ?_
        show Steps p.tables e below (T3.setTop (mkF m 137 #[.val (.ref ob), .val (.ref tr), .val (.int ds), .val (.int (4 : Int32)), .val (.ref sk), .val (.int i), .unset, .unset] [(.int (own_rd parF i))])) _
        refine XS.iconst X3.here hx rfl (hb hby d22_137) ?_
        show Steps p.tables e below (T3.setTop (mkF m 138 #[.val (.ref ob), .val (.ref tr), .val (.int ds), .val (.int (4 : Int32)), .val (.ref sk), .val (.int i), .unset, .unset] [(.int (-1 : Int32)), (.int (own_rd parF i))])) _
        exact kt
      by_cases hc138_6 : (own_rd parF i) = (-1 : Int32)
      · skip
        obtain ⟨v159, hv159⟩ : ∃ z_q : Int32, z_q = (i + (1 : Int32)) := ⟨_, rfl⟩
        have pre7 : ∀ tq, Steps p.tables e below (T3.setTop (mkF m 124 #[.val (.ref ob), .val (.ref tr), .val (.int ds), .val (.int (4 : Int32)), .val (.ref sk), .val (.int v159), .unset, .unset] [])) tq → Steps p.tables e below (T0.setTop (mkF m 124 #[.val (.ref ob), .val (.ref tr), .val (.int ds), .val (.int (4 : Int32)), .val (.ref sk), .val (.int i), .unset, .unset] [])) tq := by
          intro tq kt
          refine pre5 _ ?_
          show Steps p.tables e below (T3.setTop (mkF m 138 #[.val (.ref ob), .val (.ref tr), .val (.int ds), .val (.int (4 : Int32)), .val (.ref sk), .val (.int i), .unset, .unset] [(.int (-1 : Int32)), (.int (own_rd parF i))])) _
          refine XS.icmpYes X3.here hx rfl (pc0 := 138) (pc' := 159) rfl (hb hby d22_138) rfl (teq hc138_6).1 (by decide) (by decide) ?_
          refine XS.iinc X3.here hx rfl (hb hby d22_159) rfl (l' := #[.val (.ref ob), .val (.ref tr), .val (.int ds), .val (.int (4 : Int32)), .val (.ref sk), .val (.int v159), .unset, .unset]) (by rw [hv159]; rfl) ?_
          refine XS.goto X3.here hx rfl (pc0 := 162) (pc' := 124) rfl (hb hby d22_162) (by decide) (by decide) ?_
          show Steps p.tables e below (T3.setTop (mkF m 124 #[.val (.ref ob), .val (.ref tr), .val (.int ds), .val (.int (4 : Int32)), .val (.ref sk), .val (.int v159), .unset, .unset] [])) _
          exact kt
        obtain ⟨k', hk', hinv'⟩ : ∃ k' : Nat, k' < k ∧ own_C parF k' v159 xs = some F1 := (own_back_22_124_ft ds parF F1 k i xs hinv hc127_2 hc138_6 v159 hv159)
        obtain ⟨T', h', lc', io, xo, X', e', N', K', fo0_8, hpost', st'⟩ := ih k' hk' (v159) (xs) T3 h0 _ hinv' X3 e3 N0 Z0 I0 I1 I2 I3 I4
        exact ⟨T', h', lc', io, xo, X', e', N', K0.trans K' (fun x hx => Or.inl hx), fo0_8, hpost', fun tq kt => pre7 tq (st' tq kt)⟩
      · skip
        obtain ⟨T9, X9, e9, st9⟩ := getF X3 hx hZ hown (host := "") (Or.inl (hw _ (List.mem_of_getElem? (i := 191) rfl))) Via.refl e3 I3 (g := (mkF m 142 #[.val (.ref ob), .val (.ref tr), .val (.int ds), .val (.int (4 : Int32)), .val (.ref sk), .val (.int i), .unset, .unset] [(.ref ob)])) rfl rfl (hb hby d22_142)
        obtain ⟨T10, X10, e10, st10⟩ := getF X9 hx hZ hown (host := "") (Or.inl (hw _ (List.mem_of_getElem? (i := 165) rfl))) Via.refl e9 I1 (g := (mkF m 146 #[.val (.ref ob), .val (.ref tr), .val (.int ds), .val (.int (4 : Int32)), .val (.ref sk), .val (.int i), .unset, .unset] [(.ref ob), (.ref fr)])) rfl rfl (hb hby d22_146)
        obtain ⟨cl11, Ar11, hin11, hat11⟩ := I2.get (j := i) (own_inx_22_151_ff ds parF F1 k i xs hinv hc127_2 hc138_6)
        obtain ⟨cl12, Ar12, hin12, hat12⟩ := I4.get (j := ((own_rd parF i) + (1 : Int32))) (own_inx_22_155_ff ds parF F1 k i xs hinv hc127_2 hc138_6)
        obtain ⟨cl13, Ar13, hin13, pt13⟩ := I4.put (j := ((own_rd parF i) + (1 : Int32))) (own_inx_22_158_ff ds parF F1 k i xs hinv hc127_2 hc138_6)
        obtain ⟨T13, hX13, X13, e13, W13, st13⟩ := stI X10 hx hZ e10 Ar13 (j := ((own_rd parF i) + (1 : Int32))) hin13 (g := (mkF m 158 #[.val (.ref ob), .val (.ref tr), .val (.int ds), .val (.int (4 : Int32)), .val (.ref sk), .val (.int i), .unset, .unset] [(.int ((own_rd xs ((own_rd parF i) + (1 : Int32))) + (1 : Int32))), (.int ((own_rd parF i) + (1 : Int32))), (.ref fr)])) rfl rfl (hb hby d22_158)
        have F14 : own_ia Z hX13 fr (own_wr xs ((own_rd parF i) + (1 : Int32)) ((own_rd xs ((own_rd parF i) + (1 : Int32))) + (1 : Int32))) := pt13 _ _ W13
        have N13 := Fr.snoc X13 N0 g_fr
        have F15 : Exa Z hX13 ob "com/example/twigmeter/twigmeter/workload/Reach" := I0.wr W13
        have F16 : Fld Z hX13 ob "com/example/twigmeter/twigmeter/workload/Reach" "parents" "[I" (.ref pr) := I1.other W13 (Or.inl ne_ob_fr)
        have F17 : own_ia Z hX13 pr parF := I2.other W13 ne_pr_fr
        have F18 : Fld Z hX13 ob "com/example/twigmeter/twigmeter/workload/Reach" "firstChild" "[I" (.ref fr) := I3.other W13 (Or.inl ne_ob_fr)
        have Z19 : n0 ≤ hX13.size := Nat.le_trans Z0 (Keep.of_wr W13).1
        have K20 : Keep h0 hX13 [fr] := K0.wr W13 (Or.inl (List.mem_of_getElem? (i := 0) rfl))
        obtain ⟨v159, hv159⟩ : ∃ z_q : Int32, z_q = (i + (1 : Int32)) := ⟨_, rfl⟩
        have pre21 : ∀ tq, Steps p.tables e below (T13.setTop (mkF m 124 #[.val (.ref ob), .val (.ref tr), .val (.int ds), .val (.int (4 : Int32)), .val (.ref sk), .val (.int v159), .unset, .unset] [])) tq → Steps p.tables e below (T0.setTop (mkF m 124 #[.val (.ref ob), .val (.ref tr), .val (.int ds), .val (.int (4 : Int32)), .val (.ref sk), .val (.int i), .unset, .unset] [])) tq := by
          intro tq kt
          refine pre5 _ ?_
          show Steps p.tables e below (T3.setTop (mkF m 138 #[.val (.ref ob), .val (.ref tr), .val (.int ds), .val (.int (4 : Int32)), .val (.ref sk), .val (.int i), .unset, .unset] [(.int (-1 : Int32)), (.int (own_rd parF i))])) _
          refine XS.icmpNo X3.here hx rfl (hb hby d22_138) rfl (feq hc138_6).1 ?_
          refine XS.aloadN X3.here hx rfl (hb hby d22_141) rfl rfl ?_
          refine st9 _ ?_
          show Steps p.tables e below (T9.setTop (mkF m 145 #[.val (.ref ob), .val (.ref tr), .val (.int ds), .val (.int (4 : Int32)), .val (.ref sk), .val (.int i), .unset, .unset] [(.ref fr)])) _
          refine XS.aloadN X9.here hx rfl (hb hby d22_145) rfl rfl ?_
          refine st10 _ ?_
          show Steps p.tables e below (T10.setTop (mkF m 149 #[.val (.ref ob), .val (.ref tr), .val (.int ds), .val (.int (4 : Int32)), .val (.ref sk), .val (.int i), .unset, .unset] [(.ref pr), (.ref fr)])) _
          refine XS.iload X10.here hx rfl (hb hby d22_149) rfl ?_
          refine X10.iaload hx (j := i) (v := (.int (own_rd parF i))) (heq_of e10 Ar11.1) (State.isArrayOf_alike hZ.alike Ar11.2.1) Ar11.2.2 hin11 hat11 (g := (mkF m 151 #[.val (.ref ob), .val (.ref tr), .val (.int ds), .val (.int (4 : Int32)), .val (.ref sk), .val (.int i), .unset, .unset] [(.int i), (.ref pr), (.ref fr)])) rfl rfl (hb hby d22_151) _ ?_
          show Steps p.tables e below (T10.setTop (mkF m 152 #[.val (.ref ob), .val (.ref tr), .val (.int ds), .val (.int (4 : Int32)), .val (.ref sk), .val (.int i), .unset, .unset] [(.int (own_rd parF i)), (.ref fr)])) _
          refine XS.iconst X10.here hx rfl (hb hby d22_152) ?_
          refine XS.iadd X10.here hx rfl (hb hby d22_153) rfl ?_
          show Steps p.tables e below (T10.setTop (mkF m 154 #[.val (.ref ob), .val (.ref tr), .val (.int ds), .val (.int (4 : Int32)), .val (.ref sk), .val (.int i), .unset, .unset] [(.int ((own_rd parF i) + (1 : Int32))), (.ref fr)])) _
          refine XT.dup2 X10.here hx rfl (hb hby d22_154) rfl rfl rfl ?_
          show Steps p.tables e below (T10.setTop (mkF m 155 #[.val (.ref ob), .val (.ref tr), .val (.int ds), .val (.int (4 : Int32)), .val (.ref sk), .val (.int i), .unset, .unset] [(.int ((own_rd parF i) + (1 : Int32))), (.ref fr), (.int ((own_rd parF i) + (1 : Int32))), (.ref fr)])) _
          refine X10.iaload hx (j := ((own_rd parF i) + (1 : Int32))) (v := (.int (own_rd xs ((own_rd parF i) + (1 : Int32))))) (heq_of e10 Ar12.1) (State.isArrayOf_alike hZ.alike Ar12.2.1) Ar12.2.2 hin12 hat12 (g := (mkF m 155 #[.val (.ref ob), .val (.ref tr), .val (.int ds), .val (.int (4 : Int32)), .val (.ref sk), .val (.int i), .unset, .unset] [(.int ((own_rd parF i) + (1 : Int32))), (.ref fr), (.int ((own_rd parF i) + (1 : Int32))), (.ref fr)])) rfl rfl (hb hby d22_155) _ ?_
          show Steps p.tables e below (T10.setTop (mkF m 156 #[.val (.ref ob), .val (.ref tr), .val (.int ds), .val (.int (4 : Int32)), .val (.ref sk), .val (.int i), .unset, .unset] [(.int (own_rd xs ((own_rd parF i) + (1 : Int32)))), (.int ((own_rd parF i) + (1 : Int32))), (.ref fr)])) _
          refine XS.iconst X10.here hx rfl (hb hby d22_156) ?_
          refine XS.iadd X10.here hx rfl (hb hby d22_157) rfl ?_
          refine st13 _ ?_
          show Steps p.tables e below (T13.setTop (mkF m 159 #[.val (.ref ob), .val (.ref tr), .val (.int ds), .val (.int (4 : Int32)), .val (.ref sk), .val (.int i), .unset, .unset] [])) _
          refine XS.iinc X13.here hx rfl (hb hby d22_159) rfl (l' := #[.val (.ref ob), .val (.ref tr), .val (.int ds), .val (.int (4 : Int32)), .val (.ref sk), .val (.int v159), .unset, .unset]) (by rw [hv159]; rfl) ?_
          refine XS.goto X13.here hx rfl (pc0 := 162) (pc' := 124) rfl (hb hby d22_162) (by decide) (by decide) ?_
          show Steps p.tables e below (T13.setTop (mkF m 124 #[.val (.ref ob), .val (.ref tr), .val (.int ds), .val (.int (4 : Int32)), .val (.ref sk), .val (.int v159), .unset, .unset] [])) _
          exact kt
        obtain ⟨k', hk', hinv'⟩ : ∃ k' : Nat, k' < k ∧ own_C parF k' v159 (own_wr xs ((own_rd parF i) + (1 : Int32)) ((own_rd xs ((own_rd parF i) + (1 : Int32))) + (1 : Int32))) = some F1 := (own_back_22_124_ff ds parF F1 k i xs hinv hc127_2 hc138_6 v159 hv159)
        obtain ⟨T', h', lc', io, xo, X', e', N', K', fo0_22, hpost', st'⟩ := ih k' hk' (v159) ((own_wr xs ((own_rd parF i) + (1 : Int32)) ((own_rd xs ((own_rd parF i) + (1 : Int32))) + (1 : Int32)))) T13 hX13 _ hinv' X13 e13 N13 Z19 F15 F16 F17 F18 F14
        exact ⟨T', h', lc', io, xo, X', e', N', K20.trans K' (fun x hx => Or.inl hx), fo0_22, hpost', fun tq kt => pre21 tq (st' tq kt)⟩
    · skip
      have pre23 : ∀ tq, Steps p.tables e below (T0.setTop (mkF m 165 #[.val (.ref ob), .val (.ref tr), .val (.int ds), .val (.int (4 : Int32)), .val (.ref sk), .val (.int i), .unset, .unset] [])) tq → Steps p.tables e below (T0.setTop (mkF m 124 #[.val (.ref ob), .val (.ref tr), .val (.int ds), .val (.int (4 : Int32)), .val (.ref sk), .val (.int i), .unset, .unset] [])) tq := by
        intro tq kt
        refine pre1 _ ?_
        show Steps p.tables e below (T0.setTop (mkF m 127 #[.val (.ref ob), .val (.ref tr), .val (.int ds), .val (.int (4 : Int32)), .val (.ref sk), .val (.int i), .unset, .unset] [(.int (4 : Int32)), (.int i)])) _
        refine XS.icmpYes X0.here hx rfl (pc0 := 127) (pc' := 165) rfl (hb hby d22_127) rfl (flt hc127_2).2.1 (by decide) (by decide) ?_
        show Steps p.tables e below (T0.setTop (mkF m 165 #[.val (.ref ob), .val (.ref tr), .val (.int ds), .val (.int (4 : Int32)), .val (.ref sk), .val (.int i), .unset, .unset] [])) _
        exact kt
      have hq24 : F1 = xs := (own_post_22_165_t ds parF F1 k i xs hinv hc127_2)
      exact ⟨T0, h0, _, i, xs, X0, e0, N0, K0, I4, hq24, fun tq kt => pre23 tq kt⟩
theorem d22_168 : decode prog_53_method_1_code 168 = .ok (.iload 5, 2) := by decide +kernel
theorem d22_170 : decode prog_53_method_1_code 170 = .ok (.iload_n 3, 1) := by decide +kernel
theorem d22_171 : decode prog_53_method_1_code 171 = .ok (.if_icmp .ge 28, 3) := by decide +kernel
theorem d22_174 : decode prog_53_method_1_code 174 = .ok (.aload_n 0, 1) := by decide +kernel
theorem d22_175 : decode prog_53_method_1_code 175 = .ok (.getfield 48, 3) := by decide +kernel
theorem d22_178 : decode prog_53_method_1_code 178 = .ok (.iload 5, 2) := by decide +kernel
theorem d22_180 : decode prog_53_method_1_code 180 = .ok (.iconst 1, 1) := by decide +kernel
theorem d22_181 : decode prog_53_method_1_code 181 = .ok (.iadd, 1) := by decide +kernel
theorem d22_182 : decode prog_53_method_1_code 182 = .ok (.dup2, 1) := by decide +kernel
theorem d22_183 : decode prog_53_method_1_code 183 = .ok (.iaload, 1) := by decide +kernel
theorem d22_184 : decode prog_53_method_1_code 184 = .ok (.aload_n 0, 1) := by decide +kernel
theorem d22_185 : decode prog_53_method_1_code 185 = .ok (.getfield 48, 3) := by decide +kernel
theorem d22_188 : decode prog_53_method_1_code 188 = .ok (.iload 5, 2) := by decide +kernel
theorem d22_190 : decode prog_53_method_1_code 190 = .ok (.iaload, 1) := by decide +kernel
theorem d22_191 : decode prog_53_method_1_code 191 = .ok (.iadd, 1) := by decide +kernel
theorem d22_192 : decode prog_53_method_1_code 192 = .ok (.iastore, 1) := by decide +kernel
theorem d22_193 : decode prog_53_method_1_code 193 = .ok (.iinc 5 1, 3) := by decide +kernel
theorem d22_196 : decode prog_53_method_1_code 196 = .ok (.goto (-28), 3) := by decide +kernel
theorem own_inx_22_183_f (ds : Int32) (F2 : List Int32) (k : Nat) (i : Int32) (xs : List Int32) (hinv : own_D k i xs = some F2) (hc171_2 : i < (4 : Int32)) : own_inx xs (i + (1 : Int32)) = true := (own_D_in hinv hc171_2).1
theorem own_inx_22_190_f (ds : Int32) (F2 : List Int32) (k : Nat) (i : Int32) (xs : List Int32) (hinv : own_D k i xs = some F2) (hc171_2 : i < (4 : Int32)) : own_inx xs i = true := (own_D_in hinv hc171_2).2.1
theorem own_inx_22_192_f (ds : Int32) (F2 : List Int32) (k : Nat) (i : Int32) (xs : List Int32) (hinv : own_D k i xs = some F2) (hc171_2 : i < (4 : Int32)) : own_inx xs (i + (1 : Int32)) = true := (own_D_in hinv hc171_2).1
theorem own_back_22_168_f (ds : Int32) (F2 : List Int32) (k : Nat) (i : Int32) (xs : List Int32) (hinv : own_D k i xs = some F2) (hc171_2 : i < (4 : Int32)) (v193 : Int32) (hv193 : v193 = (i + (1 : Int32))) : ∃ k' : Nat, k' < k ∧ own_D k' v193 (own_wr xs (i + (1 : Int32)) ((own_rd xs (i + (1 : Int32))) + (own_rd xs i))) = some F2 := by obtain ⟨k', hk, hh⟩ := (own_D_in hinv hc171_2).2.2; exact ⟨k', hk, by rw [hv193]; exact hh⟩
theorem own_post_22_199_t (ds : Int32) (F2 : List Int32) (k : Nat) (i : Int32) (xs : List Int32) (hinv : own_D k i xs = some F2) (hc171_2 : ¬ (i < (4 : Int32))) : F2 = xs := (own_D_out hinv hc171_2).symm
set_option maxRecDepth 65536 in
set_option maxHeartbeats 40000000 in
theorem lp22_168 {p : Program} {l : Launch} {e : Env} {s : State} {m : MethodId} {args : Array Value} {below : List Frame} {meth : Method} {c : Code} {Z : State} {a0 : Array Value} (n0 : Nat) (ob : Addr) (tr : Addr) (ds : Int32) (sk : Addr) (fr : Addr) (F2 : List Int32) (hx : p.tables.exec = Jvm.exec) (hZ : Z.Warmed39 s.vm) (hw : ∀ d ∈ tables_1, d.before a0 Z = true) (hby : c.code = prog_53_method_1_code) (hml : c.maxLocals = 8) (hown : s.vm.findClass "com/example/twigmeter/twigmeter/workload/Reach" = some m.cls) (g_fr : n0 ≤ fr) (ne_ob_fr : ob ≠ fr) :
    ∀ (k : Nat) (i : Int32) (xs : List Int32) (T0 : State) (h0 : Heap) (locs : List Loc), (own_D k i xs = some F2) → Stand p l e ({ frames := 2, cells := 6, slots := 35, locals := 60 } : Room) s m args below meth c T0 locs 4 27 → T0.heap = h0 → Fr n0 locs → n0 ≤ h0.size → Exa Z h0 ob "com/example/twigmeter/twigmeter/workload/Reach" → Fld Z h0 ob "com/example/twigmeter/twigmeter/workload/Reach" "firstChild" "[I" (.ref fr) → own_ia Z h0 fr xs → 
      ∃ (T' : State) (h' : Heap) (locs' : List Loc) (io : Int32) (xo : List Int32), Stand p l e ({ frames := 2, cells := 6, slots := 35, locals := 60 } : Room) s m args below meth c T' locs' 4 27 ∧ T'.heap = h' ∧ Fr n0 locs' ∧ Keep h0 h' [fr] ∧ own_ia Z h' fr xo ∧ (F2 = xo) ∧
        ∀ tq, Steps p.tables e below (T'.setTop (mkF m 199 #[.val (.ref ob), .val (.ref tr), .val (.int ds), .val (.int (4 : Int32)), .val (.ref sk), .val (.int io), .unset, .unset] [])) tq → Steps p.tables e below (T0.setTop (mkF m 168 #[.val (.ref ob), .val (.ref tr), .val (.int ds), .val (.int (4 : Int32)), .val (.ref sk), .val (.int i), .unset, .unset] [])) tq := by
  intro k
  induction k using Nat.strongRecOn with
  | _ k ih =>
    intro i xs T0 h0 locs hinv X0 e0 N0 Z0 I0 I1 I2
    have K0 : Keep h0 h0 [fr] := Keep.refl h0 _
    have pre0 : ∀ tq, Steps p.tables e below (T0.setTop (mkF m 168 #[.val (.ref ob), .val (.ref tr), .val (.int ds), .val (.int (4 : Int32)), .val (.ref sk), .val (.int i), .unset, .unset] [])) tq → Steps p.tables e below (T0.setTop (mkF m 168 #[.val (.ref ob), .val (.ref tr), .val (.int ds), .val (.int (4 : Int32)), .val (.ref sk), .val (.int i), .unset, .unset] [])) tq := fun _ h => h
    have pre1 : ∀ tq, Steps p.tables e below (T0.setTop (mkF m 171 #[.val (.ref ob), .val (.ref tr), .val (.int ds), .val (.int (4 : Int32)), .val (.ref sk), .val (.int i), .unset, .unset] [(.int (4 : Int32)), (.int i)])) tq → Steps p.tables e below (T0.setTop (mkF m 168 #[.val (.ref ob), .val (.ref tr), .val (.int ds), .val (.int (4 : Int32)), .val (.ref sk), .val (.int i), .unset, .unset] [])) tq := by
      intro tq kt
      refine pre0 _ ?_
      show Steps p.tables e below (T0.setTop (mkF m 168 #[.val (.ref ob), .val (.ref tr), .val (.int ds), .val (.int (4 : Int32)), .val (.ref sk), .val (.int i), .unset, .unset] [])) _
      refine XS.iload X0.here hx rfl (hb hby d22_168) rfl ?_
      refine XS.iloadN X0.here hx rfl (hb hby d22_170) rfl ?_
      show Steps p.tables e below (T0.setTop (mkF m 171 #[.val (.ref ob), .val (.ref tr), .val (.int ds), .val (.int (4 : Int32)), .val (.ref sk), .val (.int i), .unset, .unset] [(.int (4 : Int32)), (.int i)])) _
      exact kt
    by_cases hc171_2 : i < (4 : Int32)
    · skip
      obtain ⟨T3, X3, e3, st3⟩ := getF X0 hx hZ hown (host := "") (Or.inl (hw _ (List.mem_of_getElem? (i := 191) rfl))) Via.refl e0 I1 (g := (mkF m 175 #[.val (.ref ob), .val (.ref tr), .val (.int ds), .val (.int (4 : Int32)), .val (.ref sk), .val (.int i), .unset, .unset] [(.ref ob)])) rfl rfl (hb hby d22_175)
      obtain ⟨cl4, Ar4, hin4, hat4⟩ := I2.get (j := (i + (1 : Int32))) (own_inx_22_183_f ds F2 k i xs hinv hc171_2)
      obtain ⟨T5, X5, e5, st5⟩ := getF X3 hx hZ hown (host := "") (Or.inl (hw _ (List.mem_of_getElem? (i := 191) rfl))) Via.refl e3 I1 (g := (mkF m 185 #[.val (.ref ob), .val (.ref tr), .val (.int ds), .val (.int (4 : Int32)), .val (.ref sk), .val (.int i), .unset, .unset] [(.ref ob), (.int (own_rd xs (i + (1 : Int32)))), (.int (i + (1 : Int32))), (.ref fr)])) rfl rfl (hb hby d22_185)
      obtain ⟨cl6, Ar6, hin6, hat6⟩ := I2.get (j := i) (own_inx_22_190_f ds F2 k i xs hinv hc171_2)
      obtain ⟨cl7, Ar7, hin7, pt7⟩ := I2.put (j := (i + (1 : Int32))) (own_inx_22_192_f ds F2 k i xs hinv hc171_2)
      obtain ⟨T7, hX7, X7, e7, W7, st7⟩ := stI X5 hx hZ e5 Ar7 (j := (i + (1 : Int32))) hin7 (g := (mkF m 192 #[.val (.ref ob), .val (.ref tr), .val (.int ds), .val (.int (4 : Int32)), .val (.ref sk), .val (.int i), .unset, .unset] [(.int ((own_rd xs (i + (1 : Int32))) + (own_rd xs i))), (.int (i + (1 : Int32))), (.ref fr)])) rfl rfl (hb hby d22_192)
      have F8 : own_ia Z hX7 fr (own_wr xs (i + (1 : Int32)) ((own_rd xs (i + (1 : Int32))) + (own_rd xs i))) := pt7 _ _ W7
      have N7 := Fr.snoc X7 N0 g_fr
      have F9 : Exa Z hX7 ob "com/example/twigmeter/twigmeter/workload/Reach" := I0.wr W7
      have F10 : Fld Z hX7 ob "com/example/twigmeter/twigmeter/workload/Reach" "firstChild" "[I" (.ref fr) := I1.other W7 (Or.inl ne_ob_fr)
      have Z11 : n0 ≤ hX7.size := Nat.le_trans Z0 (Keep.of_wr W7).1
      have K12 : Keep h0 hX7 [fr] := K0.wr W7 (Or.inl (List.mem_of_getElem? (i := 0) rfl))
      obtain ⟨v193, hv193⟩ : ∃ z_q : Int32, z_q = (i + (1 : Int32)) := ⟨_, rfl⟩
      have pre13 : ∀ tq, Steps p.tables e below (T7.setTop (mkF m 168 #[.val (.ref ob), .val (.ref tr), .val (.int ds), .val (.int (4 : Int32)), .val (.ref sk), .val (.int v193), .unset, .unset] [])) tq → Steps p.tables e below (T0.setTop (mkF m 168 #[.val (.ref ob), .val (.ref tr), .val (.int ds), .val (.int (4 : Int32)), .val (.ref sk), .val (.int i), .unset, .unset] [])) tq := by
        intro tq kt
        refine pre1 _ ?_
        show Steps p.tables e below (T0.setTop (mkF m 171 #[.val (.ref ob), .val (.ref tr), .val (.int ds), .val (.int (4 : Int32)), .val (.ref sk), .val (.int i), .unset, .unset] [(.int (4 : Int32)), (.int i)])) _
        refine XS.icmpNo X0.here hx rfl (hb hby d22_171) rfl (tlt hc171_2).2.1 ?_
        refine XS.aloadN X0.here hx rfl (hb hby d22_174) rfl rfl ?_
        refine st3 _ ?_
        show Steps p.tables e below (T3.setTop (mkF m 178 #[.val (.ref ob), .val (.ref tr), .val (.int ds), .val (.int (4 : Int32)), .val (.ref sk), .val (.int i), .unset, .unset] [(.ref fr)])) _
        refine XS.iload X3.here hx rfl (hb hby d22_178) rfl ?_
        refine XS.iconst X3.here hx rfl (hb hby d22_180) ?_
        refine XS.iadd X3.here hx rfl (hb hby d22_181) rfl ?_
        show Steps p.tables e below (T3.setTop (mkF m 182 #[.val (.ref ob), .val (.ref tr), .val (.int ds), .val (.int (4 : Int32)), .val (.ref sk), .val (.int i), .unset, .unset] [(.int (i + (1 : Int32))), (.ref fr)])) _
        refine XT.dup2 X3.here hx rfl (hb hby d22_182) rfl rfl rfl ?_
        show Steps p.tables e below (T3.setTop (mkF m 183 #[.val (.ref ob), .val (.ref tr), .val (.int ds), .val (.int (4 : Int32)), .val (.ref sk), .val (.int i), .unset, .unset] [(.int (i + (1 : Int32))), (.ref fr), (.int (i + (1 : Int32))), (.ref fr)])) _
        refine X3.iaload hx (j := (i + (1 : Int32))) (v := (.int (own_rd xs (i + (1 : Int32))))) (heq_of e3 Ar4.1) (State.isArrayOf_alike hZ.alike Ar4.2.1) Ar4.2.2 hin4 hat4 (g := (mkF m 183 #[.val (.ref ob), .val (.ref tr), .val (.int ds), .val (.int (4 : Int32)), .val (.ref sk), .val (.int i), .unset, .unset] [(.int (i + (1 : Int32))), (.ref fr), (.int (i + (1 : Int32))), (.ref fr)])) rfl rfl (hb hby d22_183) _ ?_
        show Steps p.tables e below (T3.setTop (mkF m 184 #[.val (.ref ob), .val (.ref tr), .val (.int ds), .val (.int (4 : Int32)), .val (.ref sk), .val (.int i), .unset, .unset] [(.int (own_rd xs (i + (1 : Int32)))), (.int (i + (1 : Int32))), (.ref fr)])) _
        refine XS.aloadN X3.here hx rfl (hb hby d22_184) rfl rfl ?_
        refine st5 _ ?_
        show Steps p.tables e below (T5.setTop (mkF m 188 #[.val (.ref ob), .val (.ref tr), .val (.int ds), .val (.int (4 : Int32)), .val (.ref sk), .val (.int i), .unset, .unset] [(.ref fr), (.int (own_rd xs (i + (1 : Int32)))), (.int (i + (1 : Int32))), (.ref fr)])) _
        refine XS.iload X5.here hx rfl (hb hby d22_188) rfl ?_
        refine X5.iaload hx (j := i) (v := (.int (own_rd xs i))) (heq_of e5 Ar6.1) (State.isArrayOf_alike hZ.alike Ar6.2.1) Ar6.2.2 hin6 hat6 (g := (mkF m 190 #[.val (.ref ob), .val (.ref tr), .val (.int ds), .val (.int (4 : Int32)), .val (.ref sk), .val (.int i), .unset, .unset] [(.int i), (.ref fr), (.int (own_rd xs (i + (1 : Int32)))), (.int (i + (1 : Int32))), (.ref fr)])) rfl rfl (hb hby d22_190) _ ?_
        show Steps p.tables e below (T5.setTop (mkF m 191 #[.val (.ref ob), .val (.ref tr), .val (.int ds), .val (.int (4 : Int32)), .val (.ref sk), .val (.int i), .unset, .unset] [(.int (own_rd xs i)), (.int (own_rd xs (i + (1 : Int32)))), (.int (i + (1 : Int32))), (.ref fr)])) _
        refine XS.iadd X5.here hx rfl (hb hby d22_191) rfl ?_
        refine st7 _ ?_
        show Steps p.tables e below (T7.setTop (mkF m 193 #[.val (.ref ob), .val (.ref tr), .val (.int ds), .val (.int (4 : Int32)), .val (.ref sk), .val (.int i), .unset, .unset] [])) _
        refine XS.iinc X7.here hx rfl (hb hby d22_193) rfl (l' := #[.val (.ref ob), .val (.ref tr), .val (.int ds), .val (.int (4 : Int32)), .val (.ref sk), .val (.int v193), .unset, .unset]) (by rw [hv193]; rfl) ?_
        refine XS.goto X7.here hx rfl (pc0 := 196) (pc' := 168) rfl (hb hby d22_196) (by decide) (by decide) ?_
        show Steps p.tables e below (T7.setTop (mkF m 168 #[.val (.ref ob), .val (.ref tr), .val (.int ds), .val (.int (4 : Int32)), .val (.ref sk), .val (.int v193), .unset, .unset] [])) _
        exact kt
      obtain ⟨k', hk', hinv'⟩ : ∃ k' : Nat, k' < k ∧ own_D k' v193 (own_wr xs (i + (1 : Int32)) ((own_rd xs (i + (1 : Int32))) + (own_rd xs i))) = some F2 := (own_back_22_168_f ds F2 k i xs hinv hc171_2 v193 hv193)
      obtain ⟨T', h', lc', io, xo, X', e', N', K', fo0_14, hpost', st'⟩ := ih k' hk' (v193) ((own_wr xs (i + (1 : Int32)) ((own_rd xs (i + (1 : Int32))) + (own_rd xs i)))) T7 hX7 _ hinv' X7 e7 N7 Z11 F9 F10 F8
      exact ⟨T', h', lc', io, xo, X', e', N', K12.trans K' (fun x hx => Or.inl hx), fo0_14, hpost', fun tq kt => pre13 tq (st' tq kt)⟩
    · skip
      have pre15 : ∀ tq, Steps p.tables e below (T0.setTop (mkF m 199 #[.val (.ref ob), .val (.ref tr), .val (.int ds), .val (.int (4 : Int32)), .val (.ref sk), .val (.int i), .unset, .unset] [])) tq → Steps p.tables e below (T0.setTop (mkF m 168 #[.val (.ref ob), .val (.ref tr), .val (.int ds), .val (.int (4 : Int32)), .val (.ref sk), .val (.int i), .unset, .unset] [])) tq := by
        intro tq kt
        refine pre1 _ ?_
        show Steps p.tables e below (T0.setTop (mkF m 171 #[.val (.ref ob), .val (.ref tr), .val (.int ds), .val (.int (4 : Int32)), .val (.ref sk), .val (.int i), .unset, .unset] [(.int (4 : Int32)), (.int i)])) _
        refine XS.icmpYes X0.here hx rfl (pc0 := 171) (pc' := 199) rfl (hb hby d22_171) rfl (flt hc171_2).2.1 (by decide) (by decide) ?_
        show Steps p.tables e below (T0.setTop (mkF m 199 #[.val (.ref ob), .val (.ref tr), .val (.int ds), .val (.int (4 : Int32)), .val (.ref sk), .val (.int i), .unset, .unset] [])) _
        exact kt
      have hq16 : F2 = xs := (own_post_22_199_t ds F2 k i xs hinv hc171_2)
      exact ⟨T0, h0, _, i, xs, X0, e0, N0, K0, I2, hq16, fun tq kt => pre15 tq kt⟩
theorem d22_219 : decode prog_53_method_1_code 219 = .ok (.iload 6, 2) := by decide +kernel
theorem d22_221 : decode prog_53_method_1_code 221 = .ok (.iload_n 3, 1) := by decide +kernel
theorem d22_222 : decode prog_53_method_1_code 222 = .ok (.if_icmp .ge 53, 3) := by decide +kernel
theorem d22_225 : decode prog_53_method_1_code 225 = .ok (.aload_n 0, 1) := by decide +kernel
theorem d22_226 : decode prog_53_method_1_code 226 = .ok (.getfield 23, 3) := by decide +kernel
theorem d22_229 : decode prog_53_method_1_code 229 = .ok (.iload 6, 2) := by decide +kernel
theorem d22_231 : decode prog_53_method_1_code 231 = .ok (.iaload, 1) := by decide +kernel
theorem d22_232 : decode prog_53_method_1_code 232 = .ok (.istore 7, 2) := by decide +kernel
theorem d22_234 : decode prog_53_method_1_code 234 = .ok (.iload 7, 2) := by decide +kernel
theorem d22_236 : decode prog_53_method_1_code 236 = .ok (.iconst (-1), 1) := by decide +kernel
theorem d22_237 : decode prog_53_method_1_code 237 = .ok (.if_icmp .eq 32, 3) := by decide +kernel
theorem d22_240 : decode prog_53_method_1_code 240 = .ok (.aload_n 0, 1) := by decide +kernel
theorem d22_241 : decode prog_53_method_1_code 241 = .ok (.getfield 51, 3) := by decide +kernel
theorem d22_244 : decode prog_53_method_1_code 244 = .ok (.aload_n 0, 1) := by decide +kernel
theorem d22_245 : decode prog_53_method_1_code 245 = .ok (.getfield 48, 3) := by decide +kernel
theorem d22_248 : decode prog_53_method_1_code 248 = .ok (.iload 7, 2) := by decide +kernel
theorem d22_250 : decode prog_53_method_1_code 250 = .ok (.iaload, 1) := by decide +kernel
theorem d22_251 : decode prog_53_method_1_code 251 = .ok (.aload 5, 2) := by decide +kernel
theorem d22_253 : decode prog_53_method_1_code 253 = .ok (.iload 7, 2) := by decide +kernel
theorem d22_255 : decode prog_53_method_1_code 255 = .ok (.iaload, 1) := by decide +kernel
theorem d22_256 : decode prog_53_method_1_code 256 = .ok (.iadd, 1) := by decide +kernel
theorem d22_257 : decode prog_53_method_1_code 257 = .ok (.iload 6, 2) := by decide +kernel
theorem d22_259 : decode prog_53_method_1_code 259 = .ok (.iastore, 1) := by decide +kernel
theorem d22_260 : decode prog_53_method_1_code 260 = .ok (.aload 5, 2) := by decide +kernel
theorem d22_262 : decode prog_53_method_1_code 262 = .ok (.iload 7, 2) := by decide +kernel
theorem d22_264 : decode prog_53_method_1_code 264 = .ok (.dup2, 1) := by decide +kernel
theorem d22_265 : decode prog_53_method_1_code 265 = .ok (.iaload, 1) := by decide +kernel
theorem d22_266 : decode prog_53_method_1_code 266 = .ok (.iconst 1, 1) := by decide +kernel
theorem d22_267 : decode prog_53_method_1_code 267 = .ok (.iadd, 1) := by decide +kernel
theorem d22_268 : decode prog_53_method_1_code 268 = .ok (.iastore, 1) := by decide +kernel
theorem d22_269 : decode prog_53_method_1_code 269 = .ok (.iinc 6 1, 3) := by decide +kernel
theorem d22_272 : decode prog_53_method_1_code 272 = .ok (.goto (-53), 3) := by decide +kernel
theorem own_inx_22_231_f (ds : Int32) (parF : List Int32) (F2 : List Int32) (CH : List Int32) (k : Nat) (i : Int32) (q7 : Int32) (ch : List Int32) (nx : List Int32) (hinv : own_E parF F2 k i ch nx = some CH) (hc222_2 : i < (4 : Int32)) : own_inx parF i = true := (own_E_in hinv hc222_2).1
theorem own_back_22_219_ft (ds : Int32) (parF : List Int32) (F2 : List Int32) (CH : List Int32) (k : Nat) (i : Int32) (q7 : Int32) (ch : List Int32) (nx : List Int32) (hinv : own_E parF F2 k i ch nx = some CH) (hc222_2 : i < (4 : Int32)) (v232 : Int32) (hv232 : v232 = (own_rd parF i)) (hc237_6 : v232 = (-1 : Int32)) (v269 : Int32) (hv269 : v269 = (i + (1 : Int32))) : ∃ k' : Nat, k' < k ∧ own_E parF F2 k' v269 ch nx = some CH := by obtain ⟨k', hk, hh⟩ := (own_E_in hinv hc222_2).2.1 (by rw [← hv232]; exact hc237_6); exact ⟨k', hk, by rw [hv269]; exact hh⟩
theorem own_inx_22_250_ff (ds : Int32) (parF : List Int32) (F2 : List Int32) (CH : List Int32) (k : Nat) (i : Int32) (q7 : Int32) (ch : List Int32) (nx : List Int32) (hinv : own_E parF F2 k i ch nx = some CH) (hc222_2 : i < (4 : Int32)) (v232 : Int32) (hv232 : v232 = (own_rd parF i)) (hc237_6 : ¬ (v232 = (-1 : Int32))) : own_inx F2 v232 = true := by subst hv232; exact ((own_E_in hinv hc222_2).2.2 hc237_6).1
theorem own_inx_22_255_ff (ds : Int32) (parF : List Int32) (F2 : List Int32) (CH : List Int32) (k : Nat) (i : Int32) (q7 : Int32) (ch : List Int32) (nx : List Int32) (hinv : own_E parF F2 k i ch nx = some CH) (hc222_2 : i < (4 : Int32)) (v232 : Int32) (hv232 : v232 = (own_rd parF i)) (hc237_6 : ¬ (v232 = (-1 : Int32))) : own_inx nx v232 = true := by subst hv232; exact ((own_E_in hinv hc222_2).2.2 hc237_6).2.1
theorem own_inx_22_259_ff (ds : Int32) (parF : List Int32) (F2 : List Int32) (CH : List Int32) (k : Nat) (i : Int32) (q7 : Int32) (ch : List Int32) (nx : List Int32) (hinv : own_E parF F2 k i ch nx = some CH) (hc222_2 : i < (4 : Int32)) (v232 : Int32) (hv232 : v232 = (own_rd parF i)) (hc237_6 : ¬ (v232 = (-1 : Int32))) : own_inx ch ((own_rd F2 v232) + (own_rd nx v232)) = true := by subst hv232; exact ((own_E_in hinv hc222_2).2.2 hc237_6).2.2.1
theorem own_inx_22_265_ff (ds : Int32) (parF : List Int32) (F2 : List Int32) (CH : List Int32) (k : Nat) (i : Int32) (q7 : Int32) (ch : List Int32) (nx : List Int32) (hinv : own_E parF F2 k i ch nx = some CH) (hc222_2 : i < (4 : Int32)) (v232 : Int32) (hv232 : v232 = (own_rd parF i)) (hc237_6 : ¬ (v232 = (-1 : Int32))) : own_inx nx v232 = true := by subst hv232; exact ((own_E_in hinv hc222_2).2.2 hc237_6).2.1
theorem own_inx_22_268_ff (ds : Int32) (parF : List Int32) (F2 : List Int32) (CH : List Int32) (k : Nat) (i : Int32) (q7 : Int32) (ch : List Int32) (nx : List Int32) (hinv : own_E parF F2 k i ch nx = some CH) (hc222_2 : i < (4 : Int32)) (v232 : Int32) (hv232 : v232 = (own_rd parF i)) (hc237_6 : ¬ (v232 = (-1 : Int32))) : own_inx nx v232 = true := by subst hv232; exact ((own_E_in hinv hc222_2).2.2 hc237_6).2.1
theorem own_back_22_219_ff (ds : Int32) (parF : List Int32) (F2 : List Int32) (CH : List Int32) (k : Nat) (i : Int32) (q7 : Int32) (ch : List Int32) (nx : List Int32) (hinv : own_E parF F2 k i ch nx = some CH) (hc222_2 : i < (4 : Int32)) (v232 : Int32) (hv232 : v232 = (own_rd parF i)) (hc237_6 : ¬ (v232 = (-1 : Int32))) (v269 : Int32) (hv269 : v269 = (i + (1 : Int32))) : ∃ k' : Nat, k' < k ∧ own_E parF F2 k' v269 (own_wr ch ((own_rd F2 v232) + (own_rd nx v232)) i) (own_wr nx v232 ((own_rd nx v232) + (1 : Int32))) = some CH := by subst hv232; obtain ⟨k', hk, hh⟩ := ((own_E_in hinv hc222_2).2.2 hc237_6).2.2.2; exact ⟨k', hk, by rw [hv269]; exact hh⟩
theorem own_post_22_275_t (ds : Int32) (parF : List Int32) (F2 : List Int32) (CH : List Int32) (k : Nat) (i : Int32) (q7 : Int32) (ch : List Int32) (nx : List Int32) (hinv : own_E parF F2 k i ch nx = some CH) (hc222_2 : ¬ (i < (4 : Int32))) : CH = ch := (own_E_out hinv hc222_2).symm
set_option maxRecDepth 65536 in
set_option maxHeartbeats 40000000 in
theorem lp22_219 {p : Program} {l : Launch} {e : Env} {s : State} {m : MethodId} {args : Array Value} {below : List Frame} {meth : Method} {c : Code} {Z : State} {a0 : Array Value} (n0 : Nat) (ob : Addr) (tr : Addr) (ds : Int32) (sk : Addr) (nr : Addr) (pr : Addr) (fr : Addr) (cr : Addr) (parF : List Int32) (F2 : List Int32) (CH : List Int32) (hx : p.tables.exec = Jvm.exec) (hZ : Z.Warmed39 s.vm) (hw : ∀ d ∈ tables_1, d.before a0 Z = true) (hby : c.code = prog_53_method_1_code) (hml : c.maxLocals = 8) (hown : s.vm.findClass "com/example/twigmeter/twigmeter/workload/Reach" = some m.cls) (g_cr : n0 ≤ cr) (g_nr : n0 ≤ nr) (ne_ob_cr : ob ≠ cr) (ne_ob_nr : ob ≠ nr) (ne_pr_cr : pr ≠ cr) (ne_pr_nr : pr ≠ nr) (ne_fr_cr : fr ≠ cr) (ne_fr_nr : fr ≠ nr) (ne_cr_nr : cr ≠ nr) :
    ∀ (k : Nat) (i : Int32) (q7 : Int32) (ch : List Int32) (nx : List Int32) (T0 : State) (h0 : Heap) (locs : List Loc), (own_E parF F2 k i ch nx = some CH) → Stand p l e ({ frames := 2, cells := 6, slots := 35, locals := 60 } : Room) s m args below meth c T0 locs 6 35 → T0.heap = h0 → Fr n0 locs → n0 ≤ h0.size → Exa Z h0 ob "com/example/twigmeter/twigmeter/workload/Reach" → Fld Z h0 ob "com/example/twigmeter/twigmeter/workload/Reach" "parents" "[I" (.ref pr) → own_ia Z h0 pr parF → Fld Z h0 ob "com/example/twigmeter/twigmeter/workload/Reach" "firstChild" "[I" (.ref fr) → own_ia Z h0 fr F2 → Fld Z h0 ob "com/example/twigmeter/twigmeter/workload/Reach" "children" "[I" (.ref cr) → own_ia Z h0 cr ch → own_ia Z h0 nr nx → 
      ∃ (T' : State) (h' : Heap) (locs' : List Loc) (io : Int32) (qo : Int32) (co : List Int32), Stand p l e ({ frames := 2, cells := 6, slots := 35, locals := 60 } : Room) s m args below meth c T' locs' 6 35 ∧ T'.heap = h' ∧ Fr n0 locs' ∧ Keep h0 h' [cr, nr] ∧ own_ia Z h' cr co ∧ (CH = co) ∧
        ∀ tq, Steps p.tables e below (T'.setTop (mkF m 275 #[.val (.ref ob), .val (.ref tr), .val (.int ds), .val (.int (4 : Int32)), .val (.ref sk), .val (.ref nr), .val (.int io), .val (.int qo)] [])) tq → Steps p.tables e below (T0.setTop (mkF m 219 #[.val (.ref ob), .val (.ref tr), .val (.int ds), .val (.int (4 : Int32)), .val (.ref sk), .val (.ref nr), .val (.int i), .val (.int q7)] [])) tq := by
  intro k
  induction k using Nat.strongRecOn with
  | _ k ih =>
    intro i q7 ch nx T0 h0 locs hinv X0 e0 N0 Z0 I0 I1 I2 I3 I4 I5 I6 I7
    have K0 : Keep h0 h0 [cr, nr] := Keep.refl h0 _
    have pre0 : ∀ tq, Steps p.tables e below (T0.setTop (mkF m 219 #[.val (.ref ob), .val (.ref tr), .val (.int ds), .val (.int (4 : Int32)), .val (.ref sk), .val (.ref nr), .val (.int i), .val (.int q7)] [])) tq → Steps p.tables e below (T0.setTop (mkF m 219 #[.val (.ref ob), .val (.ref tr), .val (.int ds), .val (.int (4 : Int32)), .val (.ref sk), .val (.ref nr), .val (.int i), .val (.int q7)] [])) tq := fun _ h => h
    have pre1 : ∀ tq, Steps p.tables e below (T0.setTop (mkF m 222 #[.val (.ref ob), .val (.ref tr), .val (.int ds), .val (.int (4 : Int32)), .val (.ref sk), .val (.ref nr), .val (.int i), .val (.int q7)] [(.int (4 : Int32)), (.int i)])) tq → Steps p.tables e below (T0.setTop (mkF m 219 #[.val (.ref ob), .val (.ref tr), .val (.int ds), .val (.int (4 : Int32)), .val (.ref sk), .val (.ref nr), .val (.int i), .val (.int q7)] [])) tq := by
      intro tq kt
      refine pre0 _ ?_
      show Steps p.tables e below (T0.setTop (mkF m 219 #[.val (.ref ob), .val (.ref tr), .val (.int ds), .val (.int (4 : Int32)), .val (.ref sk), .val (.ref nr), .val (.int i), .val (.int q7)] [])) _
      refine XS.iload X0.here hx rfl (hb hby d22_219) rfl ?_
      refine XS.iloadN X0.here hx rfl (hb hby d22_221) rfl ?_
      show Steps p.tables e below (T0.setTop (mkF m 222 #[.val (.ref ob), .val (.ref tr), .val (.int ds), .val (.int (4 : Int32)), .val (.ref sk), .val (.ref nr), .val (.int i), .val (.int q7)] [(.int (4 : Int32)), (.int i)])) _
      exact kt
    by_cases hc222_2 : i < (4 : Int32)
    · skip
      obtain ⟨T3, X3, e3, st3⟩ := getF X0 hx hZ hown (host := "") (Or.inl (hw _ (List.mem_of_getElem? (i := 165) rfl))) Via.refl e0 I1 (g := (mkF m 226 #[.val (.ref ob), .val (.ref tr), .val (.int ds), .val (.int (4 : Int32)), .val (.ref sk), .val (.ref nr), .val (.int i), .val (.int q7)] [(.ref ob)])) rfl rfl (hb hby d22_226)
      obtain ⟨cl4, Ar4, hin4, hat4⟩ := I2.get (j := i) (own_inx_22_231_f ds parF F2 CH k i q7 ch nx hinv hc222_2)
      obtain ⟨v232, hv232⟩ : ∃ z_q : Int32, z_q = (own_rd parF i) := ⟨_, rfl⟩
      have pre5 : ∀ tq, Steps p.tables e below (T3.setTop (mkF m 237 #[.val (.ref ob), .val (.ref tr), .val (.int ds), .val (.int (4 : Int32)), .val (.ref sk), .val (.ref nr), .val (.int i), .val (.int v232)] [(.int (-1 : Int32)), (.int v232)])) tq → Steps p.tables e below (T0.setTop (mkF m 219 #[.val (.ref ob), .val (.ref tr), .val (.int ds), .val (.int (4 : Int32)), .val (.ref sk), .val (.ref nr), .val (.int i), .val (.int q7)] [])) tq := by
        intro tq kt
        refine pre1 _ ?_
        show Steps p.tables e below (T0.setTop (mkF m 222 #[.val (.ref ob), .val (.ref tr), .val (.int ds), .val (.int (4 : Int32)), .val (.ref sk), .val (.ref nr), .val (.int i), .val (.int q7)] [(.int (4 : Int32)), (.int i)])) _
        refine XS.icmpNo X0.here hx rfl (hb hby d22_222) rfl (tlt hc222_2).2.1 ?_
        refine XS.aloadN X0.here hx rfl (hb hby d22_225) rfl rfl ?_
        refine st3 _ ?_
        show Steps p.tables e below (T3.setTop (mkF m 229 #[.val (.ref ob), .val (.ref tr), .val (.int ds), .val (.int (4 : Int32)), .val (.ref sk), .val (.ref nr), .val (.int i), .val (.int q7)] [(.ref pr)])) _
        refine XS.iload X3.here hx rfl (hb hby d22_229) rfl ?_
        refine X3.iaload hx (j := i) (v := (.int (own_rd parF i))) (heq_of e3 Ar4.1) (State.isArrayOf_alike hZ.alike Ar4.2.1) Ar4.2.2 hin4 hat4 (g := (mkF m 231 #[.val (.ref ob), .val (.ref tr), .val (.int ds), .val (.int (4 : Int32)), .val (.ref sk), .val (.ref nr), .val (.int i), .val (.int q7)] [(.int i), (.ref pr)])) rfl rfl (hb hby d22_231) _ ?_
        show Steps p.tables e below (T3.setTop (mkF m 232 #[.val (.ref ob), .val (.ref tr), .val (.int ds), .val (.int (4 : Int32)), .val (.ref sk), .val (.ref nr), .val (.int i), .val (.int q7)] [(.int (own_rd parF i))])) _
        refine XS.istore X3.here hx rfl (hb hby d22_232) rfl (l' := #[.val (.ref ob), .val (.ref tr), .val (.int ds), .val (.int (4 : Int32)), .val (.ref sk), .val (.ref nr), .val (.int i), .val (.int v232)]) (by rw [hv232]; rfl) ?_
        refine XS.iload X3.here hx rfl (hb hby d22_234) rfl ?_
        refine XS.iconst X3.here hx rfl (hb hby d22_236) ?_
        show Steps p.tables e below (T3.setTop (mkF m 237 #[.val (.ref ob), .val (.ref tr), .val (.int ds), .val (.int (4 : Int32)), .val (.ref sk), .val (.ref nr), .val (.int i), .val (.int v232)] [(.int (-1 : Int32)), (.int v232)])) _
        exact kt
      by_cases hc237_6 : v232 = (-1 : Int32)
      · skip
        obtain ⟨v269, hv269⟩ : ∃ z_q : Int32, z_q = (i + (1 : Int32)) := ⟨_, rfl⟩
        have pre7 : ∀ tq, Steps p.tables e below (T3.setTop (mkF m 219 #[.val (.ref ob), .val (.ref tr), .val (.int ds), .val (.int (4 : Int32)), .val (.ref sk), .val (.ref nr), .val (.int v269), .val (.int v232)] [])) tq → Steps p.tables e below (T0.setTop (mkF m 219 #[.val (.ref ob), .val (.ref tr), .val (.int ds), .val (.int (4 : Int32)), .val (.ref sk), .val (.ref nr), .val (.int i), .val (.int q7)] [])) tq := by
          intro tq kt
          refine pre5 _ ?_
          show Steps p.tables e below (T3.setTop (mkF m 237 #[.val (.ref ob), .val (.ref tr), .val (.int ds), .val (.int (4 : Int32)), .val (.ref sk), .val (.ref nr), .val (.int i), .val (.int v232)] [(.int (-1 : Int32)), (.int v232)])) _
          refine XS.icmpYes X3.here hx rfl (pc0 := 237) (pc' := 269) rfl (hb hby d22_237) rfl (teq hc237_6).1 (by decide) (by decide) ?_
          refine XS.iinc X3.here hx rfl (hb hby d22_269) rfl (l' := #[.val (.ref ob), .val (.ref tr), .val (.int ds), .val (.int (4 : Int32)), .val (.ref sk), .val (.ref nr), .val (.int v269), .val (.int v232)]) (by rw [hv269]; rfl) ?_
          refine XS.goto X3.here hx rfl (pc0 := 272) (pc' := 219) rfl (hb hby d22_272) (by decide) (by decide) ?_
          show Steps p.tables e below (T3.setTop (mkF m 219 #[.val (.ref ob), .val (.ref tr), .val (.int ds), .val (.int (4 : Int32)), .val (.ref sk), .val (.ref nr), .val (.int v269), .val (.int v232)] [])) _
          exact kt
        obtain ⟨k', hk', hinv'⟩ : ∃ k' : Nat, k' < k ∧ own_E parF F2 k' v269 ch nx = some CH := (own_back_22_219_ft ds parF F2 CH k i q7 ch nx hinv hc222_2 v232 hv232 hc237_6 v269 hv269)
        obtain ⟨T', h', lc', io, qo, co, X', e', N', K', fo0_8, hpost', st'⟩ := ih k' hk' (v269) (v232) (ch) (nx) T3 h0 _ hinv' X3 e3 N0 Z0 I0 I1 I2 I3 I4 I5 I6 I7
        exact ⟨T', h', lc', io, qo, co, X', e', N', K0.trans K' (fun x hx => Or.inl hx), fo0_8, hpost', fun tq kt => pre7 tq (st' tq kt)⟩
      · skip
        obtain ⟨T9, X9, e9, st9⟩ := getF X3 hx hZ hown (host := "") (Or.inl (hw _ (List.mem_of_getElem? (i := 193) rfl))) Via.refl e3 I5 (g := (mkF m 241 #[.val (.ref ob), .val (.ref tr), .val (.int ds), .val (.int (4 : Int32)), .val (.ref sk), .val (.ref nr), .val (.int i), .val (.int v232)] [(.ref ob)])) rfl rfl (hb hby d22_241)
        obtain ⟨T10, X10, e10, st10⟩ := getF X9 hx hZ hown (host := "") (Or.inl (hw _ (List.mem_of_getElem? (i := 191) rfl))) Via.refl e9 I3 (g := (mkF m 245 #[.val (.ref ob), .val (.ref tr), .val (.int ds), .val (.int (4 : Int32)), .val (.ref sk), .val (.ref nr), .val (.int i), .val (.int v232)] [(.ref ob), (.ref cr)])) rfl rfl (hb hby d22_245)
        obtain ⟨cl11, Ar11, hin11, hat11⟩ := I4.get (j := v232) (own_inx_22_250_ff ds parF F2 CH k i q7 ch nx hinv hc222_2 v232 hv232 hc237_6)
        obtain ⟨cl12, Ar12, hin12, hat12⟩ := I7.get (j := v232) (own_inx_22_255_ff ds parF F2 CH k i q7 ch nx hinv hc222_2 v232 hv232 hc237_6)
        obtain ⟨cl13, Ar13, hin13, pt13⟩ := I6.put (j := ((own_rd F2 v232) + (own_rd nx v232))) (own_inx_22_259_ff ds parF F2 CH k i q7 ch nx hinv hc222_2 v232 hv232 hc237_6)
        obtain ⟨T13, hX13, X13, e13, W13, st13⟩ := stI X10 hx hZ e10 Ar13 (j := ((own_rd F2 v232) + (own_rd nx v232))) hin13 (g := (mkF m 259 #[.val (.ref ob), .val (.ref tr), .val (.int ds), .val (.int (4 : Int32)), .val (.ref sk), .val (.ref nr), .val (.int i), .val (.int v232)] [(.int i), (.int ((own_rd F2 v232) + (own_rd nx v232))), (.ref cr)])) rfl rfl (hb hby d22_259)
        have F14 : own_ia Z hX13 cr (own_wr ch ((own_rd F2 v232) + (own_rd nx v232)) i) := pt13 _ _ W13
        have N13 := Fr.snoc X13 N0 g_cr
        have F15 : Exa Z hX13 ob "com/example/twigmeter/twigmeter/workload/Reach" := I0.wr W13
        have F16 : Fld Z hX13 ob "com/example/twigmeter/twigmeter/workload/Reach" "parents" "[I" (.ref pr) := I1.other W13 (Or.inl ne_ob_cr)
        have F17 : own_ia Z hX13 pr parF := I2.other W13 ne_pr_cr
        have F18 : Fld Z hX13 ob "com/example/twigmeter/twigmeter/workload/Reach" "firstChild" "[I" (.ref fr) := I3.other W13 (Or.inl ne_ob_cr)
        have F19 : own_ia Z hX13 fr F2 := I4.other W13 ne_fr_cr
        have F20 : Fld Z hX13 ob "com/example/twigmeter/twigmeter/workload/Reach" "children" "[I" (.ref cr) := I5.other W13 (Or.inl ne_ob_cr)
        have F21 : own_ia Z hX13 nr nx := I7.other W13 (Ne.symm ne_cr_nr)
        have Z22 : n0 ≤ hX13.size := Nat.le_trans Z0 (Keep.of_wr W13).1
        have K23 : Keep h0 hX13 [cr, nr] := K0.wr W13 (Or.inl (List.mem_of_getElem? (i := 0) rfl))
        obtain ⟨cl24, Ar24, hin24, hat24⟩ := F21.get (j := v232) (own_inx_22_265_ff ds parF F2 CH k i q7 ch nx hinv hc222_2 v232 hv232 hc237_6)
        obtain ⟨cl25, Ar25, hin25, pt25⟩ := F21.put (j := v232) (own_inx_22_268_ff ds parF F2 CH k i q7 ch nx hinv hc222_2 v232 hv232 hc237_6)
        obtain ⟨T25, hX25, X25, e25, W25, st25⟩ := stI X13 hx hZ e13 Ar25 (j := v232) hin25 (g := (mkF m 268 #[.val (.ref ob), .val (.ref tr), .val (.int ds), .val (.int (4 : Int32)), .val (.ref sk), .val (.ref nr), .val (.int i), .val (.int v232)] [(.int ((own_rd nx v232) + (1 : Int32))), (.int v232), (.ref nr)])) rfl rfl (hb hby d22_268)
        have F26 : own_ia Z hX25 nr (own_wr nx v232 ((own_rd nx v232) + (1 : Int32))) := pt25 _ _ W25
        have N25 := Fr.snoc X25 N13 g_nr
        have F27 : Exa Z hX25 ob "com/example/twigmeter/twigmeter/workload/Reach" := F15.wr W25
        have F28 : Fld Z hX25 ob "com/example/twigmeter/twigmeter/workload/Reach" "parents" "[I" (.ref pr) := F16.other W25 (Or.inl ne_ob_nr)
        have F29 : own_ia Z hX25 pr parF := F17.other W25 ne_pr_nr
        have F30 : Fld Z hX25 ob "com/example/twigmeter/twigmeter/workload/Reach" "firstChild" "[I" (.ref fr) := F18.other W25 (Or.inl ne_ob_nr)
        have F31 : own_ia Z hX25 fr F2 := F19.other W25 ne_fr_nr
        have F32 : Fld Z hX25 ob "com/example/twigmeter/twigmeter/workload/Reach" "children" "[I" (.ref cr) := F20.other W25 (Or.inl ne_ob_nr)
        have F33 : own_ia Z hX25 cr (own_wr ch ((own_rd F2 v232) + (own_rd nx v232)) i) := F14.other W25 ne_cr_nr
        have Z34 : n0 ≤ hX25.size := Nat.le_trans Z22 (Keep.of_wr W25).1
        have K35 : Keep h0 hX25 [cr, nr] := K23.wr W25 (Or.inl (List.mem_of_getElem? (i := 1) rfl))
        obtain ⟨v269, hv269⟩ : ∃ z_q : Int32, z_q = (i + (1 : Int32)) := ⟨_, rfl⟩
        have pre36 : ∀ tq, Steps p.tables e below (T25.setTop (mkF m 219 #[.val (.ref ob), .val (.ref tr), .val (.int ds), .val (.int (4 : Int32)), .val (.ref sk), .val (.ref nr), .val (.int v269), .val (.int v232)] [])) tq → Steps p.tables e below (T0.setTop (mkF m 219 #[.val (.ref ob), .val (.ref tr), .val (.int ds), .val (.int (4 : Int32)), .val (.ref sk), .val (.ref nr), .val (.int i), .val (.int q7)] [])) tq := by
          intro tq kt
          refine pre5 _ ?_
          show Steps p.tables e below (T3.setTop (mkF m 237 #[.val (.ref ob), .val (.ref tr), .val (.int ds), .val (.int (4 : Int32)), .val (.ref sk), .val (.ref nr), .val (.int i), .val (.int v232)] [(.int (-1 : Int32)), (.int v232)])) _
          refine XS.icmpNo X3.here hx rfl (hb hby d22_237) rfl (feq hc237_6).1 ?_
          refine XS.aloadN X3.here hx rfl (hb hby d22_240) rfl rfl ?_
          refine st9 _ ?_
          show Steps p.tables e below (T9.setTop (mkF m 244 #[.val (.ref ob), .val (.ref tr), .val (.int ds), .val (.int (4 : Int32)), .val (.ref sk), .val (.ref nr), .val (.int i), .val (.int v232)] [(.ref cr)])) _
          refine XS.aloadN X9.here hx rfl (hb hby d22_244) rfl rfl ?_
          refine st10 _ ?_
          show Steps p.tables e below (T10.setTop (mkF m 248 #[.val (.ref ob), .val (.ref tr), .val (.int ds), .val (.int (4 : Int32)), .val (.ref sk), .val (.ref nr), .val (.int i), .val (.int v232)] [(.ref fr), (.ref cr)])) _
          refine XS.iload X10.here hx rfl (hb hby d22_248) rfl ?_
          refine X10.iaload hx (j := v232) (v := (.int (own_rd F2 v232))) (heq_of e10 Ar11.1) (State.isArrayOf_alike hZ.alike Ar11.2.1) Ar11.2.2 hin11 hat11 (g := (mkF m 250 #[.val (.ref ob), .val (.ref tr), .val (.int ds), .val (.int (4 : Int32)), .val (.ref sk), .val (.ref nr), .val (.int i), .val (.int v232)] [(.int v232), (.ref fr), (.ref cr)])) rfl rfl (hb hby d22_250) _ ?_
          show Steps p.tables e below (T10.setTop (mkF m 251 #[.val (.ref ob), .val (.ref tr), .val (.int ds), .val (.int (4 : Int32)), .val (.ref sk), .val (.ref nr), .val (.int i), .val (.int v232)] [(.int (own_rd F2 v232)), (.ref cr)])) _
          refine XS.aload X10.here hx rfl (hb hby d22_251) rfl rfl ?_
          refine XS.iload X10.here hx rfl (hb hby d22_253) rfl ?_
          refine X10.iaload hx (j := v232) (v := (.int (own_rd nx v232))) (heq_of e10 Ar12.1) (State.isArrayOf_alike hZ.alike Ar12.2.1) Ar12.2.2 hin12 hat12 (g := (mkF m 255 #[.val (.ref ob), .val (.ref tr), .val (.int ds), .val (.int (4 : Int32)), .val (.ref sk), .val (.ref nr), .val (.int i), .val (.int v232)] [(.int v232), (.ref nr), (.int (own_rd F2 v232)), (.ref cr)])) rfl rfl (hb hby d22_255) _ ?_
          show Steps p.tables e below (T10.setTop (mkF m 256 #[.val (.ref ob), .val (.ref tr), .val (.int ds), .val (.int (4 : Int32)), .val (.ref sk), .val (.ref nr), .val (.int i), .val (.int v232)] [(.int (own_rd nx v232)), (.int (own_rd F2 v232)), (.ref cr)])) _
          refine XS.iadd X10.here hx rfl (hb hby d22_256) rfl ?_
          refine XS.iload X10.here hx rfl (hb hby d22_257) rfl ?_
          refine st13 _ ?_
          show Steps p.tables e below (T13.setTop (mkF m 260 #[.val (.ref ob), .val (.ref tr), .val (.int ds), .val (.int (4 : Int32)), .val (.ref sk), .val (.ref nr), .val (.int i), .val (.int v232)] [])) _
          refine XS.aload X13.here hx rfl (hb hby d22_260) rfl rfl ?_
          refine XS.iload X13.here hx rfl (hb hby d22_262) rfl ?_
          show Steps p.tables e below (T13.setTop (mkF m 264 #[.val (.ref ob), .val (.ref tr), .val (.int ds), .val (.int (4 : Int32)), .val (.ref sk), .val (.ref nr), .val (.int i), .val (.int v232)] [(.int v232), (.ref nr)])) _
          refine XT.dup2 X13.here hx rfl (hb hby d22_264) rfl rfl rfl ?_
          show Steps p.tables e below (T13.setTop (mkF m 265 #[.val (.ref ob), .val (.ref tr), .val (.int ds), .val (.int (4 : Int32)), .val (.ref sk), .val (.ref nr), .val (.int i), .val (.int v232)] [(.int v232), (.ref nr), (.int v232), (.ref nr)])) _
          refine X13.iaload hx (j := v232) (v := (.int (own_rd nx v232))) (heq_of e13 Ar24.1) (State.isArrayOf_alike hZ.alike Ar24.2.1) Ar24.2.2 hin24 hat24 (g := (mkF m 265 #[.val (.ref ob), .val (.ref tr), .val (.int ds), .val (.int (4 : Int32)), .val (.ref sk), .val (.ref nr), .val (.int i), .val (.int v232)] [(.int v232), (.ref nr), (.int v232), (.ref nr)])) rfl rfl (hb hby d22_265) _ ?_
          show Steps p.tables e below (T13.setTop (mkF m 266 #[.val (.ref ob), .val (.ref tr), .val (.int ds), .val (.int (4 : Int32)), .val (.ref sk), .val (.ref nr), .val (.int i), .val (.int v232)] [(.int (own_rd nx v232)), (.int v232), (.ref nr)])) _
          refine XS.iconst X13.here hx rfl (hb hby d22_266) ?_
          refine XS.iadd X13.here hx rfl (hb hby d22_267) rfl ?_
          refine st25 _ ?_
          show Steps p.tables e below (T25.setTop (mkF m 269 #[.val (.ref ob), .val (.ref tr), .val (.int ds), .val (.int (4 : Int32)), .val (.ref sk), .val (.ref nr), .val (.int i), .val (.int v232)] [])) _
          refine XS.iinc X25.here hx rfl (hb hby d22_269) rfl (l' := #[.val (.ref ob), .val (.ref tr), .val (.int ds), .val (.int (4 : Int32)), .val (.ref sk), .val (.ref nr), .val (.int v269), .val (.int v232)]) (by rw [hv269]; rfl) ?_
          refine XS.goto X25.here hx rfl (pc0 := 272) (pc' := 219) rfl (hb hby d22_272) (by decide) (by decide) ?_
          show Steps p.tables e below (T25.setTop (mkF m 219 #[.val (.ref ob), .val (.ref tr), .val (.int ds), .val (.int (4 : Int32)), .val (.ref sk), .val (.ref nr), .val (.int v269), .val (.int v232)] [])) _
          exact kt
        obtain ⟨k', hk', hinv'⟩ : ∃ k' : Nat, k' < k ∧ own_E parF F2 k' v269 (own_wr ch ((own_rd F2 v232) + (own_rd nx v232)) i) (own_wr nx v232 ((own_rd nx v232) + (1 : Int32))) = some CH := (own_back_22_219_ff ds parF F2 CH k i q7 ch nx hinv hc222_2 v232 hv232 hc237_6 v269 hv269)
        obtain ⟨T', h', lc', io, qo, co, X', e', N', K', fo0_37, hpost', st'⟩ := ih k' hk' (v269) (v232) ((own_wr ch ((own_rd F2 v232) + (own_rd nx v232)) i)) ((own_wr nx v232 ((own_rd nx v232) + (1 : Int32)))) T25 hX25 _ hinv' X25 e25 N25 Z34 F27 F28 F29 F30 F31 F32 F33 F26
        exact ⟨T', h', lc', io, qo, co, X', e', N', K35.trans K' (fun x hx => Or.inl hx), fo0_37, hpost', fun tq kt => pre36 tq (st' tq kt)⟩
    · skip
      have pre38 : ∀ tq, Steps p.tables e below (T0.setTop (mkF m 275 #[.val (.ref ob), .val (.ref tr), .val (.int ds), .val (.int (4 : Int32)), .val (.ref sk), .val (.ref nr), .val (.int i), .val (.int q7)] [])) tq → Steps p.tables e below (T0.setTop (mkF m 219 #[.val (.ref ob), .val (.ref tr), .val (.int ds), .val (.int (4 : Int32)), .val (.ref sk), .val (.ref nr), .val (.int i), .val (.int q7)] [])) tq := by
        intro tq kt
        refine pre1 _ ?_
        show Steps p.tables e below (T0.setTop (mkF m 222 #[.val (.ref ob), .val (.ref tr), .val (.int ds), .val (.int (4 : Int32)), .val (.ref sk), .val (.ref nr), .val (.int i), .val (.int q7)] [(.int (4 : Int32)), (.int i)])) _
        refine XS.icmpYes X0.here hx rfl (pc0 := 222) (pc' := 275) rfl (hb hby d22_222) rfl (flt hc222_2).2.1 (by decide) (by decide) ?_
        show Steps p.tables e below (T0.setTop (mkF m 275 #[.val (.ref ob), .val (.ref tr), .val (.int ds), .val (.int (4 : Int32)), .val (.ref sk), .val (.ref nr), .val (.int i), .val (.int q7)] [])) _
        exact kt
      have hq39 : CH = ch := (own_post_22_275_t ds parF F2 CH k i q7 ch nx hinv hc222_2)
      exact ⟨T0, h0, _, i, q7, ch, X0, e0, N0, K0, I6, hq39, fun tq kt => pre38 tq kt⟩
theorem d22_0 : decode prog_53_method_1_code 0 = .ok (.aload_n 0, 1) := by decide +kernel
theorem d22_1 : decode prog_53_method_1_code 1 = .ok (.invokespecial 1, 3) := by decide +kernel
theorem d22_4 : decode prog_53_method_1_code 4 = .ok (.aload_n 0, 1) := by decide +kernel
theorem d22_5 : decode prog_53_method_1_code 5 = .ok (.aload_n 1, 1) := by decide +kernel
theorem d22_6 : decode prog_53_method_1_code 6 = .ok (.putfield 7, 3) := by decide +kernel
theorem d22_9 : decode prog_53_method_1_code 9 = .ok (.aload_n 0, 1) := by decide +kernel
theorem d22_10 : decode prog_53_method_1_code 10 = .ok (.iload_n 2, 1) := by decide +kernel
theorem d22_11 : decode prog_53_method_1_code 11 = .ok (.putfield 13, 3) := by decide +kernel
theorem d22_14 : decode prog_53_method_1_code 14 = .ok (.aload_n 1, 1) := by decide +kernel
theorem d22_15 : decode prog_53_method_1_code 15 = .ok (.invokevirtual 17, 3) := by decide +kernel
theorem d22_18 : decode prog_53_method_1_code 18 = .ok (.istore_n 3, 1) := by decide +kernel
theorem d22_19 : decode prog_53_method_1_code 19 = .ok (.aload_n 0, 1) := by decide +kernel
theorem d22_20 : decode prog_53_method_1_code 20 = .ok (.iload_n 3, 1) := by decide +kernel
theorem d22_21 : decode prog_53_method_1_code 21 = .ok (.newarray .int, 2) := by decide +kernel
theorem d22_23 : decode prog_53_method_1_code 23 = .ok (.putfield 23, 3) := by decide +kernel
theorem d22_26 : decode prog_53_method_1_code 26 = .ok (.new 27, 3) := by decide +kernel
theorem d22_29 : decode prog_53_method_1_code 29 = .ok (.dup, 1) := by decide +kernel
theorem d22_30 : decode prog_53_method_1_code 30 = .ok (.invokespecial 29, 3) := by decide +kernel
theorem d22_33 : decode prog_53_method_1_code 33 = .ok (.astore 4, 2) := by decide +kernel
theorem d22_35 : decode prog_53_method_1_code 35 = .ok (.iconst 0, 1) := by decide +kernel
theorem d22_36 : decode prog_53_method_1_code 36 = .ok (.istore 5, 2) := by decide +kernel
theorem d22_112 : decode prog_53_method_1_code 112 = .ok (.aload_n 0, 1) := by decide +kernel
theorem d22_113 : decode prog_53_method_1_code 113 = .ok (.iload_n 3, 1) := by decide +kernel
theorem d22_114 : decode prog_53_method_1_code 114 = .ok (.iconst 1, 1) := by decide +kernel
theorem d22_115 : decode prog_53_method_1_code 115 = .ok (.iadd, 1) := by decide +kernel
theorem d22_116 : decode prog_53_method_1_code 116 = .ok (.newarray .int, 2) := by decide +kernel
theorem d22_118 : decode prog_53_method_1_code 118 = .ok (.putfield 48, 3) := by decide +kernel
theorem d22_121 : decode prog_53_method_1_code 121 = .ok (.iconst 0, 1) := by decide +kernel
theorem d22_122 : decode prog_53_method_1_code 122 = .ok (.istore 5, 2) := by decide +kernel
theorem d22_165 : decode prog_53_method_1_code 165 = .ok (.iconst 0, 1) := by decide +kernel
theorem d22_166 : decode prog_53_method_1_code 166 = .ok (.istore 5, 2) := by decide +kernel
theorem d22_199 : decode prog_53_method_1_code 199 = .ok (.aload_n 0, 1) := by decide +kernel
theorem d22_200 : decode prog_53_method_1_code 200 = .ok (.aload_n 0, 1) := by decide +kernel
theorem d22_201 : decode prog_53_method_1_code 201 = .ok (.getfield 48, 3) := by decide +kernel
theorem d22_204 : decode prog_53_method_1_code 204 = .ok (.iload_n 3, 1) := by decide +kernel
theorem d22_205 : decode prog_53_method_1_code 205 = .ok (.iaload, 1) := by decide +kernel
theorem d22_206 : decode prog_53_method_1_code 206 = .ok (.newarray .int, 2) := by decide +kernel
theorem d22_208 : decode prog_53_method_1_code 208 = .ok (.putfield 51, 3) := by decide +kernel
theorem d22_211 : decode prog_53_method_1_code 211 = .ok (.iload_n 3, 1) := by decide +kernel
theorem d22_212 : decode prog_53_method_1_code 212 = .ok (.newarray .int, 2) := by decide +kernel
theorem d22_214 : decode prog_53_method_1_code 214 = .ok (.astore 5, 2) := by decide +kernel
theorem d22_216 : decode prog_53_method_1_code 216 = .ok (.iconst 0, 1) := by decide +kernel
theorem d22_217 : decode prog_53_method_1_code 217 = .ok (.istore 6, 2) := by decide +kernel
theorem d22_275 : decode prog_53_method_1_code 275 = .ok (.return_, 1) := by decide +kernel
theorem pn_22 : plainName "com/example/twigmeter/twigmeter/workload/Reach" = true := by first | (simp [plainName, overriddenIn]; done) | decide +kernel
theorem ef_22 (m : MethodId) (x0 : Addr) (x1 : Addr) (x2 : Int32) : entryFrame m #[(.ref x0), (.ref x1), (.int x2)] 8 = mkF m 0 #[.val (.ref x0), .val (.ref x1), .val (.int x2), .unset, .unset, .unset, .unset, .unset] [] := by first | (simp [entryFrame, mkF, argsToLocals, Value.category]; done) | rfl
theorem own_split_22_18 (ds : Int32) (lo : Nat) (bd : Nat) (S : own_S) (parF : List Int32) (F1 : List Int32) (F2 : List Int32) (CH : List Int32) (hn : S.2.2.1 = (4 : Int32)) (hpA : own_A S.1 5 (0 : Int32) [(0 : Int32), (0 : Int32), (0 : Int32), (0 : Int32)] (own_zs (16 : Int32)) (0 : Int32) = some parF) (hpC : own_C parF 5 (0 : Int32) [(0 : Int32), (0 : Int32), (0 : Int32), (0 : Int32), (0 : Int32)] = some F1) (hpD : own_D 5 (0 : Int32) F1 = some F2) (hp4 : own_inx F2 (4 : Int32) = true ∧ ¬ own_rd F2 (4 : Int32) < 0 ∧ (own_rd F2 (4 : Int32)).toNatClampNeg ≤ 4) (hp0 : own_inx parF (0 : Int32) = true ∧ own_rd parF (0 : Int32) = (-1 : Int32)) (hpE : own_E parF F2 4 (1 : Int32) (own_zs (own_rd F2 (4 : Int32))) [(0 : Int32), (0 : Int32), (0 : Int32), (0 : Int32)] = some CH) (r15 : Int32) (hr15 : r15 = S.2.2.1) : r15 = (4 : Int32) := hr15.trans hn
theorem own_inv_22_38_s4 (ds : Int32) (lo : Nat) (bd : Nat) (S : own_S) (parF : List Int32) (F1 : List Int32) (F2 : List Int32) (CH : List Int32) (hn : S.2.2.1 = (4 : Int32)) (hpA : own_A S.1 5 (0 : Int32) [(0 : Int32), (0 : Int32), (0 : Int32), (0 : Int32)] (own_zs (16 : Int32)) (0 : Int32) = some parF) (hpC : own_C parF 5 (0 : Int32) [(0 : Int32), (0 : Int32), (0 : Int32), (0 : Int32), (0 : Int32)] = some F1) (hpD : own_D 5 (0 : Int32) F1 = some F2) (hp4 : own_inx F2 (4 : Int32) = true ∧ ¬ own_rd F2 (4 : Int32) < 0 ∧ (own_rd F2 (4 : Int32)).toNatClampNeg ≤ 4) (hp0 : own_inx parF (0 : Int32) = true ∧ own_rd parF (0 : Int32) = (-1 : Int32)) (hpE : own_E parF F2 4 (1 : Int32) (own_zs (own_rd F2 (4 : Int32))) [(0 : Int32), (0 : Int32), (0 : Int32), (0 : Int32)] = some CH) (hr15 : (4 : Int32) = S.2.2.1) : own_A S.1 (5) (0 : Int32) [(0 : Int32), (0 : Int32), (0 : Int32), (0 : Int32)] (own_zs (16 : Int32)) (0 : Int32) = some parF := hpA
theorem own_inv_22_124_s4 (ds : Int32) (lo : Nat) (bd : Nat) (S : own_S) (parF : List Int32) (F1 : List Int32) (F2 : List Int32) (CH : List Int32) (hn : S.2.2.1 = (4 : Int32)) (hpA : own_A S.1 5 (0 : Int32) [(0 : Int32), (0 : Int32), (0 : Int32), (0 : Int32)] (own_zs (16 : Int32)) (0 : Int32) = some parF) (hpC : own_C parF 5 (0 : Int32) [(0 : Int32), (0 : Int32), (0 : Int32), (0 : Int32), (0 : Int32)] = some F1) (hpD : own_D 5 (0 : Int32) F1 = some F2) (hp4 : own_inx F2 (4 : Int32) = true ∧ ¬ own_rd F2 (4 : Int32) < 0 ∧ (own_rd F2 (4 : Int32)).toNatClampNeg ≤ 4) (hp0 : own_inx parF (0 : Int32) = true ∧ own_rd parF (0 : Int32) = (-1 : Int32)) (hpE : own_E parF F2 4 (1 : Int32) (own_zs (own_rd F2 (4 : Int32))) [(0 : Int32), (0 : Int32), (0 : Int32), (0 : Int32)] = some CH) (hr15 : (4 : Int32) = S.2.2.1) (io_82 : Int32) : own_C parF (5) (0 : Int32) [(0 : Int32), (0 : Int32), (0 : Int32), (0 : Int32), (0 : Int32)] = some F1 := hpC
theorem own_inv_22_168_s4 (ds : Int32) (lo : Nat) (bd : Nat) (S : own_S) (parF : List Int32) (F1 : List Int32) (F2 : List Int32) (CH : List Int32) (hn : S.2.2.1 = (4 : Int32)) (hpA : own_A S.1 5 (0 : Int32) [(0 : Int32), (0 : Int32), (0 : Int32), (0 : Int32)] (own_zs (16 : Int32)) (0 : Int32) = some parF) (hpC : own_C parF 5 (0 : Int32) [(0 : Int32), (0 : Int32), (0 : Int32), (0 : Int32), (0 : Int32)] = some F1) (hpD : own_D 5 (0 : Int32) F1 = some F2) (hp4 : own_inx F2 (4 : Int32) = true ∧ ¬ own_rd F2 (4 : Int32) < 0 ∧ (own_rd F2 (4 : Int32)).toNatClampNeg ≤ 4) (hp0 : own_inx parF (0 : Int32) = true ∧ own_rd parF (0 : Int32) = (-1 : Int32)) (hpE : own_E parF F2 4 (1 : Int32) (own_zs (own_rd F2 (4 : Int32))) [(0 : Int32), (0 : Int32), (0 : Int32), (0 : Int32)] = some CH) (hr15 : (4 : Int32) = S.2.2.1) (io_82 : Int32) (io_124 : Int32) : own_D (5) (0 : Int32) F1 = some F2 := hpD
theorem own_inx_22_205_s4 (ds : Int32) (lo : Nat) (bd : Nat) (S : own_S) (parF : List Int32) (F1 : List Int32) (F2 : List Int32) (CH : List Int32) (hn : S.2.2.1 = (4 : Int32)) (hpA : own_A S.1 5 (0 : Int32) [(0 : Int32), (0 : Int32), (0 : Int32), (0 : Int32)] (own_zs (16 : Int32)) (0 : Int32) = some parF) (hpC : own_C parF 5 (0 : Int32) [(0 : Int32), (0 : Int32), (0 : Int32), (0 : Int32), (0 : Int32)] = some F1) (hpD : own_D 5 (0 : Int32) F1 = some F2) (hp4 : own_inx F2 (4 : Int32) = true ∧ ¬ own_rd F2 (4 : Int32) < 0 ∧ (own_rd F2 (4 : Int32)).toNatClampNeg ≤ 4) (hp0 : own_inx parF (0 : Int32) = true ∧ own_rd parF (0 : Int32) = (-1 : Int32)) (hpE : own_E parF F2 4 (1 : Int32) (own_zs (own_rd F2 (4 : Int32))) [(0 : Int32), (0 : Int32), (0 : Int32), (0 : Int32)] = some CH) (hr15 : (4 : Int32) = S.2.2.1) (io_82 : Int32) (io_124 : Int32) (io_139 : Int32) : own_inx F2 (4 : Int32) = true := hp4.1
theorem own_neg_22_206_s4 (ds : Int32) (lo : Nat) (bd : Nat) (S : own_S) (parF : List Int32) (F1 : List Int32) (F2 : List Int32) (CH : List Int32) (hn : S.2.2.1 = (4 : Int32)) (hpA : own_A S.1 5 (0 : Int32) [(0 : Int32), (0 : Int32), (0 : Int32), (0 : Int32)] (own_zs (16 : Int32)) (0 : Int32) = some parF) (hpC : own_C parF 5 (0 : Int32) [(0 : Int32), (0 : Int32), (0 : Int32), (0 : Int32), (0 : Int32)] = some F1) (hpD : own_D 5 (0 : Int32) F1 = some F2) (hp4 : own_inx F2 (4 : Int32) = true ∧ ¬ own_rd F2 (4 : Int32) < 0 ∧ (own_rd F2 (4 : Int32)).toNatClampNeg ≤ 4) (hp0 : own_inx parF (0 : Int32) = true ∧ own_rd parF (0 : Int32) = (-1 : Int32)) (hpE : own_E parF F2 4 (1 : Int32) (own_zs (own_rd F2 (4 : Int32))) [(0 : Int32), (0 : Int32), (0 : Int32), (0 : Int32)] = some CH) (hr15 : (4 : Int32) = S.2.2.1) (io_82 : Int32) (io_124 : Int32) (io_139 : Int32) : ¬ (own_rd F2 (4 : Int32)) < 0 := hp4.2.1
theorem own_cap_22_206_s4 (ds : Int32) (lo : Nat) (bd : Nat) (S : own_S) (parF : List Int32) (F1 : List Int32) (F2 : List Int32) (CH : List Int32) (hn : S.2.2.1 = (4 : Int32)) (hpA : own_A S.1 5 (0 : Int32) [(0 : Int32), (0 : Int32), (0 : Int32), (0 : Int32)] (own_zs (16 : Int32)) (0 : Int32) = some parF) (hpC : own_C parF 5 (0 : Int32) [(0 : Int32), (0 : Int32), (0 : Int32), (0 : Int32), (0 : Int32)] = some F1) (hpD : own_D 5 (0 : Int32) F1 = some F2) (hp4 : own_inx F2 (4 : Int32) = true ∧ ¬ own_rd F2 (4 : Int32) < 0 ∧ (own_rd F2 (4 : Int32)).toNatClampNeg ≤ 4) (hp0 : own_inx parF (0 : Int32) = true ∧ own_rd parF (0 : Int32) = (-1 : Int32)) (hpE : own_E parF F2 4 (1 : Int32) (own_zs (own_rd F2 (4 : Int32))) [(0 : Int32), (0 : Int32), (0 : Int32), (0 : Int32)] = some CH) (hr15 : (4 : Int32) = S.2.2.1) (io_82 : Int32) (io_124 : Int32) (io_139 : Int32) : ((own_rd F2 (4 : Int32))).toNatClampNeg ≤ 4 := hp4.2.2
theorem own_inx_22_231_s4 (ds : Int32) (lo : Nat) (bd : Nat) (S : own_S) (parF : List Int32) (F1 : List Int32) (F2 : List Int32) (CH : List Int32) (hn : S.2.2.1 = (4 : Int32)) (hpA : own_A S.1 5 (0 : Int32) [(0 : Int32), (0 : Int32), (0 : Int32), (0 : Int32)] (own_zs (16 : Int32)) (0 : Int32) = some parF) (hpC : own_C parF 5 (0 : Int32) [(0 : Int32), (0 : Int32), (0 : Int32), (0 : Int32), (0 : Int32)] = some F1) (hpD : own_D 5 (0 : Int32) F1 = some F2) (hp4 : own_inx F2 (4 : Int32) = true ∧ ¬ own_rd F2 (4 : Int32) < 0 ∧ (own_rd F2 (4 : Int32)).toNatClampNeg ≤ 4) (hp0 : own_inx parF (0 : Int32) = true ∧ own_rd parF (0 : Int32) = (-1 : Int32)) (hpE : own_E parF F2 4 (1 : Int32) (own_zs (own_rd F2 (4 : Int32))) [(0 : Int32), (0 : Int32), (0 : Int32), (0 : Int32)] = some CH) (hr15 : (4 : Int32) = S.2.2.1) (io_82 : Int32) (io_124 : Int32) (io_139 : Int32) : own_inx parF (0 : Int32) = true := hp0.1
theorem own_inv_22_219_s4t (ds : Int32) (lo : Nat) (bd : Nat) (S : own_S) (parF : List Int32) (F1 : List Int32) (F2 : List Int32) (CH : List Int32) (hn : S.2.2.1 = (4 : Int32)) (hpA : own_A S.1 5 (0 : Int32) [(0 : Int32), (0 : Int32), (0 : Int32), (0 : Int32)] (own_zs (16 : Int32)) (0 : Int32) = some parF) (hpC : own_C parF 5 (0 : Int32) [(0 : Int32), (0 : Int32), (0 : Int32), (0 : Int32), (0 : Int32)] = some F1) (hpD : own_D 5 (0 : Int32) F1 = some F2) (hp4 : own_inx F2 (4 : Int32) = true ∧ ¬ own_rd F2 (4 : Int32) < 0 ∧ (own_rd F2 (4 : Int32)).toNatClampNeg ≤ 4) (hp0 : own_inx parF (0 : Int32) = true ∧ own_rd parF (0 : Int32) = (-1 : Int32)) (hpE : own_E parF F2 4 (1 : Int32) (own_zs (own_rd F2 (4 : Int32))) [(0 : Int32), (0 : Int32), (0 : Int32), (0 : Int32)] = some CH) (hr15 : (4 : Int32) = S.2.2.1) (io_82 : Int32) (io_124 : Int32) (io_139 : Int32) (v232 : Int32) (hv232 : v232 = (own_rd parF (0 : Int32))) (hc237_205 : v232 = (-1 : Int32)) : own_E parF F2 (4) (1 : Int32) (own_zs (own_rd F2 (4 : Int32))) [(0 : Int32), (0 : Int32), (0 : Int32), (0 : Int32)] = some CH := hpE
theorem own_dead_22_237_s4f (ds : Int32) (lo : Nat) (bd : Nat) (S : own_S) (parF : List Int32) (F1 : List Int32) (F2 : List Int32) (CH : List Int32) (hn : S.2.2.1 = (4 : Int32)) (hpA : own_A S.1 5 (0 : Int32) [(0 : Int32), (0 : Int32), (0 : Int32), (0 : Int32)] (own_zs (16 : Int32)) (0 : Int32) = some parF) (hpC : own_C parF 5 (0 : Int32) [(0 : Int32), (0 : Int32), (0 : Int32), (0 : Int32), (0 : Int32)] = some F1) (hpD : own_D 5 (0 : Int32) F1 = some F2) (hp4 : own_inx F2 (4 : Int32) = true ∧ ¬ own_rd F2 (4 : Int32) < 0 ∧ (own_rd F2 (4 : Int32)).toNatClampNeg ≤ 4) (hp0 : own_inx parF (0 : Int32) = true ∧ own_rd parF (0 : Int32) = (-1 : Int32)) (hpE : own_E parF F2 4 (1 : Int32) (own_zs (own_rd F2 (4 : Int32))) [(0 : Int32), (0 : Int32), (0 : Int32), (0 : Int32)] = some CH) (hr15 : (4 : Int32) = S.2.2.1) (io_82 : Int32) (io_124 : Int32) (io_139 : Int32) (v232 : Int32) (hv232 : v232 = (own_rd parF (0 : Int32))) (hc237_205 : ¬ (v232 = (-1 : Int32))) : False := hc237_205 (hv232.trans hp0.2)
def Q22 (Z : State) (ob : Addr) (tr : Addr) (ds : Int32) (lo : Nat) (bd : Nat) (S : own_S) (parF : List Int32) (F1 : List Int32) (F2 : List Int32) (CH : List Int32) (h0 : Heap) (n0 : Nat) (v : Option Value) (h : Heap) (L : List Loc) : Prop := ∃ f1 : Addr, ∃ c1 : Addr, v = none ∧ Fr n0 L ∧ Keep h0 h [ob] ∧ n0 ≤ f1 ∧ h0.size ≤ f1 ∧ n0 ≤ c1 ∧ h0.size ≤ c1 ∧ Exa Z h ob "com/example/twigmeter/twigmeter/workload/Reach" ∧ Fld Z h ob "com/example/twigmeter/twigmeter/workload/Reach" "descendant" "Z" (.int (nar .boolean ds)) ∧ Fld Z h ob "com/example/twigmeter/twigmeter/workload/Reach" "firstChild" "[I" (.ref f1) ∧ Fld Z h ob "com/example/twigmeter/twigmeter/workload/Reach" "children" "[I" (.ref c1) ∧ own_ia Z h f1 F2 ∧ own_ia Z h c1 CH
set_option maxRecDepth 65536 in
set_option maxHeartbeats 40000000 in
theorem rm22 (l : Launch) (Z : State) (a0 : Array Value) (hw : ∀ d ∈ tables_1, d.before a0 Z = true) (ws : List Jvm.Cond) (ob : Addr) (tr : Addr) (ds : Int32) (lo : Nat) (bd : Nat) (S : own_S) (parF : List Int32) (F1 : List Int32) (F2 : List Int32) (CH : List Int32) (h0 : Heap) (n0 : Nat) (Z0 : n0 ≤ h0.size) (I0 : Fld Z h0 ob "com/example/twigmeter/twigmeter/workload/Reach" "tree" "Lcom/example/twigmeter/twigmeter/xml/ElementTree;" .null) (I1 : Fld Z h0 ob "com/example/twigmeter/twigmeter/workload/Reach" "descendant" "Z" (.int (0 : Int32))) (I2 : Fld Z h0 ob "com/example/twigmeter/twigmeter/workload/Reach" "parents" "[I" .null) (I3 : Fld Z h0 ob "com/example/twigmeter/twigmeter/workload/Reach" "firstChild" "[I" .null) (I4 : Fld Z h0 ob "com/example/twigmeter/twigmeter/workload/Reach" "children" "[I" .null) (I5 : Exa Z h0 ob "com/example/twigmeter/twigmeter/workload/Reach") (I6 : own_tr Z h0 tr lo bd S) (I7 : Exa Z h0 tr "com/example/twigmeter/twigmeter/xml/ElementTree") (g_ob : n0 ≤ ob) (bd_ob : bd ≤ ob) (hn : S.2.2.1 = (4 : Int32)) (hpA : own_A S.1 5 (0 : Int32) [(0 : Int32), (0 : Int32), (0 : Int32), (0 : Int32)] (own_zs (16 : Int32)) (0 : Int32) = some parF) (hpC : own_C parF 5 (0 : Int32) [(0 : Int32), (0 : Int32), (0 : Int32), (0 : Int32), (0 : Int32)] = some F1) (hpD : own_D 5 (0 : Int32) F1 = some F2) (hp4 : own_inx F2 (4 : Int32) = true ∧ ¬ own_rd F2 (4 : Int32) < 0 ∧ (own_rd F2 (4 : Int32)).toNatClampNeg ≤ 4) (hp0 : own_inx parF (0 : Int32) = true ∧ own_rd parF (0 : Int32) = (-1 : Int32)) (hpE : own_E parF F2 4 (1 : Int32) (own_zs (own_rd F2 (4 : Int32))) [(0 : Int32), (0 : Int32), (0 : Int32), (0 : Int32)] = some CH) :
    MetFree l (⟨"com/example/twigmeter/twigmeter/workload/Reach", "<init>", "(Lcom/example/twigmeter/twigmeter/xml/ElementTree;Z)V"⟩ : MethodName) (head1 (Jvm.Cond.code (⟨"com/example/twigmeter/twigmeter/workload/Reach", "<init>", "(Lcom/example/twigmeter/twigmeter/xml/ElementTree;Z)V"⟩ : MethodName) prog_53_method_1_code 8 none :: ws) ({ frames := 2, cells := 6, slots := 35, locals := 60 } : Room)) (fun a U => a = #[(.ref ob), (.ref tr), (.int ds)] ∧ Z.Warmed39 U.vm ∧ U.heap = h0) (fun _ _ _ _ _ => True) (fun _ U o U' => ∃ v L, o = .returned v ∧ Q22 Z ob tr ds lo bd S parF F1 F2 CH h0 n0 v U'.heap L ∧ FrameEnd U o U' L ({ frames := 2, cells := 6, slots := 35, locals := 60 } : Room).cells ({ frames := 2, cells := 6, slots := 35, locals := 60 } : Room).slots) := by
  refine MetFree.of_bodySF (plainFor_of_name pn_22) hisR ?_
  intro p e s m args below meth c s₁ Bd hml0 hP hK
  obtain ⟨rfl, hZ, hh⟩ := hP
  have hx := Bd.exec
  have hby := Bd.bytes
  have hml : c.maxLocals = 8 := hml0
  have hown : s.vm.findClass "com/example/twigmeter/twigmeter/workload/Reach" = some m.cls := findClass_of_methodNamed Bd.named
  have hnm := (name_of_methodNamed Bd.named Bd.method).1
  have X0 : Stand p l e ({ frames := 2, cells := 6, slots := 35, locals := 60 } : Room) s m #[(.ref ob), (.ref tr), (.int ds)] below meth c s₁ [] 0 0 := Stand.of_body Bd
  have e0 : s₁.heap = h0 := by rw [← hh, Bd.state]; rfl
  have N0 := Fr.nil n0
  have K0 : Keep h0 h0 [ob] := Keep.refl h0 _
  have pre0 : ∀ tq, Steps p.tables e below (s₁.setTop (mkF m 0 #[.val (.ref ob), .val (.ref tr), .val (.int ds), .unset, .unset, .unset, .unset, .unset] [])) tq → Steps p.tables e below (s₁.setTop (entryFrame m #[(.ref ob), (.ref tr), (.int ds)] 8)) tq := fun tq kq => castTop (ef_22 m ob tr ds) kq
  obtain ⟨T1, X1, e1, st1⟩ := initO X0 hx hZ hown (hw _ (List.mem_of_getElem? (i := 155) rfl)) (hw _ (List.mem_of_getElem? (i := 20) rfl)) (hw _ (List.mem_of_getElem? (i := 21) rfl)) e0 (g := (mkF m 1 #[.val (.ref ob), .val (.ref tr), .val (.int ds), .unset, .unset, .unset, .unset, .unset] [(.ref ob)])) rfl (by rw [hml]; rfl) rfl (hb hby d22_1) (by decide) (W := 0) (by show 2 * 0 + _ ≤ _; exact Nat.le_of_eq rfl) (by decide)
  obtain ⟨T2, hX2, X2, e2, W2, st2⟩ := putF X1 hx hZ hown (host := "") (Or.inl (hw _ (List.mem_of_getElem? (i := 156) rfl))) Via.refl e1 I0 I5 (Or.inr ⟨(hw _ (List.mem_of_getElem? (i := 157) rfl)), rfl, hnm⟩) (hw _ (List.mem_of_getElem? (i := 150) rfl)) (ty := (.object "com/example/twigmeter/twigmeter/xml/ElementTree")) (by decide) rfl rfl (g := (mkF m 6 #[.val (.ref ob), .val (.ref tr), .val (.int ds), .unset, .unset, .unset, .unset, .unset] [(.ref tr), (.ref ob)])) rfl rfl (hb hby d22_6)
  have N2 := Fr.snoc X2 N0 g_ob
  have F3 : Fld Z hX2 ob "com/example/twigmeter/twigmeter/workload/Reach" "tree" "Lcom/example/twigmeter/twigmeter/xml/ElementTree;" (.ref tr) := I0.same W2
  have F4 : Fld Z hX2 ob "com/example/twigmeter/twigmeter/workload/Reach" "descendant" "Z" (.int (0 : Int32)) := I1.other W2 (Or.inr (slot_ne (Or.inr (hw _ (List.mem_of_getElem? (i := 159) rfl))) (Or.inr (hw _ (List.mem_of_getElem? (i := 157) rfl))) (by decide) (t := .boolean) (t' := (.object "com/example/twigmeter/twigmeter/xml/ElementTree")) (by decide) (by decide)))
  have F5 : Fld Z hX2 ob "com/example/twigmeter/twigmeter/workload/Reach" "parents" "[I" .null := I2.other W2 (Or.inr (slot_ne (Or.inr (hw _ (List.mem_of_getElem? (i := 166) rfl))) (Or.inr (hw _ (List.mem_of_getElem? (i := 157) rfl))) (by decide) (t := (.array .int)) (t' := (.object "com/example/twigmeter/twigmeter/xml/ElementTree")) (by decide) (by decide)))
  have F6 : Fld Z hX2 ob "com/example/twigmeter/twigmeter/workload/Reach" "firstChild" "[I" .null := I3.other W2 (Or.inr (slot_ne (Or.inr (hw _ (List.mem_of_getElem? (i := 192) rfl))) (Or.inr (hw _ (List.mem_of_getElem? (i := 157) rfl))) (by decide) (t := (.array .int)) (t' := (.object "com/example/twigmeter/twigmeter/xml/ElementTree")) (by decide) (by decide)))
  have F7 : Fld Z hX2 ob "com/example/twigmeter/twigmeter/workload/Reach" "children" "[I" .null := I4.other W2 (Or.inr (slot_ne (Or.inr (hw _ (List.mem_of_getElem? (i := 194) rfl))) (Or.inr (hw _ (List.mem_of_getElem? (i := 157) rfl))) (by decide) (t := (.array .int)) (t' := (.object "com/example/twigmeter/twigmeter/xml/ElementTree")) (by decide) (by decide)))
  have F8 : Exa Z hX2 ob "com/example/twigmeter/twigmeter/workload/Reach" := I5.wr W2
  have F9 : own_tr Z hX2 tr lo bd S := I6.keep (Keep.of_wr W2) (allS bd_ob all0)
  have F10 : Exa Z hX2 tr "com/example/twigmeter/twigmeter/xml/ElementTree" := I7.wr W2
  have Z11 : n0 ≤ hX2.size := Nat.le_trans Z0 (Keep.of_wr W2).1
  have K12 : Keep h0 hX2 [ob] := K0.wr W2 (Or.inl (List.mem_of_getElem? (i := 0) rfl))
  obtain ⟨T13, hX13, X13, e13, W13, st13⟩ := putFN X2 hx hZ hown (hw _ (List.mem_of_getElem? (i := 158) rfl)) Via.refl e2 F4 F8 (Or.inr ⟨(hw _ (List.mem_of_getElem? (i := 159) rfl)), rfl, hnm⟩) (hw _ (List.mem_of_getElem? (i := 150) rfl)) (ty := .boolean) (v' := (.int (nar .boolean ds))) (by decide) rfl (fits_nar_bool _) (g := (mkF m 11 #[.val (.ref ob), .val (.ref tr), .val (.int ds), .unset, .unset, .unset, .unset, .unset] [(.int ds), (.ref ob)])) rfl rfl (hb hby d22_11)
  have N13 := Fr.snoc X13 N2 g_ob
  have F14 : Fld Z hX13 ob "com/example/twigmeter/twigmeter/workload/Reach" "descendant" "Z" (.int (nar .boolean ds)) := F4.same W13
  have F15 : Fld Z hX13 ob "com/example/twigmeter/twigmeter/workload/Reach" "parents" "[I" .null := F5.other W13 (Or.inr (slot_ne (Or.inr (hw _ (List.mem_of_getElem? (i := 166) rfl))) (Or.inr (hw _ (List.mem_of_getElem? (i := 159) rfl))) (by decide) (t := (.array .int)) (t' := .boolean) (by decide) (by decide)))
  have F16 : Fld Z hX13 ob "com/example/twigmeter/twigmeter/workload/Reach" "firstChild" "[I" .null := F6.other W13 (Or.inr (slot_ne (Or.inr (hw _ (List.mem_of_getElem? (i := 192) rfl))) (Or.inr (hw _ (List.mem_of_getElem? (i := 159) rfl))) (by decide) (t := (.array .int)) (t' := .boolean) (by decide) (by decide)))
  have F17 : Fld Z hX13 ob "com/example/twigmeter/twigmeter/workload/Reach" "children" "[I" .null := F7.other W13 (Or.inr (slot_ne (Or.inr (hw _ (List.mem_of_getElem? (i := 194) rfl))) (Or.inr (hw _ (List.mem_of_getElem? (i := 159) rfl))) (by decide) (t := (.array .int)) (t' := .boolean) (by decide) (by decide)))
  have F18 : Exa Z hX13 ob "com/example/twigmeter/twigmeter/workload/Reach" := F8.wr W13
  have F19 : own_tr Z hX13 tr lo bd S := F9.keep (Keep.of_wr W13) (allS bd_ob all0)
  have F20 : Exa Z hX13 tr "com/example/twigmeter/twigmeter/xml/ElementTree" := F10.wr W13
  have F21 : Fld Z hX13 ob "com/example/twigmeter/twigmeter/workload/Reach" "tree" "Lcom/example/twigmeter/twigmeter/xml/ElementTree;" (.ref tr) := F3.other W13 (Or.inr (slot_ne (Or.inr (hw _ (List.mem_of_getElem? (i := 157) rfl))) (Or.inr (hw _ (List.mem_of_getElem? (i := 159) rfl))) (by decide) (t := (.object "com/example/twigmeter/twigmeter/xml/ElementTree")) (t' := .boolean) (by decide) (by decide)))
  have Z22 : n0 ≤ hX13.size := Nat.le_trans Z11 (Keep.of_wr W13).1
  have K23 : Keep h0 hX13 [ob] := K12.wr W13 (Or.inl (List.mem_of_getElem? (i := 0) rfl))
  obtain ⟨cq24, kq24, q24a, q24b, q24c⟩ := isOf hZ e13 F20
  obtain ⟨_, _, ⟨T24, L24, k24, n24⟩, -, X24, ⟨Lc24, hQ24, l24, y24, z24⟩, st24⟩ := X13.virtualBack hx (y := (⟨"com/example/twigmeter/twigmeter/xml/ElementTree", "size", "()I"⟩ : MethodName)) (z := (⟨"com/example/twigmeter/twigmeter/xml/ElementTree", "size", "()I"⟩ : MethodName)) hown (mvT hZ (hw _ (List.mem_of_getElem? (i := 160) rfl))) (mvT hZ (hw _ (List.mem_of_getElem? (i := 161) rfl))) (notFace_of_selects (args := #[]) (mvT hZ (hw _ (List.mem_of_getElem? (i := 163) rfl)))) (mvT hZ (hw _ (List.mem_of_getElem? (i := 163) rfl))) (mvT hZ (hw _ (List.mem_of_getElem? (i := 162) rfl))) (by decide) (backOf (W := 0) (rm23 l Z a0 hw [] tr lo bd S hX13 n0 Z22 F19) hZ (hw _ (List.mem_of_getElem? (i := 164) rfl)) (hw _ (List.mem_of_getElem? (i := 15) rfl)) (by decide) (by decide)) q24a q24c (g := (mkF m 15 #[.val (.ref ob), .val (.ref tr), .val (.int ds), .unset, .unset, .unset, .unset, .unset] [(.ref tr)])) rfl (by rw [hml]; rfl) (Steps.refl _) (argsL := []) (rest := []) (lenOf pd_3 rfl) rfl (by show 2 * 0 + _ ≤ _; exact Nat.le_of_eq rfl) (hb hby d22_15) (fun _ _ => ⟨rfl, e13, (by decide : 0 + 0 ≤ _), (by decide : 0 + 0 ≤ _)⟩)
  dsimp only [Pt.U, Pt.locs, Pt.cells, Pt.slots] at X24 l24 y24 z24 st24 hQ24
  replace y24 : k24 = 0 := y24
  replace z24 : n24 = 0 := z24
  subst l24 y24 z24
  obtain ⟨rfl, N24q, e24⟩ := hQ24
  have N24 := Fr.app N13 N24q
  obtain ⟨r15, hr15⟩ : ∃ z_q : Int32, z_q = S.2.2.1 := ⟨_, rfl⟩
  have pre25 : ∀ tq, Steps p.tables e below (T24.setTop (mkF m 18 #[.val (.ref ob), .val (.ref tr), .val (.int ds), .unset, .unset, .unset, .unset, .unset] [(.int r15)])) tq → Steps p.tables e below (s₁.setTop (entryFrame m #[(.ref ob), (.ref tr), (.int ds)] 8)) tq := by
    intro tq kt
    refine pre0 _ ?_
    show Steps p.tables e below (s₁.setTop (mkF m 0 #[.val (.ref ob), .val (.ref tr), .val (.int ds), .unset, .unset, .unset, .unset, .unset] [])) _
    refine XS.aloadN X0.here hx rfl (hb hby d22_0) rfl rfl ?_
    refine st1 _ ?_
    show Steps p.tables e below (T1.setTop (mkF m 4 #[.val (.ref ob), .val (.ref tr), .val (.int ds), .unset, .unset, .unset, .unset, .unset] [])) _
    refine XS.aloadN X1.here hx rfl (hb hby d22_4) rfl rfl ?_
    refine XS.aloadN X1.here hx rfl (hb hby d22_5) rfl rfl ?_
    refine st2 _ ?_
    show Steps p.tables e below (T2.setTop (mkF m 9 #[.val (.ref ob), .val (.ref tr), .val (.int ds), .unset, .unset, .unset, .unset, .unset] [])) _
    refine XS.aloadN X2.here hx rfl (hb hby d22_9) rfl rfl ?_
    refine XS.iloadN X2.here hx rfl (hb hby d22_10) rfl ?_
    refine st13 _ ?_
    show Steps p.tables e below (T13.setTop (mkF m 14 #[.val (.ref ob), .val (.ref tr), .val (.int ds), .unset, .unset, .unset, .unset, .unset] [])) _
    refine XS.aloadN X13.here hx rfl (hb hby d22_14) rfl rfl ?_
    refine st24.trans ?_
    show Steps p.tables e below (T24.setTop (mkF m 18 #[.val (.ref ob), .val (.ref tr), .val (.int ds), .unset, .unset, .unset, .unset, .unset] [(.int S.2.2.1)])) _
    rw [← hr15]
    show Steps p.tables e below (T24.setTop (mkF m 18 #[.val (.ref ob), .val (.ref tr), .val (.int ds), .unset, .unset, .unset, .unset, .unset] [(.int r15)])) _
    exact kt
  rcases (own_split_22_18 ds lo bd S parF F1 F2 CH hn hpA hpC hpD hp4 hp0 hpE r15 hr15) with hs26
  · subst hs26
    obtain ⟨T27, hX27, kx27, X27, e27, E27, A27, st27⟩ := newP X24 hx hZ (hw _ (List.mem_of_getElem? (i := 0) rfl)) e24 (g := (mkF m 21 #[.val (.ref ob), .val (.ref tr), .val (.int ds), .val (.int (4 : Int32)), .unset, .unset, .unset, .unset] [(.int (4 : Int32)), (.ref ob)])) rfl (hb hby d22_21) rfl (by decide) (cap := 4) (by decide) (by decide) (by decide) (by decide)
    obtain ⟨b27, g27⟩ : ∃ z_q, z_q = hX13.size := ⟨_, rfl⟩
    rw [← g27] at A27 st27
    have g_b27 : n0 ≤ b27 := Nat.le_trans Z22 (Nat.le_of_eq g27.symm)
    have sz_b27 : h0.size ≤ b27 := Nat.le_trans K23.1 (Nat.le_of_eq g27.symm)
    have bd_b27 : bd ≤ b27 := Nat.le_trans F19.bdle (Nat.le_of_eq g27.symm)
    have ne_ob_b27 : ob ≠ b27 := Nat.ne_of_lt (Nat.lt_of_lt_of_le F15.lt (Nat.le_of_eq g27.symm))
    have ne_tr_b27 : tr ≠ b27 := Nat.ne_of_lt (Nat.lt_of_lt_of_le F20.lt (Nat.le_of_eq g27.symm))
    have F28 : Fld Z hX27 ob "com/example/twigmeter/twigmeter/workload/Reach" "parents" "[I" .null := F15.ext E27
    have F29 : Fld Z hX27 ob "com/example/twigmeter/twigmeter/workload/Reach" "firstChild" "[I" .null := F16.ext E27
    have F30 : Fld Z hX27 ob "com/example/twigmeter/twigmeter/workload/Reach" "children" "[I" .null := F17.ext E27
    have F31 : Exa Z hX27 ob "com/example/twigmeter/twigmeter/workload/Reach" := F18.ext E27
    have F32 : own_tr Z hX27 tr lo bd S := F19.ext E27
    have F33 : Exa Z hX27 tr "com/example/twigmeter/twigmeter/xml/ElementTree" := F20.ext E27
    have F34 : Fld Z hX27 ob "com/example/twigmeter/twigmeter/workload/Reach" "tree" "Lcom/example/twigmeter/twigmeter/xml/ElementTree;" (.ref tr) := F21.ext E27
    have F35 : Fld Z hX27 ob "com/example/twigmeter/twigmeter/workload/Reach" "descendant" "Z" (.int (nar .boolean ds)) := F14.ext E27
    have Z36 : n0 ≤ hX27.size := Nat.le_trans Z22 E27.1
    have K37 : Keep h0 hX27 [ob] := K23.ext E27
    have F38 : own_ia Z hX27 b27 [(0 : Int32), (0 : Int32), (0 : Int32), (0 : Int32)] := own_ia.new A27 (by decide)
    obtain ⟨T39, hX39, X39, e39, W39, st39⟩ := putF X27 hx hZ hown (host := "") (Or.inl (hw _ (List.mem_of_getElem? (i := 165) rfl))) Via.refl e27 F28 F31 (Or.inr ⟨(hw _ (List.mem_of_getElem? (i := 166) rfl)), rfl, hnm⟩) (hw _ (List.mem_of_getElem? (i := 150) rfl)) (ty := (.array .int)) (by decide) rfl rfl (g := (mkF m 23 #[.val (.ref ob), .val (.ref tr), .val (.int ds), .val (.int (4 : Int32)), .unset, .unset, .unset, .unset] [(.ref b27), (.ref ob)])) rfl rfl (hb hby d22_23)
    have N39 := Fr.snoc X39 N24 g_ob
    have F40 : Fld Z hX39 ob "com/example/twigmeter/twigmeter/workload/Reach" "parents" "[I" (.ref b27) := F28.same W39
    have F41 : Fld Z hX39 ob "com/example/twigmeter/twigmeter/workload/Reach" "firstChild" "[I" .null := F29.other W39 (Or.inr (slot_ne (Or.inr (hw _ (List.mem_of_getElem? (i := 192) rfl))) (Or.inr (hw _ (List.mem_of_getElem? (i := 166) rfl))) (by decide) (t := (.array .int)) (t' := (.array .int)) (by decide) (by decide)))
    have F42 : Fld Z hX39 ob "com/example/twigmeter/twigmeter/workload/Reach" "children" "[I" .null := F30.other W39 (Or.inr (slot_ne (Or.inr (hw _ (List.mem_of_getElem? (i := 194) rfl))) (Or.inr (hw _ (List.mem_of_getElem? (i := 166) rfl))) (by decide) (t := (.array .int)) (t' := (.array .int)) (by decide) (by decide)))
    have F43 : Exa Z hX39 ob "com/example/twigmeter/twigmeter/workload/Reach" := F31.wr W39
    have F44 : own_tr Z hX39 tr lo bd S := F32.keep (Keep.of_wr W39) (allS bd_ob all0)
    have F45 : Exa Z hX39 tr "com/example/twigmeter/twigmeter/xml/ElementTree" := F33.wr W39
    have F46 : Fld Z hX39 ob "com/example/twigmeter/twigmeter/workload/Reach" "tree" "Lcom/example/twigmeter/twigmeter/xml/ElementTree;" (.ref tr) := F34.other W39 (Or.inr (slot_ne (Or.inr (hw _ (List.mem_of_getElem? (i := 157) rfl))) (Or.inr (hw _ (List.mem_of_getElem? (i := 166) rfl))) (by decide) (t := (.object "com/example/twigmeter/twigmeter/xml/ElementTree")) (t' := (.array .int)) (by decide) (by decide)))
    have F47 : Fld Z hX39 ob "com/example/twigmeter/twigmeter/workload/Reach" "descendant" "Z" (.int (nar .boolean ds)) := F35.other W39 (Or.inr (slot_ne (Or.inr (hw _ (List.mem_of_getElem? (i := 159) rfl))) (Or.inr (hw _ (List.mem_of_getElem? (i := 166) rfl))) (by decide) (t := .boolean) (t' := (.array .int)) (by decide) (by decide)))
    have F48 : own_ia Z hX39 b27 [(0 : Int32), (0 : Int32), (0 : Int32), (0 : Int32)] := F38.other W39 (Ne.symm ne_ob_b27)
    have Z49 : n0 ≤ hX39.size := Nat.le_trans Z36 (Keep.of_wr W39).1
    have K50 : Keep h0 hX39 [ob] := K37.wr W39 (Or.inl (List.mem_of_getElem? (i := 0) rfl))
    obtain ⟨T51, hX51, X51, e51, E51, A51, D51, -, st51⟩ := newO X39 hx hZ hown (hw _ (List.mem_of_getElem? (i := 167) rfl)) (hw _ (List.mem_of_getElem? (i := 95) rfl)) (hw _ (List.mem_of_getElem? (i := 96) rfl)) e39 (g := (mkF m 26 #[.val (.ref ob), .val (.ref tr), .val (.int ds), .val (.int (4 : Int32)), .unset, .unset, .unset, .unset] [])) rfl (hb hby d22_26) (by decide) (by decide)
    obtain ⟨b51, g51⟩ : ∃ z_q, z_q = hX39.size := ⟨_, rfl⟩
    rw [← g51] at A51 D51 st51
    have g_b51 : n0 ≤ b51 := Nat.le_trans Z49 (Nat.le_of_eq g51.symm)
    have sz_b51 : h0.size ≤ b51 := Nat.le_trans K50.1 (Nat.le_of_eq g51.symm)
    have bd_b51 : bd ≤ b51 := Nat.le_trans F44.bdle (Nat.le_of_eq g51.symm)
    have ne_ob_b51 : ob ≠ b51 := Nat.ne_of_lt (Nat.lt_of_lt_of_le F41.lt (Nat.le_of_eq g51.symm))
    have ne_tr_b51 : tr ≠ b51 := Nat.ne_of_lt (Nat.lt_of_lt_of_le F45.lt (Nat.le_of_eq g51.symm))
    have ne_b27_b51 : b27 ≠ b51 := Nat.ne_of_lt (Nat.lt_of_lt_of_le F48.lt (Nat.le_of_eq g51.symm))
    have F52 : Fld Z hX51 ob "com/example/twigmeter/twigmeter/workload/Reach" "firstChild" "[I" .null := F41.ext E51
    have F53 : Fld Z hX51 ob "com/example/twigmeter/twigmeter/workload/Reach" "children" "[I" .null := F42.ext E51
    have F54 : Exa Z hX51 ob "com/example/twigmeter/twigmeter/workload/Reach" := F43.ext E51
    have F55 : own_tr Z hX51 tr lo bd S := F44.ext E51
    have F56 : Exa Z hX51 tr "com/example/twigmeter/twigmeter/xml/ElementTree" := F45.ext E51
    have F57 : Fld Z hX51 ob "com/example/twigmeter/twigmeter/workload/Reach" "tree" "Lcom/example/twigmeter/twigmeter/xml/ElementTree;" (.ref tr) := F46.ext E51
    have F58 : Fld Z hX51 ob "com/example/twigmeter/twigmeter/workload/Reach" "descendant" "Z" (.int (nar .boolean ds)) := F47.ext E51
    have F59 : own_ia Z hX51 b27 [(0 : Int32), (0 : Int32), (0 : Int32), (0 : Int32)] := F48.ext E51
    have F60 : Fld Z hX51 ob "com/example/twigmeter/twigmeter/workload/Reach" "parents" "[I" (.ref b27) := F40.ext E51
    have Z61 : n0 ≤ hX51.size := Nat.le_trans Z49 E51.1
    have K62 : Keep h0 hX51 [ob] := K50.ext E51
    have F63 : Fld Z hX51 b51 "com/example/twigmeter/twigmeter/xml/IntList" "values" "[I" .null := D51 (Or.inl (hw _ (List.mem_of_getElem? (i := 102) rfl))) (ty := (.array .int)) (by decide)
    have F64 : Fld Z hX51 b51 "com/example/twigmeter/twigmeter/xml/IntList" "size" "I" (.int (0 : Int32)) := D51 (Or.inl (hw _ (List.mem_of_getElem? (i := 122) rfl))) (ty := .int) (by decide)
    obtain ⟨_, _, ⟨T65, L65, k65, n65⟩, -, X65, ⟨Lc65, hQ65, l65, y65, z65⟩, st65⟩ := X51.specialBack hx (y := (⟨"com/example/twigmeter/twigmeter/xml/IntList", "<init>", "()V"⟩ : MethodName)) rfl hown (mvT hZ (hw _ (List.mem_of_getElem? (i := 168) rfl))) (mvT hZ (hw _ (List.mem_of_getElem? (i := 98) rfl))) (mvT hZ (hw _ (List.mem_of_getElem? (i := 99) rfl))) (by decide) (backOf (W := 1) (rm13 l Z a0 hw [] b51 hX51 n0 Z61 F63 F64 A51 g_b51) hZ (hw _ (List.mem_of_getElem? (i := 99) rfl)) (hw _ (List.mem_of_getElem? (i := 96) rfl)) (by decide) (by decide)) (g := (mkF m 30 #[.val (.ref ob), .val (.ref tr), .val (.int ds), .val (.int (4 : Int32)), .unset, .unset, .unset, .unset] [(.ref b51), (.ref b51)])) rfl (by rw [hml]; rfl) (Steps.refl _) (a := b51) (argsL := []) (rest := [(.ref b51)]) (lenOf pd_2 rfl) rfl (by show 2 * 0 + _ ≤ _; exact Nat.le_of_eq rfl) (hb hby d22_30) (fun _ _ => ⟨rfl, e51, (by decide : 2 + 1 ≤ _), (by decide : 6 + 16 ≤ _)⟩)
    dsimp only [Pt.U, Pt.locs, Pt.cells, Pt.slots] at X65 l65 y65 z65 st65 hQ65
    replace y65 : k65 = 3 := y65
    replace z65 : n65 = 22 := z65
    subst l65 y65 z65
    obtain ⟨b65_0, rfl, N65q, K65q, g_b65_0, szq_b65_0, F66, F67, F68, F69⟩ := hQ65
    have N65 := Fr.app N39 N65q
    have ne_ob_b65_0 : ob ≠ b65_0 := Nat.ne_of_lt (Nat.lt_of_lt_of_le F52.lt szq_b65_0)
    have ne_tr_b65_0 : tr ≠ b65_0 := Nat.ne_of_lt (Nat.lt_of_lt_of_le F56.lt szq_b65_0)
    have ne_b27_b65_0 : b27 ≠ b65_0 := Nat.ne_of_lt (Nat.lt_of_lt_of_le F59.lt szq_b65_0)
    have ne_b51_b65_0 : b51 ≠ b65_0 := Nat.ne_of_lt (Nat.lt_of_lt_of_le A51.lt szq_b65_0)
    have bd_b65_0 : bd ≤ b65_0 := Nat.le_trans F55.bdle szq_b65_0
    have sz_b65_0 : h0.size ≤ b65_0 := Nat.le_trans K62.1 szq_b65_0
    have F70 : Fld Z T65.heap ob "com/example/twigmeter/twigmeter/workload/Reach" "firstChild" "[I" .null := F52.keep K65q (ninS ne_ob_b51 nin0)
    have F71 : Fld Z T65.heap ob "com/example/twigmeter/twigmeter/workload/Reach" "children" "[I" .null := F53.keep K65q (ninS ne_ob_b51 nin0)
    have F72 : Exa Z T65.heap ob "com/example/twigmeter/twigmeter/workload/Reach" := F54.keep K65q
    have F73 : own_tr Z T65.heap tr lo bd S := F55.keep K65q (allS bd_b51 all0)
    have F74 : Exa Z T65.heap tr "com/example/twigmeter/twigmeter/xml/ElementTree" := F56.keep K65q
    have F75 : Fld Z T65.heap ob "com/example/twigmeter/twigmeter/workload/Reach" "tree" "Lcom/example/twigmeter/twigmeter/xml/ElementTree;" (.ref tr) := F57.keep K65q (ninS ne_ob_b51 nin0)
    have F76 : Fld Z T65.heap ob "com/example/twigmeter/twigmeter/workload/Reach" "descendant" "Z" (.int (nar .boolean ds)) := F58.keep K65q (ninS ne_ob_b51 nin0)
    have F77 : own_ia Z T65.heap b27 [(0 : Int32), (0 : Int32), (0 : Int32), (0 : Int32)] := F59.keep K65q (ninS ne_b27_b51 nin0)
    have F78 : Fld Z T65.heap ob "com/example/twigmeter/twigmeter/workload/Reach" "parents" "[I" (.ref b27) := F60.keep K65q (ninS ne_ob_b51 nin0)
    have F79 : Exa Z T65.heap b51 "com/example/twigmeter/twigmeter/xml/IntList" := A51.keep K65q
    have Z80 : n0 ≤ T65.heap.size := Nat.le_trans Z61 K65q.1
    have K81 : Keep h0 T65.heap [ob] := K62.trans K65q (allS (Or.inr sz_b51) all0)
    have hinv82 : own_A S.1 (5) (0 : Int32) [(0 : Int32), (0 : Int32), (0 : Int32), (0 : Int32)] (own_zs (16 : Int32)) (0 : Int32) = some parF := (own_inv_22_38_s4 ds lo bd S parF F1 F2 CH hn hpA hpC hpD hp4 hp0 hpE hr15)
    obtain ⟨T82, hX82, lc82, io_82, po_82, X82, e82, N82, K82q, F83, hpost82, st82⟩ := lp22_38 n0 (ob) (tr) (ds) (b51) (b65_0) (b27) (lo) (bd) (S) (parF) hx hZ hw hby hml hown g_b51 g_b65_0 g_b27 ne_ob_b51 ne_ob_b65_0 ne_ob_b27 ne_b51_b65_0 (Ne.symm ne_b27_b51) (Ne.symm ne_b27_b65_0) bd_b51 bd_b65_0 bd_b27 (5) ((0 : Int32)) ([(0 : Int32), (0 : Int32), (0 : Int32), (0 : Int32)]) ((own_zs (16 : Int32))) ((0 : Int32)) T65 T65.heap _ hinv82 X65 rfl N65 Z80 F73 F74 F72 F78 F77 F66 F67 F68 F69
    have F84 : Fld Z hX82 ob "com/example/twigmeter/twigmeter/workload/Reach" "firstChild" "[I" .null := F70.keep K82q (ninS ne_ob_b51 (ninS ne_ob_b65_0 (ninS ne_ob_b27 nin0)))
    have F85 : Fld Z hX82 ob "com/example/twigmeter/twigmeter/workload/Reach" "children" "[I" .null := F71.keep K82q (ninS ne_ob_b51 (ninS ne_ob_b65_0 (ninS ne_ob_b27 nin0)))
    have F86 : Exa Z hX82 ob "com/example/twigmeter/twigmeter/workload/Reach" := F72.keep K82q
    have F87 : own_tr Z hX82 tr lo bd S := F73.keep K82q (allS bd_b51 (allS bd_b65_0 (allS bd_b27 all0)))
    have F88 : Exa Z hX82 tr "com/example/twigmeter/twigmeter/xml/ElementTree" := F74.keep K82q
    have F89 : Fld Z hX82 ob "com/example/twigmeter/twigmeter/workload/Reach" "tree" "Lcom/example/twigmeter/twigmeter/xml/ElementTree;" (.ref tr) := F75.keep K82q (ninS ne_ob_b51 (ninS ne_ob_b65_0 (ninS ne_ob_b27 nin0)))
    have F90 : Fld Z hX82 ob "com/example/twigmeter/twigmeter/workload/Reach" "descendant" "Z" (.int (nar .boolean ds)) := F76.keep K82q (ninS ne_ob_b51 (ninS ne_ob_b65_0 (ninS ne_ob_b27 nin0)))
    have F91 : Fld Z hX82 ob "com/example/twigmeter/twigmeter/workload/Reach" "parents" "[I" (.ref b27) := F78.keep K82q (ninS ne_ob_b51 (ninS ne_ob_b65_0 (ninS ne_ob_b27 nin0)))
    have F92 : Exa Z hX82 b51 "com/example/twigmeter/twigmeter/xml/IntList" := F66.keep K82q
    have Z93 : n0 ≤ hX82.size := Nat.le_trans Z80 K82q.1
    have K94 : Keep h0 hX82 [ob] := K81.trans K82q (allS (Or.inr sz_b51) (allS (Or.inr sz_b65_0) (allS (Or.inr sz_b27) all0)))
    have pre95 : ∀ tq, Steps p.tables e below (T82.setTop (mkF m 112 #[.val (.ref ob), .val (.ref tr), .val (.int ds), .val (.int (4 : Int32)), .val (.ref b51), .val (.int io_82), .unset, .unset] [])) tq → Steps p.tables e below (s₁.setTop (entryFrame m #[(.ref ob), (.ref tr), (.int ds)] 8)) tq := by
      intro tq kt
      refine pre25 _ ?_
      show Steps p.tables e below (T24.setTop (mkF m 18 #[.val (.ref ob), .val (.ref tr), .val (.int ds), .unset, .unset, .unset, .unset, .unset] [(.int (4 : Int32))])) _
      refine XS.istoreN X24.here hx rfl (hb hby d22_18) rfl (l' := #[.val (.ref ob), .val (.ref tr), .val (.int ds), .val (.int (4 : Int32)), .unset, .unset, .unset, .unset]) rfl ?_
      refine XS.aloadN X24.here hx rfl (hb hby d22_19) rfl rfl ?_
      refine XS.iloadN X24.here hx rfl (hb hby d22_20) rfl ?_
      refine st27 _ ?_
      show Steps p.tables e below (T27.setTop (mkF m 23 #[.val (.ref ob), .val (.ref tr), .val (.int ds), .val (.int (4 : Int32)), .unset, .unset, .unset, .unset] [(.ref b27), (.ref ob)])) _
      refine st39 _ ?_
      show Steps p.tables e below (T39.setTop (mkF m 26 #[.val (.ref ob), .val (.ref tr), .val (.int ds), .val (.int (4 : Int32)), .unset, .unset, .unset, .unset] [])) _
      refine st51 _ ?_
      show Steps p.tables e below (T51.setTop (mkF m 29 #[.val (.ref ob), .val (.ref tr), .val (.int ds), .val (.int (4 : Int32)), .unset, .unset, .unset, .unset] [(.ref b51)])) _
      refine XS.dup X51.here hx rfl (hb hby d22_29) rfl rfl ?_
      refine st65.trans ?_
      show Steps p.tables e below (T65.setTop (mkF m 33 #[.val (.ref ob), .val (.ref tr), .val (.int ds), .val (.int (4 : Int32)), .unset, .unset, .unset, .unset] [(.ref b51)])) _
      refine XS.astore X65.here hx rfl (hb hby d22_33) rfl rfl (l' := #[.val (.ref ob), .val (.ref tr), .val (.int ds), .val (.int (4 : Int32)), .val (.ref b51), .unset, .unset, .unset]) rfl ?_
      refine XS.iconst X65.here hx rfl (hb hby d22_35) ?_
      refine XS.istore X65.here hx rfl (hb hby d22_36) rfl (l' := #[.val (.ref ob), .val (.ref tr), .val (.int ds), .val (.int (4 : Int32)), .val (.ref b51), .val (.int (0 : Int32)), .unset, .unset]) rfl ?_
      refine st82 _ ?_
      show Steps p.tables e below (T82.setTop (mkF m 112 #[.val (.ref ob), .val (.ref tr), .val (.int ds), .val (.int (4 : Int32)), .val (.ref b51), .val (.int io_82), .unset, .unset] [])) _
      exact kt
    obtain ⟨rfl⟩ := hpost82
    obtain ⟨T96, hX96, kx96, X96, e96, E96, A96, st96⟩ := newP X82 hx hZ (hw _ (List.mem_of_getElem? (i := 0) rfl)) e82 (g := (mkF m 116 #[.val (.ref ob), .val (.ref tr), .val (.int ds), .val (.int (4 : Int32)), .val (.ref b51), .val (.int io_82), .unset, .unset] [(.int (5 : Int32)), (.ref ob)])) rfl (hb hby d22_116) rfl (by decide) (cap := 5) (by decide) (by decide) (by decide) (by decide)
    obtain ⟨b96, g96⟩ : ∃ z_q, z_q = hX82.size := ⟨_, rfl⟩
    rw [← g96] at A96 st96
    have g_b96 : n0 ≤ b96 := Nat.le_trans Z93 (Nat.le_of_eq g96.symm)
    have sz_b96 : h0.size ≤ b96 := Nat.le_trans K94.1 (Nat.le_of_eq g96.symm)
    have bd_b96 : bd ≤ b96 := Nat.le_trans F87.bdle (Nat.le_of_eq g96.symm)
    have ne_ob_b96 : ob ≠ b96 := Nat.ne_of_lt (Nat.lt_of_lt_of_le F84.lt (Nat.le_of_eq g96.symm))
    have ne_tr_b96 : tr ≠ b96 := Nat.ne_of_lt (Nat.lt_of_lt_of_le F88.lt (Nat.le_of_eq g96.symm))
    have ne_b51_b96 : b51 ≠ b96 := Nat.ne_of_lt (Nat.lt_of_lt_of_le F92.lt (Nat.le_of_eq g96.symm))
    have ne_b27_b96 : b27 ≠ b96 := Nat.ne_of_lt (Nat.lt_of_lt_of_le F83.lt (Nat.le_of_eq g96.symm))
    have F97 : Fld Z hX96 ob "com/example/twigmeter/twigmeter/workload/Reach" "firstChild" "[I" .null := F84.ext E96
    have F98 : Fld Z hX96 ob "com/example/twigmeter/twigmeter/workload/Reach" "children" "[I" .null := F85.ext E96
    have F99 : Exa Z hX96 ob "com/example/twigmeter/twigmeter/workload/Reach" := F86.ext E96
    have F100 : own_tr Z hX96 tr lo bd S := F87.ext E96
    have F101 : Exa Z hX96 tr "com/example/twigmeter/twigmeter/xml/ElementTree" := F88.ext E96
    have F102 : Fld Z hX96 ob "com/example/twigmeter/twigmeter/workload/Reach" "tree" "Lcom/example/twigmeter/twigmeter/xml/ElementTree;" (.ref tr) := F89.ext E96
    have F103 : Fld Z hX96 ob "com/example/twigmeter/twigmeter/workload/Reach" "descendant" "Z" (.int (nar .boolean ds)) := F90.ext E96
    have F104 : Fld Z hX96 ob "com/example/twigmeter/twigmeter/workload/Reach" "parents" "[I" (.ref b27) := F91.ext E96
    have F105 : Exa Z hX96 b51 "com/example/twigmeter/twigmeter/xml/IntList" := F92.ext E96
    have F106 : own_ia Z hX96 b27 parF := F83.ext E96
    have Z107 : n0 ≤ hX96.size := Nat.le_trans Z93 E96.1
    have K108 : Keep h0 hX96 [ob] := K94.ext E96
    have F109 : own_ia Z hX96 b96 [(0 : Int32), (0 : Int32), (0 : Int32), (0 : Int32), (0 : Int32)] := own_ia.new A96 (by decide)
    obtain ⟨T110, hX110, X110, e110, W110, st110⟩ := putF X96 hx hZ hown (host := "") (Or.inl (hw _ (List.mem_of_getElem? (i := 191) rfl))) Via.refl e96 F97 F99 (Or.inr ⟨(hw _ (List.mem_of_getElem? (i := 192) rfl)), rfl, hnm⟩) (hw _ (List.mem_of_getElem? (i := 150) rfl)) (ty := (.array .int)) (by decide) rfl rfl (g := (mkF m 118 #[.val (.ref ob), .val (.ref tr), .val (.int ds), .val (.int (4 : Int32)), .val (.ref b51), .val (.int io_82), .unset, .unset] [(.ref b96), (.ref ob)])) rfl rfl (hb hby d22_118)
    have N110 := Fr.snoc X110 N82 g_ob
    have F111 : Fld Z hX110 ob "com/example/twigmeter/twigmeter/workload/Reach" "firstChild" "[I" (.ref b96) := F97.same W110
    have F112 : Fld Z hX110 ob "com/example/twigmeter/twigmeter/workload/Reach" "children" "[I" .null := F98.other W110 (Or.inr (slot_ne (Or.inr (hw _ (List.mem_of_getElem? (i := 194) rfl))) (Or.inr (hw _ (List.mem_of_getElem? (i := 192) rfl))) (by decide) (t := (.array .int)) (t' := (.array .int)) (by decide) (by decide)))
    have F113 : Exa Z hX110 ob "com/example/twigmeter/twigmeter/workload/Reach" := F99.wr W110
    have F114 : own_tr Z hX110 tr lo bd S := F100.keep (Keep.of_wr W110) (allS bd_ob all0)
    have F115 : Exa Z hX110 tr "com/example/twigmeter/twigmeter/xml/ElementTree" := F101.wr W110
    have F116 : Fld Z hX110 ob "com/example/twigmeter/twigmeter/workload/Reach" "tree" "Lcom/example/twigmeter/twigmeter/xml/ElementTree;" (.ref tr) := F102.other W110 (Or.inr (slot_ne (Or.inr (hw _ (List.mem_of_getElem? (i := 157) rfl))) (Or.inr (hw _ (List.mem_of_getElem? (i := 192) rfl))) (by decide) (t := (.object "com/example/twigmeter/twigmeter/xml/ElementTree")) (t' := (.array .int)) (by decide) (by decide)))
    have F117 : Fld Z hX110 ob "com/example/twigmeter/twigmeter/workload/Reach" "descendant" "Z" (.int (nar .boolean ds)) := F103.other W110 (Or.inr (slot_ne (Or.inr (hw _ (List.mem_of_getElem? (i := 159) rfl))) (Or.inr (hw _ (List.mem_of_getElem? (i := 192) rfl))) (by decide) (t := .boolean) (t' := (.array .int)) (by decide) (by decide)))
    have F118 : Fld Z hX110 ob "com/example/twigmeter/twigmeter/workload/Reach" "parents" "[I" (.ref b27) := F104.other W110 (Or.inr (slot_ne (Or.inr (hw _ (List.mem_of_getElem? (i := 166) rfl))) (Or.inr (hw _ (List.mem_of_getElem? (i := 192) rfl))) (by decide) (t := (.array .int)) (t' := (.array .int)) (by decide) (by decide)))
    have F119 : Exa Z hX110 b51 "com/example/twigmeter/twigmeter/xml/IntList" := F105.wr W110
    have F120 : own_ia Z hX110 b27 parF := F106.other W110 (Ne.symm ne_ob_b27)
    have F121 : own_ia Z hX110 b96 [(0 : Int32), (0 : Int32), (0 : Int32), (0 : Int32), (0 : Int32)] := F109.other W110 (Ne.symm ne_ob_b96)
    have Z122 : n0 ≤ hX110.size := Nat.le_trans Z107 (Keep.of_wr W110).1
    have K123 : Keep h0 hX110 [ob] := K108.wr W110 (Or.inl (List.mem_of_getElem? (i := 0) rfl))
    have hinv124 : own_C parF (5) (0 : Int32) [(0 : Int32), (0 : Int32), (0 : Int32), (0 : Int32), (0 : Int32)] = some F1 := (own_inv_22_124_s4 ds lo bd S parF F1 F2 CH hn hpA hpC hpD hp4 hp0 hpE hr15 io_82)
    obtain ⟨T124, hX124, lc124, io_124, xo_124, X124, e124, N124, K124q, F125, hpost124, st124⟩ := lp22_124 n0 (ob) (tr) (ds) (b51) (b27) (b96) (parF) (F1) hx hZ hw hby hml hown g_b96 ne_ob_b96 ne_b27_b96 (5) ((0 : Int32)) ([(0 : Int32), (0 : Int32), (0 : Int32), (0 : Int32), (0 : Int32)]) T110 hX110 _ hinv124 X110 e110 N110 Z122 F113 F118 F120 F111 F121
    have F126 : Fld Z hX124 ob "com/example/twigmeter/twigmeter/workload/Reach" "children" "[I" .null := F112.keep K124q (ninS ne_ob_b96 nin0)
    have F127 : Exa Z hX124 ob "com/example/twigmeter/twigmeter/workload/Reach" := F113.keep K124q
    have F128 : own_tr Z hX124 tr lo bd S := F114.keep K124q (allS bd_b96 all0)
    have F129 : Exa Z hX124 tr "com/example/twigmeter/twigmeter/xml/ElementTree" := F115.keep K124q
    have F130 : Fld Z hX124 ob "com/example/twigmeter/twigmeter/workload/Reach" "tree" "Lcom/example/twigmeter/twigmeter/xml/ElementTree;" (.ref tr) := F116.keep K124q (ninS ne_ob_b96 nin0)
    have F131 : Fld Z hX124 ob "com/example/twigmeter/twigmeter/workload/Reach" "descendant" "Z" (.int (nar .boolean ds)) := F117.keep K124q (ninS ne_ob_b96 nin0)
    have F132 : Fld Z hX124 ob "com/example/twigmeter/twigmeter/workload/Reach" "parents" "[I" (.ref b27) := F118.keep K124q (ninS ne_ob_b96 nin0)
    have F133 : Exa Z hX124 b51 "com/example/twigmeter/twigmeter/xml/IntList" := F119.keep K124q
    have F134 : own_ia Z hX124 b27 parF := F120.keep K124q (ninS ne_b27_b96 nin0)
    have F135 : Fld Z hX124 ob "com/example/twigmeter/twigmeter/workload/Reach" "firstChild" "[I" (.ref b96) := F111.keep K124q (ninS ne_ob_b96 nin0)
    have Z136 : n0 ≤ hX124.size := Nat.le_trans Z122 K124q.1
    have K137 : Keep h0 hX124 [ob] := K123.trans K124q (allS (Or.inr sz_b96) all0)
    have pre138 : ∀ tq, Steps p.tables e below (T124.setTop (mkF m 165 #[.val (.ref ob), .val (.ref tr), .val (.int ds), .val (.int (4 : Int32)), .val (.ref b51), .val (.int io_124), .unset, .unset] [])) tq → Steps p.tables e below (s₁.setTop (entryFrame m #[(.ref ob), (.ref tr), (.int ds)] 8)) tq := by
      intro tq kt
      refine pre95 _ ?_
      show Steps p.tables e below (T82.setTop (mkF m 112 #[.val (.ref ob), .val (.ref tr), .val (.int ds), .val (.int (4 : Int32)), .val (.ref b51), .val (.int io_82), .unset, .unset] [])) _
      refine XS.aloadN X82.here hx rfl (hb hby d22_112) rfl rfl ?_
      refine XS.iloadN X82.here hx rfl (hb hby d22_113) rfl ?_
      refine XS.iconst X82.here hx rfl (hb hby d22_114) ?_
      refine XS.iadd X82.here hx rfl (hb hby d22_115) rfl ?_
      refine st96 _ ?_
      show Steps p.tables e below (T96.setTop (mkF m 118 #[.val (.ref ob), .val (.ref tr), .val (.int ds), .val (.int (4 : Int32)), .val (.ref b51), .val (.int io_82), .unset, .unset] [(.ref b96), (.ref ob)])) _
      refine st110 _ ?_
      show Steps p.tables e below (T110.setTop (mkF m 121 #[.val (.ref ob), .val (.ref tr), .val (.int ds), .val (.int (4 : Int32)), .val (.ref b51), .val (.int io_82), .unset, .unset] [])) _
      refine XS.iconst X110.here hx rfl (hb hby d22_121) ?_
      refine XS.istore X110.here hx rfl (hb hby d22_122) rfl (l' := #[.val (.ref ob), .val (.ref tr), .val (.int ds), .val (.int (4 : Int32)), .val (.ref b51), .val (.int (0 : Int32)), .unset, .unset]) rfl ?_
      refine st124 _ ?_
      show Steps p.tables e below (T124.setTop (mkF m 165 #[.val (.ref ob), .val (.ref tr), .val (.int ds), .val (.int (4 : Int32)), .val (.ref b51), .val (.int io_124), .unset, .unset] [])) _
      exact kt
    obtain ⟨rfl⟩ := hpost124
    have hinv139 : own_D (5) (0 : Int32) F1 = some F2 := (own_inv_22_168_s4 ds lo bd S parF F1 F2 CH hn hpA hpC hpD hp4 hp0 hpE hr15 io_82 io_124)
    obtain ⟨T139, hX139, lc139, io_139, xo_139, X139, e139, N139, K139q, F140, hpost139, st139⟩ := lp22_168 n0 (ob) (tr) (ds) (b51) (b96) (F2) hx hZ hw hby hml hown g_b96 ne_ob_b96 (5) ((0 : Int32)) (F1) T124 hX124 _ hinv139 X124 e124 N124 Z136 F127 F135 F125
    have F141 : Fld Z hX139 ob "com/example/twigmeter/twigmeter/workload/Reach" "children" "[I" .null := F126.keep K139q (ninS ne_ob_b96 nin0)
    have F142 : Exa Z hX139 ob "com/example/twigmeter/twigmeter/workload/Reach" := F127.keep K139q
    have F143 : own_tr Z hX139 tr lo bd S := F128.keep K139q (allS bd_b96 all0)
    have F144 : Exa Z hX139 tr "com/example/twigmeter/twigmeter/xml/ElementTree" := F129.keep K139q
    have F145 : Fld Z hX139 ob "com/example/twigmeter/twigmeter/workload/Reach" "tree" "Lcom/example/twigmeter/twigmeter/xml/ElementTree;" (.ref tr) := F130.keep K139q (ninS ne_ob_b96 nin0)
    have F146 : Fld Z hX139 ob "com/example/twigmeter/twigmeter/workload/Reach" "descendant" "Z" (.int (nar .boolean ds)) := F131.keep K139q (ninS ne_ob_b96 nin0)
    have F147 : Fld Z hX139 ob "com/example/twigmeter/twigmeter/workload/Reach" "parents" "[I" (.ref b27) := F132.keep K139q (ninS ne_ob_b96 nin0)
    have F148 : Exa Z hX139 b51 "com/example/twigmeter/twigmeter/xml/IntList" := F133.keep K139q
    have F149 : own_ia Z hX139 b27 parF := F134.keep K139q (ninS ne_b27_b96 nin0)
    have F150 : Fld Z hX139 ob "com/example/twigmeter/twigmeter/workload/Reach" "firstChild" "[I" (.ref b96) := F135.keep K139q (ninS ne_ob_b96 nin0)
    have Z151 : n0 ≤ hX139.size := Nat.le_trans Z136 K139q.1
    have K152 : Keep h0 hX139 [ob] := K137.trans K139q (allS (Or.inr sz_b96) all0)
    have pre153 : ∀ tq, Steps p.tables e below (T139.setTop (mkF m 199 #[.val (.ref ob), .val (.ref tr), .val (.int ds), .val (.int (4 : Int32)), .val (.ref b51), .val (.int io_139), .unset, .unset] [])) tq → Steps p.tables e below (s₁.setTop (entryFrame m #[(.ref ob), (.ref tr), (.int ds)] 8)) tq := by
      intro tq kt
      refine pre138 _ ?_
      show Steps p.tables e below (T124.setTop (mkF m 165 #[.val (.ref ob), .val (.ref tr), .val (.int ds), .val (.int (4 : Int32)), .val (.ref b51), .val (.int io_124), .unset, .unset] [])) _
      refine XS.iconst X124.here hx rfl (hb hby d22_165) ?_
      refine XS.istore X124.here hx rfl (hb hby d22_166) rfl (l' := #[.val (.ref ob), .val (.ref tr), .val (.int ds), .val (.int (4 : Int32)), .val (.ref b51), .val (.int (0 : Int32)), .unset, .unset]) rfl ?_
      refine st139 _ ?_
      show Steps p.tables e below (T139.setTop (mkF m 199 #[.val (.ref ob), .val (.ref tr), .val (.int ds), .val (.int (4 : Int32)), .val (.ref b51), .val (.int io_139), .unset, .unset] [])) _
      exact kt
    obtain ⟨rfl⟩ := hpost139
    obtain ⟨T154, X154, e154, st154⟩ := getF X139 hx hZ hown (host := "") (Or.inl (hw _ (List.mem_of_getElem? (i := 191) rfl))) Via.refl e139 F150 (g := (mkF m 201 #[.val (.ref ob), .val (.ref tr), .val (.int ds), .val (.int (4 : Int32)), .val (.ref b51), .val (.int io_139), .unset, .unset] [(.ref ob), (.ref ob)])) rfl rfl (hb hby d22_201)
    obtain ⟨cl155, Ar155, hin155, hat155⟩ := F140.get (j := (4 : Int32)) (own_inx_22_205_s4 ds lo bd S parF F1 F2 CH hn hpA hpC hpD hp4 hp0 hpE hr15 io_82 io_124 io_139)
    have hneg156 : ¬ (own_rd F2 (4 : Int32)) < 0 := (own_neg_22_206_s4 ds lo bd S parF F1 F2 CH hn hpA hpC hpD hp4 hp0 hpE hr15 io_82 io_124 io_139)
    have hcap156 : ((own_rd F2 (4 : Int32))).toNatClampNeg ≤ 4 := (own_cap_22_206_s4 ds lo bd S parF F1 F2 CH hn hpA hpC hpD hp4 hp0 hpE hr15 io_82 io_124 io_139)
    obtain ⟨T156, hX156, kx156, X156, e156, E156, A156, st156⟩ := newP X154 hx hZ (hw _ (List.mem_of_getElem? (i := 0) rfl)) e154 (g := (mkF m 206 #[.val (.ref ob), .val (.ref tr), .val (.int ds), .val (.int (4 : Int32)), .val (.ref b51), .val (.int io_139), .unset, .unset] [(.int (own_rd F2 (4 : Int32))), (.ref ob)])) rfl (hb hby d22_206) rfl hneg156 (cap := 4) hcap156 (by decide) (by decide) (by decide)
    obtain ⟨b156, g156⟩ : ∃ z_q, z_q = hX139.size := ⟨_, rfl⟩
    rw [← g156] at A156 st156
    have g_b156 : n0 ≤ b156 := Nat.le_trans Z151 (Nat.le_of_eq g156.symm)
    have sz_b156 : h0.size ≤ b156 := Nat.le_trans K152.1 (Nat.le_of_eq g156.symm)
    have bd_b156 : bd ≤ b156 := Nat.le_trans F143.bdle (Nat.le_of_eq g156.symm)
    have ne_ob_b156 : ob ≠ b156 := Nat.ne_of_lt (Nat.lt_of_lt_of_le F141.lt (Nat.le_of_eq g156.symm))
    have ne_tr_b156 : tr ≠ b156 := Nat.ne_of_lt (Nat.lt_of_lt_of_le F144.lt (Nat.le_of_eq g156.symm))
    have ne_b51_b156 : b51 ≠ b156 := Nat.ne_of_lt (Nat.lt_of_lt_of_le F148.lt (Nat.le_of_eq g156.symm))
    have ne_b27_b156 : b27 ≠ b156 := Nat.ne_of_lt (Nat.lt_of_lt_of_le F149.lt (Nat.le_of_eq g156.symm))
    have ne_b96_b156 : b96 ≠ b156 := Nat.ne_of_lt (Nat.lt_of_lt_of_le F140.lt (Nat.le_of_eq g156.symm))
    have F157 : Fld Z hX156 ob "com/example/twigmeter/twigmeter/workload/Reach" "children" "[I" .null := F141.ext E156
    have F158 : Exa Z hX156 ob "com/example/twigmeter/twigmeter/workload/Reach" := F142.ext E156
    have F159 : own_tr Z hX156 tr lo bd S := F143.ext E156
    have F160 : Exa Z hX156 tr "com/example/twigmeter/twigmeter/xml/ElementTree" := F144.ext E156
    have F161 : Fld Z hX156 ob "com/example/twigmeter/twigmeter/workload/Reach" "tree" "Lcom/example/twigmeter/twigmeter/xml/ElementTree;" (.ref tr) := F145.ext E156
    have F162 : Fld Z hX156 ob "com/example/twigmeter/twigmeter/workload/Reach" "descendant" "Z" (.int (nar .boolean ds)) := F146.ext E156
    have F163 : Fld Z hX156 ob "com/example/twigmeter/twigmeter/workload/Reach" "parents" "[I" (.ref b27) := F147.ext E156
    have F164 : Exa Z hX156 b51 "com/example/twigmeter/twigmeter/xml/IntList" := F148.ext E156
    have F165 : own_ia Z hX156 b27 parF := F149.ext E156
    have F166 : Fld Z hX156 ob "com/example/twigmeter/twigmeter/workload/Reach" "firstChild" "[I" (.ref b96) := F150.ext E156
    have F167 : own_ia Z hX156 b96 F2 := F140.ext E156
    have Z168 : n0 ≤ hX156.size := Nat.le_trans Z151 E156.1
    have K169 : Keep h0 hX156 [ob] := K152.ext E156
    have F170 : own_ia Z hX156 b156 (own_zs (own_rd F2 (4 : Int32))) := own_ia.new A156 hneg156
    obtain ⟨T171, hX171, X171, e171, W171, st171⟩ := putF X156 hx hZ hown (host := "") (Or.inl (hw _ (List.mem_of_getElem? (i := 193) rfl))) Via.refl e156 F157 F158 (Or.inr ⟨(hw _ (List.mem_of_getElem? (i := 194) rfl)), rfl, hnm⟩) (hw _ (List.mem_of_getElem? (i := 150) rfl)) (ty := (.array .int)) (by decide) rfl rfl (g := (mkF m 208 #[.val (.ref ob), .val (.ref tr), .val (.int ds), .val (.int (4 : Int32)), .val (.ref b51), .val (.int io_139), .unset, .unset] [(.ref b156), (.ref ob)])) rfl rfl (hb hby d22_208)
    have N171 := Fr.snoc X171 N139 g_ob
    have F172 : Fld Z hX171 ob "com/example/twigmeter/twigmeter/workload/Reach" "children" "[I" (.ref b156) := F157.same W171
    have F173 : Exa Z hX171 ob "com/example/twigmeter/twigmeter/workload/Reach" := F158.wr W171
    have F174 : own_tr Z hX171 tr lo bd S := F159.keep (Keep.of_wr W171) (allS bd_ob all0)
    have F175 : Exa Z hX171 tr "com/example/twigmeter/twigmeter/xml/ElementTree" := F160.wr W171
    have F176 : Fld Z hX171 ob "com/example/twigmeter/twigmeter/workload/Reach" "tree" "Lcom/example/twigmeter/twigmeter/xml/ElementTree;" (.ref tr) := F161.other W171 (Or.inr (slot_ne (Or.inr (hw _ (List.mem_of_getElem? (i := 157) rfl))) (Or.inr (hw _ (List.mem_of_getElem? (i := 194) rfl))) (by decide) (t := (.object "com/example/twigmeter/twigmeter/xml/ElementTree")) (t' := (.array .int)) (by decide) (by decide)))
    have F177 : Fld Z hX171 ob "com/example/twigmeter/twigmeter/workload/Reach" "descendant" "Z" (.int (nar .boolean ds)) := F162.other W171 (Or.inr (slot_ne (Or.inr (hw _ (List.mem_of_getElem? (i := 159) rfl))) (Or.inr (hw _ (List.mem_of_getElem? (i := 194) rfl))) (by decide) (t := .boolean) (t' := (.array .int)) (by decide) (by decide)))
    have F178 : Fld Z hX171 ob "com/example/twigmeter/twigmeter/workload/Reach" "parents" "[I" (.ref b27) := F163.other W171 (Or.inr (slot_ne (Or.inr (hw _ (List.mem_of_getElem? (i := 166) rfl))) (Or.inr (hw _ (List.mem_of_getElem? (i := 194) rfl))) (by decide) (t := (.array .int)) (t' := (.array .int)) (by decide) (by decide)))
    have F179 : Exa Z hX171 b51 "com/example/twigmeter/twigmeter/xml/IntList" := F164.wr W171
    have F180 : own_ia Z hX171 b27 parF := F165.other W171 (Ne.symm ne_ob_b27)
    have F181 : Fld Z hX171 ob "com/example/twigmeter/twigmeter/workload/Reach" "firstChild" "[I" (.ref b96) := F166.other W171 (Or.inr (slot_ne (Or.inr (hw _ (List.mem_of_getElem? (i := 192) rfl))) (Or.inr (hw _ (List.mem_of_getElem? (i := 194) rfl))) (by decide) (t := (.array .int)) (t' := (.array .int)) (by decide) (by decide)))
    have F182 : own_ia Z hX171 b96 F2 := F167.other W171 (Ne.symm ne_ob_b96)
    have F183 : own_ia Z hX171 b156 (own_zs (own_rd F2 (4 : Int32))) := F170.other W171 (Ne.symm ne_ob_b156)
    have Z184 : n0 ≤ hX171.size := Nat.le_trans Z168 (Keep.of_wr W171).1
    have K185 : Keep h0 hX171 [ob] := K169.wr W171 (Or.inl (List.mem_of_getElem? (i := 0) rfl))
    obtain ⟨T186, hX186, kx186, X186, e186, E186, A186, st186⟩ := newP X171 hx hZ (hw _ (List.mem_of_getElem? (i := 0) rfl)) e171 (g := (mkF m 212 #[.val (.ref ob), .val (.ref tr), .val (.int ds), .val (.int (4 : Int32)), .val (.ref b51), .val (.int io_139), .unset, .unset] [(.int (4 : Int32))])) rfl (hb hby d22_212) rfl (by decide) (cap := 4) (by decide) (by decide) (by decide) (by decide)
    obtain ⟨b186, g186⟩ : ∃ z_q, z_q = hX171.size := ⟨_, rfl⟩
    rw [← g186] at A186 st186
    have g_b186 : n0 ≤ b186 := Nat.le_trans Z184 (Nat.le_of_eq g186.symm)
    have sz_b186 : h0.size ≤ b186 := Nat.le_trans K185.1 (Nat.le_of_eq g186.symm)
    have bd_b186 : bd ≤ b186 := Nat.le_trans F174.bdle (Nat.le_of_eq g186.symm)
    have ne_ob_b186 : ob ≠ b186 := Nat.ne_of_lt (Nat.lt_of_lt_of_le F173.lt (Nat.le_of_eq g186.symm))
    have ne_tr_b186 : tr ≠ b186 := Nat.ne_of_lt (Nat.lt_of_lt_of_le F175.lt (Nat.le_of_eq g186.symm))
    have ne_b51_b186 : b51 ≠ b186 := Nat.ne_of_lt (Nat.lt_of_lt_of_le F179.lt (Nat.le_of_eq g186.symm))
    have ne_b27_b186 : b27 ≠ b186 := Nat.ne_of_lt (Nat.lt_of_lt_of_le F180.lt (Nat.le_of_eq g186.symm))
    have ne_b96_b186 : b96 ≠ b186 := Nat.ne_of_lt (Nat.lt_of_lt_of_le F182.lt (Nat.le_of_eq g186.symm))
    have ne_b156_b186 : b156 ≠ b186 := Nat.ne_of_lt (Nat.lt_of_lt_of_le F183.lt (Nat.le_of_eq g186.symm))
    have F187 : Exa Z hX186 ob "com/example/twigmeter/twigmeter/workload/Reach" := F173.ext E186
    have F188 : own_tr Z hX186 tr lo bd S := F174.ext E186
    have F189 : Exa Z hX186 tr "com/example/twigmeter/twigmeter/xml/ElementTree" := F175.ext E186
    have F190 : Fld Z hX186 ob "com/example/twigmeter/twigmeter/workload/Reach" "tree" "Lcom/example/twigmeter/twigmeter/xml/ElementTree;" (.ref tr) := F176.ext E186
    have F191 : Fld Z hX186 ob "com/example/twigmeter/twigmeter/workload/Reach" "descendant" "Z" (.int (nar .boolean ds)) := F177.ext E186
    have F192 : Fld Z hX186 ob "com/example/twigmeter/twigmeter/workload/Reach" "parents" "[I" (.ref b27) := F178.ext E186
    have F193 : Exa Z hX186 b51 "com/example/twigmeter/twigmeter/xml/IntList" := F179.ext E186
    have F194 : own_ia Z hX186 b27 parF := F180.ext E186
    have F195 : Fld Z hX186 ob "com/example/twigmeter/twigmeter/workload/Reach" "firstChild" "[I" (.ref b96) := F181.ext E186
    have F196 : own_ia Z hX186 b96 F2 := F182.ext E186
    have F197 : own_ia Z hX186 b156 (own_zs (own_rd F2 (4 : Int32))) := F183.ext E186
    have F198 : Fld Z hX186 ob "com/example/twigmeter/twigmeter/workload/Reach" "children" "[I" (.ref b156) := F172.ext E186
    have Z199 : n0 ≤ hX186.size := Nat.le_trans Z184 E186.1
    have K200 : Keep h0 hX186 [ob] := K185.ext E186
    have F201 : own_ia Z hX186 b186 [(0 : Int32), (0 : Int32), (0 : Int32), (0 : Int32)] := own_ia.new A186 (by decide)
    obtain ⟨T202, X202, e202, st202⟩ := getF X186 hx hZ hown (host := "") (Or.inl (hw _ (List.mem_of_getElem? (i := 165) rfl))) Via.refl e186 F192 (g := (mkF m 226 #[.val (.ref ob), .val (.ref tr), .val (.int ds), .val (.int (4 : Int32)), .val (.ref b51), .val (.ref b186), .val (.int (0 : Int32)), .unset] [(.ref ob)])) rfl rfl (hb hby d22_226)
    obtain ⟨cl203, Ar203, hin203, hat203⟩ := F194.get (j := (0 : Int32)) (own_inx_22_231_s4 ds lo bd S parF F1 F2 CH hn hpA hpC hpD hp4 hp0 hpE hr15 io_82 io_124 io_139)
    obtain ⟨v232, hv232⟩ : ∃ z_q : Int32, z_q = (own_rd parF (0 : Int32)) := ⟨_, rfl⟩
    have pre204 : ∀ tq, Steps p.tables e below (T202.setTop (mkF m 237 #[.val (.ref ob), .val (.ref tr), .val (.int ds), .val (.int (4 : Int32)), .val (.ref b51), .val (.ref b186), .val (.int (0 : Int32)), .val (.int v232)] [(.int (-1 : Int32)), (.int v232)])) tq → Steps p.tables e below (s₁.setTop (entryFrame m #[(.ref ob), (.ref tr), (.int ds)] 8)) tq := by
      intro tq kt
      refine pre153 _ ?_
      show Steps p.tables e below (T139.setTop (mkF m 199 #[.val (.ref ob), .val (.ref tr), .val (.int ds), .val (.int (4 : Int32)), .val (.ref b51), .val (.int io_139), .unset, .unset] [])) _
      refine XS.aloadN X139.here hx rfl (hb hby d22_199) rfl rfl ?_
      refine XS.aloadN X139.here hx rfl (hb hby d22_200) rfl rfl ?_
      refine st154 _ ?_
      show Steps p.tables e below (T154.setTop (mkF m 204 #[.val (.ref ob), .val (.ref tr), .val (.int ds), .val (.int (4 : Int32)), .val (.ref b51), .val (.int io_139), .unset, .unset] [(.ref b96), (.ref ob)])) _
      refine XS.iloadN X154.here hx rfl (hb hby d22_204) rfl ?_
      refine X154.iaload hx (j := (4 : Int32)) (v := (.int (own_rd F2 (4 : Int32)))) (heq_of e154 Ar155.1) (State.isArrayOf_alike hZ.alike Ar155.2.1) Ar155.2.2 hin155 hat155 (g := (mkF m 205 #[.val (.ref ob), .val (.ref tr), .val (.int ds), .val (.int (4 : Int32)), .val (.ref b51), .val (.int io_139), .unset, .unset] [(.int (4 : Int32)), (.ref b96), (.ref ob)])) rfl rfl (hb hby d22_205) _ ?_
      show Steps p.tables e below (T154.setTop (mkF m 206 #[.val (.ref ob), .val (.ref tr), .val (.int ds), .val (.int (4 : Int32)), .val (.ref b51), .val (.int io_139), .unset, .unset] [(.int (own_rd F2 (4 : Int32))), (.ref ob)])) _
      refine st156 _ ?_
      show Steps p.tables e below (T156.setTop (mkF m 208 #[.val (.ref ob), .val (.ref tr), .val (.int ds), .val (.int (4 : Int32)), .val (.ref b51), .val (.int io_139), .unset, .unset] [(.ref b156), (.ref ob)])) _
      refine st171 _ ?_
      show Steps p.tables e below (T171.setTop (mkF m 211 #[.val (.ref ob), .val (.ref tr), .val (.int ds), .val (.int (4 : Int32)), .val (.ref b51), .val (.int io_139), .unset, .unset] [])) _
      refine XS.iloadN X171.here hx rfl (hb hby d22_211) rfl ?_
      refine st186 _ ?_
      show Steps p.tables e below (T186.setTop (mkF m 214 #[.val (.ref ob), .val (.ref tr), .val (.int ds), .val (.int (4 : Int32)), .val (.ref b51), .val (.int io_139), .unset, .unset] [(.ref b186)])) _
      refine XS.astore X186.here hx rfl (hb hby d22_214) rfl rfl (l' := #[.val (.ref ob), .val (.ref tr), .val (.int ds), .val (.int (4 : Int32)), .val (.ref b51), .val (.ref b186), .unset, .unset]) rfl ?_
      refine XS.iconst X186.here hx rfl (hb hby d22_216) ?_
      refine XS.istore X186.here hx rfl (hb hby d22_217) rfl (l' := #[.val (.ref ob), .val (.ref tr), .val (.int ds), .val (.int (4 : Int32)), .val (.ref b51), .val (.ref b186), .val (.int (0 : Int32)), .unset]) rfl ?_
      refine XS.iload X186.here hx rfl (hb hby d22_219) rfl ?_
      refine XS.iloadN X186.here hx rfl (hb hby d22_221) rfl ?_
      refine XS.icmpNo X186.here hx rfl (hb hby d22_222) rfl (tlt (by decide)).2.1 ?_
      show Steps p.tables e below (T186.setTop (mkF m 225 #[.val (.ref ob), .val (.ref tr), .val (.int ds), .val (.int (4 : Int32)), .val (.ref b51), .val (.ref b186), .val (.int (0 : Int32)), .unset] [])) _
      refine XS.aloadN X186.here hx rfl (hb hby d22_225) rfl rfl ?_
      refine st202 _ ?_
      show Steps p.tables e below (T202.setTop (mkF m 229 #[.val (.ref ob), .val (.ref tr), .val (.int ds), .val (.int (4 : Int32)), .val (.ref b51), .val (.ref b186), .val (.int (0 : Int32)), .unset] [(.ref b27)])) _
      refine XS.iload X202.here hx rfl (hb hby d22_229) rfl ?_
      refine X202.iaload hx (j := (0 : Int32)) (v := (.int (own_rd parF (0 : Int32)))) (heq_of e202 Ar203.1) (State.isArrayOf_alike hZ.alike Ar203.2.1) Ar203.2.2 hin203 hat203 (g := (mkF m 231 #[.val (.ref ob), .val (.ref tr), .val (.int ds), .val (.int (4 : Int32)), .val (.ref b51), .val (.ref b186), .val (.int (0 : Int32)), .unset] [(.int (0 : Int32)), (.ref b27)])) rfl rfl (hb hby d22_231) _ ?_
      show Steps p.tables e below (T202.setTop (mkF m 232 #[.val (.ref ob), .val (.ref tr), .val (.int ds), .val (.int (4 : Int32)), .val (.ref b51), .val (.ref b186), .val (.int (0 : Int32)), .unset] [(.int (own_rd parF (0 : Int32)))])) _
      refine XS.istore X202.here hx rfl (hb hby d22_232) rfl (l' := #[.val (.ref ob), .val (.ref tr), .val (.int ds), .val (.int (4 : Int32)), .val (.ref b51), .val (.ref b186), .val (.int (0 : Int32)), .val (.int v232)]) (by rw [hv232]; rfl) ?_
      refine XS.iload X202.here hx rfl (hb hby d22_234) rfl ?_
      refine XS.iconst X202.here hx rfl (hb hby d22_236) ?_
      show Steps p.tables e below (T202.setTop (mkF m 237 #[.val (.ref ob), .val (.ref tr), .val (.int ds), .val (.int (4 : Int32)), .val (.ref b51), .val (.ref b186), .val (.int (0 : Int32)), .val (.int v232)] [(.int (-1 : Int32)), (.int v232)])) _
      exact kt
    by_cases hc237_205 : v232 = (-1 : Int32)
    · skip
      have hinv206 : own_E parF F2 (4) (1 : Int32) (own_zs (own_rd F2 (4 : Int32))) [(0 : Int32), (0 : Int32), (0 : Int32), (0 : Int32)] = some CH := (own_inv_22_219_s4t ds lo bd S parF F1 F2 CH hn hpA hpC hpD hp4 hp0 hpE hr15 io_82 io_124 io_139 v232 hv232 hc237_205)
      obtain ⟨T206, hX206, lc206, io_206, qo_206, co_206, X206, e206, N206, K206q, F207, hpost206, st206⟩ := lp22_219 n0 (ob) (tr) (ds) (b51) (b186) (b27) (b96) (b156) (parF) (F2) (CH) hx hZ hw hby hml hown g_b156 g_b186 ne_ob_b156 ne_ob_b186 ne_b27_b156 ne_b27_b186 ne_b96_b156 ne_b96_b186 ne_b156_b186 (4) ((1 : Int32)) (v232) ((own_zs (own_rd F2 (4 : Int32)))) ([(0 : Int32), (0 : Int32), (0 : Int32), (0 : Int32)]) T202 hX186 _ hinv206 X202 e202 N171 Z199 F187 F192 F194 F195 F196 F198 F197 F201
      have F208 : Exa Z hX206 ob "com/example/twigmeter/twigmeter/workload/Reach" := F187.keep K206q
      have F209 : own_tr Z hX206 tr lo bd S := F188.keep K206q (allS bd_b156 (allS bd_b186 all0))
      have F210 : Exa Z hX206 tr "com/example/twigmeter/twigmeter/xml/ElementTree" := F189.keep K206q
      have F211 : Fld Z hX206 ob "com/example/twigmeter/twigmeter/workload/Reach" "tree" "Lcom/example/twigmeter/twigmeter/xml/ElementTree;" (.ref tr) := F190.keep K206q (ninS ne_ob_b156 (ninS ne_ob_b186 nin0))
      have F212 : Fld Z hX206 ob "com/example/twigmeter/twigmeter/workload/Reach" "descendant" "Z" (.int (nar .boolean ds)) := F191.keep K206q (ninS ne_ob_b156 (ninS ne_ob_b186 nin0))
      have F213 : Fld Z hX206 ob "com/example/twigmeter/twigmeter/workload/Reach" "parents" "[I" (.ref b27) := F192.keep K206q (ninS ne_ob_b156 (ninS ne_ob_b186 nin0))
      have F214 : Exa Z hX206 b51 "com/example/twigmeter/twigmeter/xml/IntList" := F193.keep K206q
      have F215 : own_ia Z hX206 b27 parF := F194.keep K206q (ninS ne_b27_b156 (ninS ne_b27_b186 nin0))
      have F216 : Fld Z hX206 ob "com/example/twigmeter/twigmeter/workload/Reach" "firstChild" "[I" (.ref b96) := F195.keep K206q (ninS ne_ob_b156 (ninS ne_ob_b186 nin0))
      have F217 : own_ia Z hX206 b96 F2 := F196.keep K206q (ninS ne_b96_b156 (ninS ne_b96_b186 nin0))
      have F218 : Fld Z hX206 ob "com/example/twigmeter/twigmeter/workload/Reach" "children" "[I" (.ref b156) := F198.keep K206q (ninS ne_ob_b156 (ninS ne_ob_b186 nin0))
      have Z219 : n0 ≤ hX206.size := Nat.le_trans Z199 K206q.1
      have K220 : Keep h0 hX206 [ob] := K200.trans K206q (allS (Or.inr sz_b156) (allS (Or.inr sz_b186) all0))
      have pre221 : ∀ tq, Steps p.tables e below (T206.setTop (mkF m 275 #[.val (.ref ob), .val (.ref tr), .val (.int ds), .val (.int (4 : Int32)), .val (.ref b51), .val (.ref b186), .val (.int io_206), .val (.int qo_206)] [])) tq → Steps p.tables e below (s₁.setTop (entryFrame m #[(.ref ob), (.ref tr), (.int ds)] 8)) tq := by
        intro tq kt
        refine pre204 _ ?_
        show Steps p.tables e below (T202.setTop (mkF m 237 #[.val (.ref ob), .val (.ref tr), .val (.int ds), .val (.int (4 : Int32)), .val (.ref b51), .val (.ref b186), .val (.int (0 : Int32)), .val (.int v232)] [(.int (-1 : Int32)), (.int v232)])) _
        refine XS.icmpYes X202.here hx rfl (pc0 := 237) (pc' := 269) rfl (hb hby d22_237) rfl (teq hc237_205).1 (by decide) (by decide) ?_
        refine XS.iinc X202.here hx rfl (hb hby d22_269) rfl (l' := #[.val (.ref ob), .val (.ref tr), .val (.int ds), .val (.int (4 : Int32)), .val (.ref b51), .val (.ref b186), .val (.int (1 : Int32)), .val (.int v232)]) rfl ?_
        refine XS.goto X202.here hx rfl (pc0 := 272) (pc' := 219) rfl (hb hby d22_272) (by decide) (by decide) ?_
        refine st206 _ ?_
        show Steps p.tables e below (T206.setTop (mkF m 275 #[.val (.ref ob), .val (.ref tr), .val (.int ds), .val (.int (4 : Int32)), .val (.ref b51), .val (.ref b186), .val (.int io_206), .val (.int qo_206)] [])) _
        exact kt
      obtain ⟨rfl⟩ := hpost206
      obtain ⟨fs, hr, hrun, hended, hW, hsame⟩ := X206.leave (v := none) (fun _ => rfl)
      refine ⟨_, _, pre221 _ ?_, hrun, hended, _, _, rfl, ?_, ⟨_, rfl⟩, hW, hsame.mono (by decide) (by decide)⟩
      · skip
        show Steps p.tables e below (T206.setTop (mkF m 275 #[.val (.ref ob), .val (.ref tr), .val (.int ds), .val (.int (4 : Int32)), .val (.ref b51), .val (.ref b186), .val (.int io_206), .val (.int qo_206)] [])) _
        exact X206.returnOut hx Bd.returns (hb hby d22_275) hr
      · show Q22 Z ob tr ds lo bd S parF F1 F2 CH h0 n0 _ T206.heap _
        rw [e206]
        exact ⟨b96, b156, rfl, N206, K220, g_b96, sz_b96, g_b156, sz_b156, F208, F212, F216, F218, F217, F207⟩
    · skip
      exact (own_dead_22_237_s4f ds lo bd S parF F1 F2 CH hn hpA hpC hpD hp4 hp0 hpE hr15 io_82 io_124 io_139 v232 hv232 hc237_205).elim
theorem d28_0 : decode prog_53_method_4_code 0 = .ok (.aload_n 0, 1) := by decide +kernel
theorem d28_1 : decode prog_53_method_4_code 1 = .ok (.getfield 13, 3) := by decide +kernel
theorem d28_4 : decode prog_53_method_4_code 4 = .ok (.ifCond .eq 12, 3) := by decide +kernel
theorem d28_7 : decode prog_53_method_4_code 7 = .ok (.iload_n 1, 1) := by decide +kernel
theorem d28_8 : decode prog_53_method_4_code 8 = .ok (.iconst 1, 1) := by decide +kernel
theorem d28_9 : decode prog_53_method_4_code 9 = .ok (.iadd, 1) := by decide +kernel
theorem d28_10 : decode prog_53_method_4_code 10 = .ok (.iload_n 2, 1) := by decide +kernel
theorem d28_11 : decode prog_53_method_4_code 11 = .ok (.iadd, 1) := by decide +kernel
theorem d28_12 : decode prog_53_method_4_code 12 = .ok (.istore_n 3, 1) := by decide +kernel
theorem d28_13 : decode prog_53_method_4_code 13 = .ok (.goto 17, 3) := by decide +kernel
theorem d28_16 : decode prog_53_method_4_code 16 = .ok (.aload_n 0, 1) := by decide +kernel
theorem d28_17 : decode prog_53_method_4_code 17 = .ok (.getfield 51, 3) := by decide +kernel
theorem d28_20 : decode prog_53_method_4_code 20 = .ok (.aload_n 0, 1) := by decide +kernel
theorem d28_21 : decode prog_53_method_4_code 21 = .ok (.getfield 48, 3) := by decide +kernel
theorem d28_24 : decode prog_53_method_4_code 24 = .ok (.iload_n 1, 1) := by decide +kernel
theorem d28_25 : decode prog_53_method_4_code 25 = .ok (.iaload, 1) := by decide +kernel
theorem d28_26 : decode prog_53_method_4_code 26 = .ok (.iload_n 2, 1) := by decide +kernel
theorem d28_27 : decode prog_53_method_4_code 27 = .ok (.iadd, 1) := by decide +kernel
theorem d28_28 : decode prog_53_method_4_code 28 = .ok (.iaload, 1) := by decide +kernel
theorem d28_29 : decode prog_53_method_4_code 29 = .ok (.istore_n 3, 1) := by decide +kernel
theorem d28_30 : decode prog_53_method_4_code 30 = .ok (.iload_n 3, 1) := by decide +kernel
theorem d28_31 : decode prog_53_method_4_code 31 = .ok (.ireturn, 1) := by decide +kernel
theorem pn_28 : plainName "com/example/twigmeter/twigmeter/workload/Reach" = true := by first | (simp [plainName, overriddenIn]; done) | decide +kernel
theorem ef_28 (m : MethodId) (x0 : Addr) (x1 : Int32) (x2 : Int32) : entryFrame m #[(.ref x0), (.int x1), (.int x2)] 4 = mkF m 0 #[.val (.ref x0), .val (.int x1), .val (.int x2), .unset] [] := by first | (simp [entryFrame, mkF, argsToLocals, Value.category]; done) | rfl
theorem own_inx_28_25_t (el : Int32) (pl : Int32) (dz : Int32) (F2 : List Int32) (CH : List Int32) (hbl : dz = (0 : Int32) → own_inx F2 el = true ∧ own_inx CH (own_rd F2 el + pl) = true) (hc4_3 : dz = (0 : Int32)) : own_inx F2 el = true := (hbl hc4_3).1
theorem own_inx_28_28_t (el : Int32) (pl : Int32) (dz : Int32) (F2 : List Int32) (CH : List Int32) (hbl : dz = (0 : Int32) → own_inx F2 el = true ∧ own_inx CH (own_rd F2 el + pl) = true) (hc4_3 : dz = (0 : Int32)) : own_inx CH ((own_rd F2 el) + pl) = true := (hbl hc4_3).2
theorem own_leaf_28_31_t (el : Int32) (pl : Int32) (dz : Int32) (F2 : List Int32) (CH : List Int32) (hbl : dz = (0 : Int32) → own_inx F2 el = true ∧ own_inx CH (own_rd F2 el + pl) = true) (hc4_3 : dz = (0 : Int32)) (v29 : Int32) (hv29 : v29 = (own_rd CH ((own_rd F2 el) + pl))) : v29 = (own_bel dz F2 CH el pl) := by rw [hv29, own_bel, if_pos hc4_3]
theorem own_leaf_28_31_f (el : Int32) (pl : Int32) (dz : Int32) (F2 : List Int32) (CH : List Int32) (hbl : dz = (0 : Int32) → own_inx F2 el = true ∧ own_inx CH (own_rd F2 el + pl) = true) (hc4_3 : ¬ (dz = (0 : Int32))) (v12 : Int32) (hv12 : v12 = ((el + (1 : Int32)) + pl)) : v12 = (own_bel dz F2 CH el pl) := by rw [hv12, own_bel, if_neg hc4_3]
def Q28 (Z : State) (ob : Addr) (el : Int32) (pl : Int32) (dz : Int32) (fr : Addr) (cr : Addr) (F2 : List Int32) (CH : List Int32) (h0 : Heap) (n0 : Nat) (v : Option Value) (h : Heap) (L : List Loc) : Prop := v = some (.int (own_bel dz F2 CH el pl)) ∧ Fr n0 L ∧ h = h0
set_option maxRecDepth 65536 in
set_option maxHeartbeats 40000000 in
theorem rm28 (l : Launch) (Z : State) (a0 : Array Value) (hw : ∀ d ∈ tables_1, d.before a0 Z = true) (ws : List Jvm.Cond) (ob : Addr) (el : Int32) (pl : Int32) (dz : Int32) (fr : Addr) (cr : Addr) (F2 : List Int32) (CH : List Int32) (h0 : Heap) (n0 : Nat) (Z0 : n0 ≤ h0.size) (I0 : Fld Z h0 ob "com/example/twigmeter/twigmeter/workload/Reach" "descendant" "Z" (.int dz)) (I1 : Fld Z h0 ob "com/example/twigmeter/twigmeter/workload/Reach" "firstChild" "[I" (.ref fr)) (I2 : Fld Z h0 ob "com/example/twigmeter/twigmeter/workload/Reach" "children" "[I" (.ref cr)) (I3 : own_ia Z h0 fr F2) (I4 : own_ia Z h0 cr CH) (hbl : dz = (0 : Int32) → own_inx F2 el = true ∧ own_inx CH (own_rd F2 el + pl) = true) :
    MetFree l (⟨"com/example/twigmeter/twigmeter/workload/Reach", "below", "(II)I"⟩ : MethodName) (head1 (Jvm.Cond.code (⟨"com/example/twigmeter/twigmeter/workload/Reach", "below", "(II)I"⟩ : MethodName) prog_53_method_4_code 4 (some .int) :: ws) ({ frames := 0, cells := 0, slots := 0, locals := 0 } : Room)) (fun a U => a = #[(.ref ob), (.int el), (.int pl)] ∧ Z.Warmed39 U.vm ∧ U.heap = h0) (fun _ _ _ _ _ => True) (fun _ U o U' => ∃ v L, o = .returned v ∧ Q28 Z ob el pl dz fr cr F2 CH h0 n0 v U'.heap L ∧ FrameEnd U o U' L ({ frames := 0, cells := 0, slots := 0, locals := 0 } : Room).cells ({ frames := 0, cells := 0, slots := 0, locals := 0 } : Room).slots) := by
  refine MetFree.of_bodySF (plainFor_of_name pn_28) hisR ?_
  intro p e s m args below meth c s₁ Bd hml0 hP hK
  obtain ⟨rfl, hZ, hh⟩ := hP
  have hx := Bd.exec
  have hby := Bd.bytes
  have hml : c.maxLocals = 4 := hml0
  have hown : s.vm.findClass "com/example/twigmeter/twigmeter/workload/Reach" = some m.cls := findClass_of_methodNamed Bd.named
  have hnm := (name_of_methodNamed Bd.named Bd.method).1
  have X0 : Stand p l e ({ frames := 0, cells := 0, slots := 0, locals := 0 } : Room) s m #[(.ref ob), (.int el), (.int pl)] below meth c s₁ [] 0 0 := Stand.of_body Bd
  have e0 : s₁.heap = h0 := by rw [← hh, Bd.state]; rfl
  have N0 := Fr.nil n0
  have K0 : Keep h0 h0 [] := Keep.refl h0 _
  have pre0 : ∀ tq, Steps p.tables e below (s₁.setTop (mkF m 0 #[.val (.ref ob), .val (.int el), .val (.int pl), .unset] [])) tq → Steps p.tables e below (s₁.setTop (entryFrame m #[(.ref ob), (.int el), (.int pl)] 4)) tq := fun tq kq => castTop (ef_28 m ob el pl) kq
  obtain ⟨T1, X1, e1, st1⟩ := getF X0 hx hZ hown (host := "") (Or.inl (hw _ (List.mem_of_getElem? (i := 158) rfl))) Via.refl e0 I0 (g := (mkF m 1 #[.val (.ref ob), .val (.int el), .val (.int pl), .unset] [(.ref ob)])) rfl rfl (hb hby d28_1)
  have pre2 : ∀ tq, Steps p.tables e below (T1.setTop (mkF m 4 #[.val (.ref ob), .val (.int el), .val (.int pl), .unset] [(.int dz)])) tq → Steps p.tables e below (s₁.setTop (entryFrame m #[(.ref ob), (.int el), (.int pl)] 4)) tq := by
    intro tq kt
    refine pre0 _ ?_
    show Steps p.tables e below (s₁.setTop (mkF m 0 #[.val (.ref ob), .val (.int el), .val (.int pl), .unset] [])) _
    refine XS.aloadN X0.here hx rfl (hb hby d28_0) rfl rfl ?_
    refine st1 _ ?_
    show Steps p.tables e below (T1.setTop (mkF m 4 #[.val (.ref ob), .val (.int el), .val (.int pl), .unset] [(.int dz)])) _
    exact kt
  by_cases hc4_3 : dz = (0 : Int32)
  · skip
    obtain ⟨T4, X4, e4, st4⟩ := getF X1 hx hZ hown (host := "") (Or.inl (hw _ (List.mem_of_getElem? (i := 193) rfl))) Via.refl e1 I2 (g := (mkF m 17 #[.val (.ref ob), .val (.int el), .val (.int pl), .unset] [(.ref ob)])) rfl rfl (hb hby d28_17)
    obtain ⟨T5, X5, e5, st5⟩ := getF X4 hx hZ hown (host := "") (Or.inl (hw _ (List.mem_of_getElem? (i := 191) rfl))) Via.refl e4 I1 (g := (mkF m 21 #[.val (.ref ob), .val (.int el), .val (.int pl), .unset] [(.ref ob), (.ref cr)])) rfl rfl (hb hby d28_21)
    obtain ⟨cl6, Ar6, hin6, hat6⟩ := I3.get (j := el) (own_inx_28_25_t el pl dz F2 CH hbl hc4_3)
    obtain ⟨cl7, Ar7, hin7, hat7⟩ := I4.get (j := ((own_rd F2 el) + pl)) (own_inx_28_28_t el pl dz F2 CH hbl hc4_3)
    obtain ⟨v29, hv29⟩ : ∃ z_q : Int32, z_q = (own_rd CH ((own_rd F2 el) + pl)) := ⟨_, rfl⟩
    obtain ⟨fs, hr, hrun, hended, hW, hsame⟩ := X5.leave (v := some (Value.int v29)) (fun h => by rw [Bd.returns] at h; cases h)
    have hres8 : v29 = (own_bel dz F2 CH el pl) := (own_leaf_28_31_t el pl dz F2 CH hbl hc4_3 v29 hv29)
    refine ⟨_, _, pre2 _ ?_, hrun, hended, _, _, rfl, ?_, ⟨_, rfl⟩, hW, hsame.mono (by decide) (by decide)⟩
    · skip
      show Steps p.tables e below (T1.setTop (mkF m 4 #[.val (.ref ob), .val (.int el), .val (.int pl), .unset] [(.int dz)])) _
      refine XS.ifYes X1.here hx rfl (pc0 := 4) (pc' := 16) rfl (hb hby d28_4) rfl ((if0 _ _).trans (teq hc4_3).1) (by decide) (by decide) ?_
      refine XS.aloadN X1.here hx rfl (hb hby d28_16) rfl rfl ?_
      refine st4 _ ?_
      show Steps p.tables e below (T4.setTop (mkF m 20 #[.val (.ref ob), .val (.int el), .val (.int pl), .unset] [(.ref cr)])) _
      refine XS.aloadN X4.here hx rfl (hb hby d28_20) rfl rfl ?_
      refine st5 _ ?_
      show Steps p.tables e below (T5.setTop (mkF m 24 #[.val (.ref ob), .val (.int el), .val (.int pl), .unset] [(.ref fr), (.ref cr)])) _
      refine XS.iloadN X5.here hx rfl (hb hby d28_24) rfl ?_
      refine X5.iaload hx (j := el) (v := (.int (own_rd F2 el))) (heq_of e5 Ar6.1) (State.isArrayOf_alike hZ.alike Ar6.2.1) Ar6.2.2 hin6 hat6 (g := (mkF m 25 #[.val (.ref ob), .val (.int el), .val (.int pl), .unset] [(.int el), (.ref fr), (.ref cr)])) rfl rfl (hb hby d28_25) _ ?_
      show Steps p.tables e below (T5.setTop (mkF m 26 #[.val (.ref ob), .val (.int el), .val (.int pl), .unset] [(.int (own_rd F2 el)), (.ref cr)])) _
      refine XS.iloadN X5.here hx rfl (hb hby d28_26) rfl ?_
      refine XS.iadd X5.here hx rfl (hb hby d28_27) rfl ?_
      refine X5.iaload hx (j := ((own_rd F2 el) + pl)) (v := (.int (own_rd CH ((own_rd F2 el) + pl)))) (heq_of e5 Ar7.1) (State.isArrayOf_alike hZ.alike Ar7.2.1) Ar7.2.2 hin7 hat7 (g := (mkF m 28 #[.val (.ref ob), .val (.int el), .val (.int pl), .unset] [(.int ((own_rd F2 el) + pl)), (.ref cr)])) rfl rfl (hb hby d28_28) _ ?_
      show Steps p.tables e below (T5.setTop (mkF m 29 #[.val (.ref ob), .val (.int el), .val (.int pl), .unset] [(.int (own_rd CH ((own_rd F2 el) + pl)))])) _
      refine XS.istoreN X5.here hx rfl (hb hby d28_29) rfl (l' := #[.val (.ref ob), .val (.int el), .val (.int pl), .val (.int v29)]) (by rw [hv29]; rfl) ?_
      refine XS.iloadN X5.here hx rfl (hb hby d28_30) rfl ?_
      show Steps p.tables e below (T5.setTop (mkF m 31 #[.val (.ref ob), .val (.int el), .val (.int pl), .val (.int v29)] [(.int v29)])) _
      exact retI X5 hx Bd.returns (hb hby d28_31) hr
    · show Q28 Z ob el pl dz fr cr F2 CH h0 n0 _ T5.heap _
      rw [e5]
      exact ⟨congrArg (fun z => some (Value.int z)) hres8, N0, rfl⟩
  · skip
    obtain ⟨v12, hv12⟩ : ∃ z_q : Int32, z_q = ((el + (1 : Int32)) + pl) := ⟨_, rfl⟩
    obtain ⟨fs, hr, hrun, hended, hW, hsame⟩ := X1.leave (v := some (Value.int v12)) (fun h => by rw [Bd.returns] at h; cases h)
    have hres9 : v12 = (own_bel dz F2 CH el pl) := (own_leaf_28_31_f el pl dz F2 CH hbl hc4_3 v12 hv12)
    refine ⟨_, _, pre2 _ ?_, hrun, hended, _, _, rfl, ?_, ⟨_, rfl⟩, hW, hsame.mono (by decide) (by decide)⟩
    · skip
      show Steps p.tables e below (T1.setTop (mkF m 4 #[.val (.ref ob), .val (.int el), .val (.int pl), .unset] [(.int dz)])) _
      refine XS.ifNo X1.here hx rfl (hb hby d28_4) rfl ((if0 _ _).trans (feq hc4_3).1) ?_
      refine XS.iloadN X1.here hx rfl (hb hby d28_7) rfl ?_
      refine XS.iconst X1.here hx rfl (hb hby d28_8) ?_
      refine XS.iadd X1.here hx rfl (hb hby d28_9) rfl ?_
      refine XS.iloadN X1.here hx rfl (hb hby d28_10) rfl ?_
      refine XS.iadd X1.here hx rfl (hb hby d28_11) rfl ?_
      show Steps p.tables e below (T1.setTop (mkF m 12 #[.val (.ref ob), .val (.int el), .val (.int pl), .unset] [(.int ((el + (1 : Int32)) + pl))])) _
      refine XS.istoreN X1.here hx rfl (hb hby d28_12) rfl (l' := #[.val (.ref ob), .val (.int el), .val (.int pl), .val (.int v12)]) (by rw [hv12]; rfl) ?_
      refine XS.goto X1.here hx rfl (pc0 := 13) (pc' := 30) rfl (hb hby d28_13) (by decide) (by decide) ?_
      refine XS.iloadN X1.here hx rfl (hb hby d28_30) rfl ?_
      show Steps p.tables e below (T1.setTop (mkF m 31 #[.val (.ref ob), .val (.int el), .val (.int pl), .val (.int v12)] [(.int v12)])) _
      exact retI X1 hx Bd.returns (hb hby d28_31) hr
    · show Q28 Z ob el pl dz fr cr F2 CH h0 n0 _ T1.heap _
      rw [e1]
      exact ⟨congrArg (fun z => some (Value.int z)) hres9, N0, rfl⟩

def own_m (x : Int32) : Int32 := if nar .boolean x = (0 : Int32) then (0 : Int32) else (1 : Int32)
def own_cnt (xs : List Int32) (ds e : Int32) : Int32 := own_m (own_wn xs ds e 0) + own_m (own_wn xs ds e 1) + own_m (own_wn xs ds e 2) + own_m (own_wn xs ds e 3)
def own_ck1 (xs F2 CH : List Int32) (ds e pl : Int32) : Bool := !decide (pl < own_cnt xs ds e) || (decide (own_bel (nar .boolean ds) F2 CH e pl = own_f3 pl (nar .boolean (own_wn xs ds e 0)) (nar .boolean (own_wn xs ds e 1)) (nar .boolean (own_wn xs ds e 2)) (nar .boolean (own_wn xs ds e 3))) && (!decide (nar .boolean ds = (0 : Int32)) || (own_inx F2 e && own_inx CH (own_rd F2 e + pl))))
def own_ck2 (xs F2 CH : List Int32) (ds e : Int32) : Bool := decide ((0 : Int32) ≤ own_cnt xs ds e) && decide (own_cnt xs ds e ≤ (4 : Int32)) && own_ck1 xs F2 CH ds e 0 && own_ck1 xs F2 CH ds e 1 && own_ck1 xs F2 CH ds e 2 && own_ck1 xs F2 CH ds e 3
def own_ck (xs F2 CH : List Int32) : Bool := own_ck2 xs F2 CH 0 0 && own_ck2 xs F2 CH 0 1 && own_ck2 xs F2 CH 0 2 && own_ck2 xs F2 CH 0 3 && own_ck2 xs F2 CH 1 0 && own_ck2 xs F2 CH 1 1 && own_ck2 xs F2 CH 1 2 && own_ck2 xs F2 CH 1 3
theorem own_lt4 {x : Int32} (h : 0 ≤ x.toInt ∧ x.toInt < 4) : x = (0 : Int32) ∨ x = (1 : Int32) ∨ x = (2 : Int32) ∨ x = (3 : Int32) := by
  have q : x.toInt = 0 ∨ x.toInt = 1 ∨ x.toInt = 2 ∨ x.toInt = 3 := by omega
  rcases q with q | q | q | q
  · exact Or.inl (Int32.toInt_inj.1 q)
  · exact Or.inr (Or.inl (Int32.toInt_inj.1 q))
  · exact Or.inr (Or.inr (Or.inl (Int32.toInt_inj.1 q)))
  · exact Or.inr (Or.inr (Or.inr (Int32.toInt_inj.1 q)))
theorem own_e4 {x z : Int32} (h : x = ((z &&& (2147483647 : Int32)) % (4 : Int32))) : x = (0 : Int32) ∨ x = (1 : Int32) ∨ x = (2 : Int32) ∨ x = (3 : Int32) := by
  rw [h]; exact own_lt4 (own_rem _ (4 : Int32) (own_mask31 z).1 (by decide))
theorem own_and3 (z : Int32) : 0 ≤ (z &&& (3 : Int32)).toInt ∧ (z &&& (3 : Int32)).toInt < 4 := by
  have h : (z &&& (3 : Int32)).toBitVec = z.toBitVec &&& 3#32 := rfl
  have e : (z &&& (3 : Int32)).toInt = (z.toBitVec &&& 3#32).toInt := by rw [← h]; rfl
  have hm : (z.toBitVec &&& 3#32).toNat ≤ 3 := by rw [BitVec.toNat_and]; exact Nat.and_le_right
  rw [e, BitVec.toInt_eq_toNat_of_lt (by omega)]
  omega
theorem own_and1 (z : Int32) : (z &&& (1 : Int32)) = (0 : Int32) ∨ (z &&& (1 : Int32)) = (1 : Int32) := by
  have h : (z &&& (1 : Int32)).toBitVec = z.toBitVec &&& 1#32 := rfl
  have e : (z &&& (1 : Int32)).toInt = (z.toBitVec &&& 1#32).toInt := by rw [← h]; rfl
  have hm : (z.toBitVec &&& 1#32).toNat ≤ 1 := by rw [BitVec.toNat_and]; exact Nat.and_le_right
  rw [BitVec.toInt_eq_toNat_of_lt (by omega)] at e
  have q : (z &&& (1 : Int32)).toInt = 0 ∨ (z &&& (1 : Int32)).toInt = 1 := by omega
  exact q.elim (fun q => Or.inl (Int32.toInt_inj.1 q)) (fun q => Or.inr (Int32.toInt_inj.1 q))
theorem own_d2 {x z : Int32} (h : x = ((z &&& (3 : Int32)) % (2 : Int32))) : x = (0 : Int32) ∨ x = (1 : Int32) := by
  rcases own_lt4 (own_and3 z) with q | q | q | q <;> rw [q] at h <;> rw [h] <;> decide
theorem own_d3 {x z : Int32} (h : x = ((z &&& (3 : Int32)) % (3 : Int32))) : x = (0 : Int32) ∨ x = (1 : Int32) ∨ x = (2 : Int32) := by
  rcases own_lt4 (own_and3 z) with q | q | q | q <;> rw [q] at h <;> rw [h] <;> decide
theorem own_d4 {x z : Int32} (h : x = ((z &&& (3 : Int32)) % (4 : Int32))) : x = (0 : Int32) ∨ x = (1 : Int32) ∨ x = (2 : Int32) ∨ x = (3 : Int32) := by
  rcases own_lt4 (own_and3 z) with q | q | q | q <;> rw [q] at h <;> rw [h] <;> decide
theorem own_ck_e {xs F2 CH : List Int32} {ds e : Int32} (h : own_ck xs F2 CH = true) (hds : ds = (0 : Int32) ∨ ds = (1 : Int32)) (he : e = (0 : Int32) ∨ e = (1 : Int32) ∨ e = (2 : Int32) ∨ e = (3 : Int32)) : own_ck2 xs F2 CH ds e = true := by
  simp only [own_ck, Bool.and_eq_true] at h
  obtain ⟨⟨⟨⟨⟨⟨⟨h1, h2⟩, h3⟩, h4⟩, h5⟩, h6⟩, h7⟩, h8⟩ := h
  rcases hds with rfl | rfl
  · rcases he with rfl | rfl | rfl | rfl
    · exact h1
    · exact h2
    · exact h3
    · exact h4
  · rcases he with rfl | rfl | rfl | rfl
    · exact h5
    · exact h6
    · exact h7
    · exact h8
theorem own_ck_use {xs F2 CH : List Int32} {ds e cnt pl z : Int32} (h : own_ck xs F2 CH = true) (hds : ds = (0 : Int32) ∨ ds = (1 : Int32)) (he : e = (0 : Int32) ∨ e = (1 : Int32) ∨ e = (2 : Int32) ∨ e = (3 : Int32)) (hc : cnt = own_cnt xs ds e) (hn : ¬ (cnt = (0 : Int32))) (hp : pl = ((z &&& (2147483647 : Int32)) % cnt)) :
    own_bel (nar .boolean ds) F2 CH e pl = own_f3 pl (nar .boolean (own_wn xs ds e 0)) (nar .boolean (own_wn xs ds e 1)) (nar .boolean (own_wn xs ds e 2)) (nar .boolean (own_wn xs ds e 3)) ∧ (nar .boolean ds = (0 : Int32) → own_inx F2 e = true ∧ own_inx CH (own_rd F2 e + pl) = true) := by
  have q := own_ck_e h hds he
  simp only [own_ck2, Bool.and_eq_true, decide_eq_true_eq] at q
  obtain ⟨⟨⟨⟨⟨q1, q2⟩, q3⟩, q4⟩, q5⟩, q6⟩ := q
  rw [← hc, Int32.le_iff_toInt_le] at q1 q2
  have t0 : (0 : Int32).toInt = 0 := rfl
  have t4 : (4 : Int32).toInt = 4 := rfl
  rw [t0] at q1; rw [t4] at q2
  have hz : cnt.toInt ≠ 0 := fun y => hn (Int32.toInt_inj.1 y)
  have hm := own_rem (z &&& (2147483647 : Int32)) cnt (own_mask31 z).1 (by omega)
  rw [← hp] at hm
  have hlt : pl < own_cnt xs ds e := by rw [← hc]; exact Int32.lt_iff_toInt_lt.2 hm.2
  have hk : own_ck1 xs F2 CH ds e pl = true := by
    rcases own_lt4 (x := pl) ⟨hm.1, by omega⟩ with y | y | y | y
    · rw [y]; exact q3
    · rw [y]; exact q4
    · rw [y]; exact q5
    · rw [y]; exact q6
  simp only [own_ck1, hlt, decide_true, Bool.not_true, Bool.false_or, Bool.and_eq_true, decide_eq_true_eq, Bool.or_eq_true, Bool.not_eq_true', decide_eq_false_iff_not] at hk
  exact ⟨hk.1, fun y => hk.2.resolve_left (fun w => w y)⟩
def own_in04 (x : Int32) : Bool := decide (x = (0 : Int32) ∨ x = (1 : Int32) ∨ x = (2 : Int32) ∨ x = (3 : Int32) ∨ x = (4 : Int32))
def own_st3 (n : Int32) (S : own_S) : Bool := own_in04 n && own_okCs n S && own_okO (own_cts n S)
def own_S1 (d1 : Int32) : own_S := own_stp ((1 : Int32) - d1) (own_opn own_S0)
def own_S2 (d1 d2 : Int32) : own_S := own_stp ((d1 + (1 : Int32)) - d2) (own_S1 d1)
def own_S3 (d1 d2 d3 : Int32) : own_S := own_stp ((d2 + (1 : Int32)) - d3) (own_S2 d1 d2)
def own_S4 (d1 d2 d3 : Int32) : own_S := own_cts (d3 + (1 : Int32)) (own_S3 d1 d2 d3)
def own_parF (S : own_S) : List Int32 := (own_A S.1 5 (0 : Int32) [(0 : Int32), (0 : Int32), (0 : Int32), (0 : Int32)] (own_zs (16 : Int32)) (0 : Int32)).getD []
def own_F1 (S : own_S) : List Int32 := (own_C (own_parF S) 5 (0 : Int32) [(0 : Int32), (0 : Int32), (0 : Int32), (0 : Int32), (0 : Int32)]).getD []
def own_F2 (S : own_S) : List Int32 := (own_D 5 (0 : Int32) (own_F1 S)).getD []
def own_CH (S : own_S) : List Int32 := (own_E (own_parF S) (own_F2 S) 4 (1 : Int32) (own_zs (own_rd (own_F2 S) (4 : Int32))) [(0 : Int32), (0 : Int32), (0 : Int32), (0 : Int32)]).getD []
def own_rok (S : own_S) : Bool := decide (S.2.2.1 = (4 : Int32)) && decide (own_A S.1 5 (0 : Int32) [(0 : Int32), (0 : Int32), (0 : Int32), (0 : Int32)] (own_zs (16 : Int32)) (0 : Int32) = some (own_parF S)) && decide (own_C (own_parF S) 5 (0 : Int32) [(0 : Int32), (0 : Int32), (0 : Int32), (0 : Int32), (0 : Int32)] = some (own_F1 S)) && decide (own_D 5 (0 : Int32) (own_F1 S) = some (own_F2 S)) && decide (own_inx (own_F2 S) (4 : Int32) = true ∧ ¬ own_rd (own_F2 S) (4 : Int32) < 0 ∧ (own_rd (own_F2 S) (4 : Int32)).toNatClampNeg ≤ 4) && decide (own_inx (own_parF S) (0 : Int32) = true ∧ own_rd (own_parF S) (0 : Int32) = (-1 : Int32)) && decide (own_E (own_parF S) (own_F2 S) 4 (1 : Int32) (own_zs (own_rd (own_F2 S) (4 : Int32))) [(0 : Int32), (0 : Int32), (0 : Int32), (0 : Int32)] = some (own_CH S))
def own_chk (d1 d2 d3 : Int32) : Bool := own_st3 ((1 : Int32) - d1) (own_opn own_S0) && own_st3 ((d1 + (1 : Int32)) - d2) (own_S1 d1) && own_st3 ((d2 + (1 : Int32)) - d3) (own_S2 d1 d2) && own_in04 (d3 + (1 : Int32)) && own_okCs (d3 + (1 : Int32)) (own_S3 d1 d2 d3) && own_rok (own_S4 d1 d2 d3) && own_ck [(0 : Int32), d1, d2, d3] (own_F2 (own_S4 d1 d2 d3)) (own_CH (own_S4 d1 d2 d3))
theorem own_chk_e {d1 d2 d3 : Int32} (h : own_chk d1 d2 d3 = true) : own_st3 ((1 : Int32) - d1) (own_opn own_S0) = true ∧ own_st3 ((d1 + (1 : Int32)) - d2) (own_S1 d1) = true ∧ own_st3 ((d2 + (1 : Int32)) - d3) (own_S2 d1 d2) = true ∧ own_in04 (d3 + (1 : Int32)) = true ∧ own_okCs (d3 + (1 : Int32)) (own_S3 d1 d2 d3) = true ∧ own_rok (own_S4 d1 d2 d3) = true ∧ own_ck [(0 : Int32), d1, d2, d3] (own_F2 (own_S4 d1 d2 d3)) (own_CH (own_S4 d1 d2 d3)) = true := by
  rw [own_chk] at h
  simp only [Bool.and_eq_true] at h
  obtain ⟨⟨⟨⟨⟨⟨h1, h2⟩, h3⟩, h4⟩, h5⟩, h6⟩, h7⟩ := h
  exact ⟨h1, h2, h3, h4, h5, h6, h7⟩
theorem own_in04_e {x : Int32} (h : own_in04 x = true) : x = (0 : Int32) ∨ x = (1 : Int32) ∨ x = (2 : Int32) ∨ x = (3 : Int32) ∨ x = (4 : Int32) := of_decide_eq_true h
theorem own_st3_e {n : Int32} {S : own_S} (h : own_st3 n S = true) : (n = (0 : Int32) ∨ n = (1 : Int32) ∨ n = (2 : Int32) ∨ n = (3 : Int32) ∨ n = (4 : Int32)) ∧ own_okCs n S = true ∧ own_okO (own_cts n S) = true := by
  rw [own_st3] at h
  simp only [Bool.and_eq_true] at h
  exact ⟨own_in04_e h.1.1, h.1.2, h.2⟩
theorem own_rok_e {S : own_S} (h : own_rok S = true) : S.2.2.1 = (4 : Int32) ∧ own_A S.1 5 (0 : Int32) [(0 : Int32), (0 : Int32), (0 : Int32), (0 : Int32)] (own_zs (16 : Int32)) (0 : Int32) = some (own_parF S) ∧ own_C (own_parF S) 5 (0 : Int32) [(0 : Int32), (0 : Int32), (0 : Int32), (0 : Int32), (0 : Int32)] = some (own_F1 S) ∧ own_D 5 (0 : Int32) (own_F1 S) = some (own_F2 S) ∧ (own_inx (own_F2 S) (4 : Int32) = true ∧ ¬ own_rd (own_F2 S) (4 : Int32) < 0 ∧ (own_rd (own_F2 S) (4 : Int32)).toNatClampNeg ≤ 4) ∧ (own_inx (own_parF S) (0 : Int32) = true ∧ own_rd (own_parF S) (0 : Int32) = (-1 : Int32)) ∧ own_E (own_parF S) (own_F2 S) 4 (1 : Int32) (own_zs (own_rd (own_F2 S) (4 : Int32))) [(0 : Int32), (0 : Int32), (0 : Int32), (0 : Int32)] = some (own_CH S) := by
  rw [own_rok] at h
  simp only [Bool.and_eq_true, decide_eq_true_eq] at h
  obtain ⟨⟨⟨⟨⟨⟨h1, h2⟩, h3⟩, h4⟩, h5⟩, h6⟩, h7⟩ := h
  exact ⟨h1, h2, h3, h4, h5, h6, h7⟩
theorem own_dd {d1 d2 z1 z2 : Int32} (h1 : d1 = (z1 &&& (1 : Int32))) (h2 : d2 = ((z2 &&& (3 : Int32)) % (d1 + (2 : Int32)))) : (d1 = (0 : Int32) ∧ (d2 = (0 : Int32) ∨ d2 = (1 : Int32))) ∨ (d1 = (1 : Int32) ∧ (d2 = (0 : Int32) ∨ d2 = (1 : Int32) ∨ d2 = (2 : Int32))) := by
  rcases own_and1 z1 with q | q
  · rw [q] at h1; rw [h1] at h2; exact Or.inl ⟨h1, own_d2 h2⟩
  · rw [q] at h1; rw [h1] at h2; exact Or.inr ⟨h1, own_d3 h2⟩
theorem own_chk_t {d1 d2 d3 z1 z2 z3 : Int32} (h1 : d1 = (z1 &&& (1 : Int32))) (h2 : d2 = ((z2 &&& (3 : Int32)) % (d1 + (2 : Int32)))) (h3 : d3 = ((z3 &&& (3 : Int32)) % (d2 + (2 : Int32)))) : own_chk d1 d2 d3 = true := by
  have q := own_dd h1 h2
  clear h1 h2
  rcases q with ⟨rfl, rfl | rfl⟩ | ⟨rfl, rfl | rfl | rfl⟩
  · rcases own_d2 h3 with rfl | rfl <;> decide +kernel
  · rcases own_d3 h3 with rfl | rfl | rfl <;> decide +kernel
  · rcases own_d2 h3 with rfl | rfl <;> decide +kernel
  · rcases own_d3 h3 with rfl | rfl | rfl <;> decide +kernel
  · rcases own_d4 h3 with rfl | rfl | rfl | rfl <;> decide +kernel
theorem own_b01 {x : Int32} {p : Prop} [Decidable p] (h : x = (if p then (0 : Int32) else (1 : Int32))) : x = (0 : Int32) ∨ x = (1 : Int32) := by
  by_cases q : p
  · rw [if_pos q] at h; exact Or.inl h
  · rw [if_neg q] at h; exact Or.inr h
theorem own_cn {xs : List Int32} {ds e v a b c d r1 r2 r3 r4 : Int32} (hv : v = (((a + b) + c) + d)) (h1 : a = (if (nar .boolean r1) = (0 : Int32) then (0 : Int32) else (1 : Int32))) (h2 : b = (if (nar .boolean r2) = (0 : Int32) then (0 : Int32) else (1 : Int32))) (h3 : c = (if (nar .boolean r3) = (0 : Int32) then (0 : Int32) else (1 : Int32))) (h4 : d = (if (nar .boolean r4) = (0 : Int32) then (0 : Int32) else (1 : Int32))) (k1 : r1 = own_wn xs ds e (0 : Int32)) (k2 : r2 = own_wn xs ds e (1 : Int32)) (k3 : r3 = own_wn xs ds e (2 : Int32)) (k4 : r4 = own_wn xs ds e (3 : Int32)) : v = own_cnt xs ds e := by
  rw [hv, h1, h2, h3, h4, k1, k2, k3, k4]; rfl
theorem pn_0 : plainName "com/example/twigmeter/twigmeter/workload/ReachBelowPinLaw" = true := by first | (simp [plainName, overriddenIn]; done) | decide +kernel
theorem pd_10 : parseMethodDescriptor "([IZII)Z" = some ⟨[(.array .int), .boolean, .int, .int], some .boolean⟩ := by decide +kernel
theorem pd_11 : parseMethodDescriptor "([ZI)I" = some ⟨[(.array .boolean), .int], some .int⟩ := by decide +kernel
theorem pd_12 : parseMethodDescriptor "(Lcom/example/twigmeter/twigmeter/xml/ElementTree;Z)V" = some ⟨[(.object "com/example/twigmeter/twigmeter/xml/ElementTree"), .boolean], none⟩ := by decide +kernel
theorem ef_0 (m : MethodId) (x0 : Int32) (x1 : Int32) (x2 : Int32) (x3 : Int32) : entryFrame m #[(.int x0), (.int x1), (.int x2), (.int x3)] maxLocals = mkF m 0 #[.val (.int x0), .val (.int x1), .val (.int x2), .val (.int x3), .unset, .unset, .unset, .unset, .unset, .unset, .unset, .unset, .unset] [] := by first | (simp [entryFrame, mkF, argsToLocals, Value.category, maxLocals]; done) | rfl
theorem own_side_0_44 (sh : Int32) (kd : Int32) (ez : Int32) (pz : Int32) (m11 : Int32) (hm11 : m11 = (if (kd &&& (1 : Int32)) = (0 : Int32) then (0 : Int32) else (1 : Int32))) (d1 : Int32) (hd1 : d1 = (sh &&& (1 : Int32))) : ¬ ((d1 + (2 : Int32)) = (0 : Int32)) := by rcases own_and1 sh with q | q <;> rw [q] at hd1 <;> rw [hd1] <;> decide
theorem own_side_0_60 (sh : Int32) (kd : Int32) (ez : Int32) (pz : Int32) (m11 : Int32) (hm11 : m11 = (if (kd &&& (1 : Int32)) = (0 : Int32) then (0 : Int32) else (1 : Int32))) (d1 : Int32) (hd1 : d1 = (sh &&& (1 : Int32))) (d2 : Int32) (hd2 : d2 = ((((sh.toUInt32 >>> ((1 : Int32) &&& 31).toUInt32).toInt32) &&& (3 : Int32)) % (d1 + (2 : Int32)))) : ¬ ((d2 + (2 : Int32)) = (0 : Int32)) := by rcases own_dd hd1 hd2 with ⟨-, q | q⟩ | ⟨-, q | q | q⟩ <;> rw [q] <;> decide
theorem own_side_0_197_t (sh : Int32) (kd : Int32) (ez : Int32) (pz : Int32) (m11 : Int32) (hm11 : m11 = (if (kd &&& (1 : Int32)) = (0 : Int32) then (0 : Int32) else (1 : Int32))) (d1 : Int32) (hd1 : d1 = (sh &&& (1 : Int32))) (d2 : Int32) (hd2 : d2 = ((((sh.toUInt32 >>> ((1 : Int32) &&& 31).toUInt32).toInt32) &&& (3 : Int32)) % (d1 + (2 : Int32)))) (d3 : Int32) (hd3 : d3 = ((((sh.toUInt32 >>> ((3 : Int32) &&& 31).toUInt32).toInt32) &&& (3 : Int32)) % (d2 + (2 : Int32)))) (v68 : Int32) (hv68 : v68 = ((ez &&& (2147483647 : Int32)) % (4 : Int32))) (he : v68 = (0 : Int32) ∨ v68 = (1 : Int32) ∨ v68 = (2 : Int32) ∨ v68 = (3 : Int32)) (r85 : Int32) (hr85 : r85 = (own_wn [(0 : Int32), d1, d2, d3] m11 v68 (0 : Int32))) (r99 : Int32) (hr99 : r99 = (own_wn [(0 : Int32), d1, d2, d3] m11 v68 (1 : Int32))) (r113 : Int32) (hr113 : r113 = (own_wn [(0 : Int32), d1, d2, d3] m11 v68 (2 : Int32))) (r127 : Int32) (hr127 : r127 = (own_wn [(0 : Int32), d1, d2, d3] m11 v68 (3 : Int32))) (m143 : Int32) (hm143 : m143 = (if (nar .boolean r85) = (0 : Int32) then (0 : Int32) else (1 : Int32))) (m155 : Int32) (hm155 : m155 = (if (nar .boolean r99) = (0 : Int32) then (0 : Int32) else (1 : Int32))) (m168 : Int32) (hm168 : m168 = (if (nar .boolean r113) = (0 : Int32) then (0 : Int32) else (1 : Int32))) (m181 : Int32) (hm181 : m181 = (if (nar .boolean r127) = (0 : Int32) then (0 : Int32) else (1 : Int32))) (v182 : Int32) (hv182 : v182 = (((m143 + m155) + m168) + m181)) (hc186_69 : ¬ (v182 = (0 : Int32))) : ¬ (v182 = (0 : Int32)) := hc186_69
theorem own_pre_0_304_hbl_t (sh : Int32) (kd : Int32) (ez : Int32) (pz : Int32) (m11 : Int32) (hm11 : m11 = (if (kd &&& (1 : Int32)) = (0 : Int32) then (0 : Int32) else (1 : Int32))) (d1 : Int32) (hd1 : d1 = (sh &&& (1 : Int32))) (d2 : Int32) (hd2 : d2 = ((((sh.toUInt32 >>> ((1 : Int32) &&& 31).toUInt32).toInt32) &&& (3 : Int32)) % (d1 + (2 : Int32)))) (d3 : Int32) (hd3 : d3 = ((((sh.toUInt32 >>> ((3 : Int32) &&& 31).toUInt32).toInt32) &&& (3 : Int32)) % (d2 + (2 : Int32)))) (v68 : Int32) (hv68 : v68 = ((ez &&& (2147483647 : Int32)) % (4 : Int32))) (he : v68 = (0 : Int32) ∨ v68 = (1 : Int32) ∨ v68 = (2 : Int32) ∨ v68 = (3 : Int32)) (r85 : Int32) (hr85 : r85 = (own_wn [(0 : Int32), d1, d2, d3] m11 v68 (0 : Int32))) (r99 : Int32) (hr99 : r99 = (own_wn [(0 : Int32), d1, d2, d3] m11 v68 (1 : Int32))) (r113 : Int32) (hr113 : r113 = (own_wn [(0 : Int32), d1, d2, d3] m11 v68 (2 : Int32))) (r127 : Int32) (hr127 : r127 = (own_wn [(0 : Int32), d1, d2, d3] m11 v68 (3 : Int32))) (m143 : Int32) (hm143 : m143 = (if (nar .boolean r85) = (0 : Int32) then (0 : Int32) else (1 : Int32))) (m155 : Int32) (hm155 : m155 = (if (nar .boolean r99) = (0 : Int32) then (0 : Int32) else (1 : Int32))) (m168 : Int32) (hm168 : m168 = (if (nar .boolean r113) = (0 : Int32) then (0 : Int32) else (1 : Int32))) (m181 : Int32) (hm181 : m181 = (if (nar .boolean r127) = (0 : Int32) then (0 : Int32) else (1 : Int32))) (v182 : Int32) (hv182 : v182 = (((m143 + m155) + m168) + m181)) (hc186_69 : ¬ (v182 = (0 : Int32))) (v198 : Int32) (hv198 : v198 = ((pz &&& (2147483647 : Int32)) % v182)) (r204 : Int32) (hr204 : r204 = (own_f3 v198 (nar .boolean r85) (nar .boolean r99) (nar .boolean r113) (nar .boolean r127))) (hall : own_chk d1 d2 d3 = true) (bd_83 : Nat) : (nar .boolean m11) = (0 : Int32) → own_inx (own_F2 (own_S4 d1 d2 d3)) v68 = true ∧ own_inx (own_CH (own_S4 d1 d2 d3)) (own_rd (own_F2 (own_S4 d1 d2 d3)) v68 + v198) = true := (own_ck_use (own_chk_e hall).2.2.2.2.2.2 (own_b01 hm11) he (own_cn hv182 hm143 hm155 hm168 hm181 hr85 hr99 hr113 hr127) hc186_69 hv198).2
theorem own_leaf_0_317_t (sh : Int32) (kd : Int32) (ez : Int32) (pz : Int32) (m11 : Int32) (hm11 : m11 = (if (kd &&& (1 : Int32)) = (0 : Int32) then (0 : Int32) else (1 : Int32))) (d1 : Int32) (hd1 : d1 = (sh &&& (1 : Int32))) (d2 : Int32) (hd2 : d2 = ((((sh.toUInt32 >>> ((1 : Int32) &&& 31).toUInt32).toInt32) &&& (3 : Int32)) % (d1 + (2 : Int32)))) (d3 : Int32) (hd3 : d3 = ((((sh.toUInt32 >>> ((3 : Int32) &&& 31).toUInt32).toInt32) &&& (3 : Int32)) % (d2 + (2 : Int32)))) (v68 : Int32) (hv68 : v68 = ((ez &&& (2147483647 : Int32)) % (4 : Int32))) (he : v68 = (0 : Int32) ∨ v68 = (1 : Int32) ∨ v68 = (2 : Int32) ∨ v68 = (3 : Int32)) (r85 : Int32) (hr85 : r85 = (own_wn [(0 : Int32), d1, d2, d3] m11 v68 (0 : Int32))) (r99 : Int32) (hr99 : r99 = (own_wn [(0 : Int32), d1, d2, d3] m11 v68 (1 : Int32))) (r113 : Int32) (hr113 : r113 = (own_wn [(0 : Int32), d1, d2, d3] m11 v68 (2 : Int32))) (r127 : Int32) (hr127 : r127 = (own_wn [(0 : Int32), d1, d2, d3] m11 v68 (3 : Int32))) (m143 : Int32) (hm143 : m143 = (if (nar .boolean r85) = (0 : Int32) then (0 : Int32) else (1 : Int32))) (m155 : Int32) (hm155 : m155 = (if (nar .boolean r99) = (0 : Int32) then (0 : Int32) else (1 : Int32))) (m168 : Int32) (hm168 : m168 = (if (nar .boolean r113) = (0 : Int32) then (0 : Int32) else (1 : Int32))) (m181 : Int32) (hm181 : m181 = (if (nar .boolean r127) = (0 : Int32) then (0 : Int32) else (1 : Int32))) (v182 : Int32) (hv182 : v182 = (((m143 + m155) + m168) + m181)) (hc186_69 : ¬ (v182 = (0 : Int32))) (v198 : Int32) (hv198 : v198 = ((pz &&& (2147483647 : Int32)) % v182)) (r204 : Int32) (hr204 : r204 = (own_f3 v198 (nar .boolean r85) (nar .boolean r99) (nar .boolean r113) (nar .boolean r127))) (hall : own_chk d1 d2 d3 = true) (bd_83 : Nat) (hp152_hbl : (nar .boolean m11) = (0 : Int32) → own_inx (own_F2 (own_S4 d1 d2 d3)) v68 = true ∧ own_inx (own_CH (own_S4 d1 d2 d3)) (own_rd (own_F2 (own_S4 d1 d2 d3)) v68 + v198) = true) (r304 : Int32) (hr304 : r304 = (own_bel (nar .boolean m11) (own_F2 (own_S4 d1 d2 d3)) (own_CH (own_S4 d1 d2 d3)) v68 v198)) (m317 : Int32) (hm317 : m317 = (if r304 = r204 then (1 : Int32) else (0 : Int32))) : (nar .boolean m317) = (1 : Int32) := by have u := (own_ck_use (own_chk_e hall).2.2.2.2.2.2 (own_b01 hm11) he (own_cn hv182 hm143 hm155 hm168 hm181 hr85 hr99 hr113 hr127) hc186_69 hv198).1; have q : r304 = r204 := by { rw [hr304, hr204, hr85, hr99, hr113, hr127]; exact u }; rw [hm317, if_pos q]; rfl
def Q0 (Z : State) (sh : Int32) (kd : Int32) (ez : Int32) (pz : Int32) (dd : Addr) (h0 : Heap) (n0 : Nat) (v : Option Value) (h : Heap) (L : List Loc) : Prop := v = some (.int (1 : Int32)) ∧ Fr n0 L
set_option maxRecDepth 65536 in
set_option maxHeartbeats 40000000 in
theorem rm0 (l : Launch) (Z : State) (a0 : Array Value) (hw : ∀ d ∈ tables_1, d.before a0 Z = true) (ws : List Jvm.Cond) (sh : Int32) (kd : Int32) (ez : Int32) (pz : Int32) (dd : Addr) (h0 : Heap) (n0 : Nat) (Z0 : n0 ≤ h0.size) (I0 : Sta Z h0 "java/util/ArrayList" "DEFAULTCAPACITY_EMPTY_ELEMENTDATA" "[Ljava/lang/Object;" (.ref dd)) :
    MetFree l x (head1 (Jvm.Cond.code x code maxLocals ret :: ws) room_1) (fun a U => a = #[(.int sh), (.int kd), (.int ez), (.int pz)] ∧ Z.Warmed39 U.vm ∧ U.heap = h0) (fun _ _ _ _ _ => True) (fun _ U o U' => ∃ v L, o = .returned v ∧ Q0 Z sh kd ez pz dd h0 n0 v U'.heap L ∧ FrameEnd U o U' L room_1.cells room_1.slots) := by
  refine MetFree.of_bodySF (plainFor_of_name pn_0) hisR ?_
  intro p e s m args below meth c s₁ Bd hml0 hP hK
  obtain ⟨rfl, hZ, hh⟩ := hP
  have hx := Bd.exec
  have hby := Bd.bytes
  have hml : c.maxLocals = 13 := hml0
  have hown : s.vm.findClass "com/example/twigmeter/twigmeter/workload/ReachBelowPinLaw" = some m.cls := findClass_of_methodNamed Bd.named
  have hnm := (name_of_methodNamed Bd.named Bd.method).1
  have X0 : Stand p l e room_1 s m #[(.int sh), (.int kd), (.int ez), (.int pz)] below meth c s₁ [] 0 0 := Stand.of_body Bd
  have e0 : s₁.heap = h0 := by rw [← hh, Bd.state]; rfl
  have N0 := Fr.nil n0
  have K0 : Keep h0 h0 [] := Keep.refl h0 _
  have pre0 : ∀ tq, Steps p.tables e below (s₁.setTop (mkF m 0 #[.val (.int sh), .val (.int kd), .val (.int ez), .val (.int pz), .unset, .unset, .unset, .unset, .unset, .unset, .unset, .unset, .unset] [])) tq → Steps p.tables e below (s₁.setTop (entryFrame m #[(.int sh), (.int kd), (.int ez), (.int pz)] maxLocals)) tq := fun tq kq => castTop (ef_0 m sh kd ez pz) kq
  obtain ⟨m11, hm11⟩ : ∃ z_q : Int32, z_q = (if (kd &&& (1 : Int32)) = (0 : Int32) then (0 : Int32) else (1 : Int32)) := ⟨_, rfl⟩
  have pre2 : ∀ tq, Steps p.tables e below (s₁.setTop (mkF m 11 #[.val (.int sh), .val (.int kd), .val (.int ez), .val (.int pz), .unset, .unset, .unset, .unset, .unset, .unset, .unset, .unset, .unset] [(.int m11)])) tq → Steps p.tables e below (s₁.setTop (entryFrame m #[(.int sh), (.int kd), (.int ez), (.int pz)] maxLocals)) tq := by
    intro tq kt
    refine pre0 _ ?_
    show Steps p.tables e below (s₁.setTop (mkF m 0 #[.val (.int sh), .val (.int kd), .val (.int ez), .val (.int pz), .unset, .unset, .unset, .unset, .unset, .unset, .unset, .unset, .unset] [])) _
    refine XS.iloadN X0.here hx rfl (hb hby at_0) rfl ?_
    refine XS.iconst X0.here hx rfl (hb hby at_1) ?_
    refine XS.iand X0.here hx rfl (hb hby at_2) rfl ?_
    by_cases d1 : (kd &&& (1 : Int32)) = (0 : Int32)
    · skip
      show Steps p.tables e below (s₁.setTop (mkF m 3 #[.val (.int sh), .val (.int kd), .val (.int ez), .val (.int pz), .unset, .unset, .unset, .unset, .unset, .unset, .unset, .unset, .unset] [(.int (kd &&& (1 : Int32)))])) _
      refine XS.ifYes X0.here hx rfl (pc0 := 3) (pc' := 10) rfl (hb hby at_3) rfl ((if0 _ _).trans (teq d1).1) (by decide) (by decide) ?_
      refine XS.iconst X0.here hx rfl (hb hby at_10) ?_
      show Steps p.tables e below (s₁.setTop (mkF m 11 #[.val (.int sh), .val (.int kd), .val (.int ez), .val (.int pz), .unset, .unset, .unset, .unset, .unset, .unset, .unset, .unset, .unset] [(.int (0 : Int32))])) _
      exact castTop (by simp only [hm11, if_pos d1]) kt
    · skip
      show Steps p.tables e below (s₁.setTop (mkF m 3 #[.val (.int sh), .val (.int kd), .val (.int ez), .val (.int pz), .unset, .unset, .unset, .unset, .unset, .unset, .unset, .unset, .unset] [(.int (kd &&& (1 : Int32)))])) _
      refine XS.ifNo X0.here hx rfl (hb hby at_3) rfl ((if0 _ _).trans (feq d1).1) ?_
      refine XS.iconst X0.here hx rfl (hb hby at_6) ?_
      refine XS.goto X0.here hx rfl (pc0 := 7) (pc' := 11) rfl (hb hby at_7) (by decide) (by decide) ?_
      show Steps p.tables e below (s₁.setTop (mkF m 11 #[.val (.int sh), .val (.int kd), .val (.int ez), .val (.int pz), .unset, .unset, .unset, .unset, .unset, .unset, .unset, .unset, .unset] [(.int (1 : Int32))])) _
      exact castTop (by simp only [hm11, if_neg d1]) kt
  obtain ⟨T3, hX3, kx3, X3, e3, E3, A3, st3⟩ := newP X0 hx hZ (hw _ (List.mem_of_getElem? (i := 0) rfl)) e0 (g := (mkF m 14 #[.val (.int sh), .val (.int kd), .val (.int ez), .val (.int pz), .val (.int m11), .unset, .unset, .unset, .unset, .unset, .unset, .unset, .unset] [(.int (4 : Int32))])) rfl (hb hby at_14) rfl (by decide) (cap := 4) (by decide) (by decide) (by decide) (by decide)
  obtain ⟨b3, g3⟩ : ∃ z_q, z_q = h0.size := ⟨_, rfl⟩
  rw [← g3] at A3 st3
  have g_b3 : n0 ≤ b3 := Nat.le_trans Z0 (Nat.le_of_eq g3.symm)
  have F4 : Sta Z hX3 "java/util/ArrayList" "DEFAULTCAPACITY_EMPTY_ELEMENTDATA" "[Ljava/lang/Object;" (.ref dd) := I0.ext E3
  have Z5 : n0 ≤ hX3.size := Nat.le_trans Z0 E3.1
  have F6 : own_ia Z hX3 b3 [(0 : Int32), (0 : Int32), (0 : Int32), (0 : Int32)] := own_ia.new A3 (by decide)
  obtain ⟨cl7, Ar7, hin7, pt7⟩ := F6.put (j := (0 : Int32)) rfl
  obtain ⟨T7, hX7, X7, e7, W7, st7⟩ := stI X3 hx hZ e3 Ar7 (j := (0 : Int32)) hin7 (g := (mkF m 22 #[.val (.int sh), .val (.int kd), .val (.int ez), .val (.int pz), .val (.int m11), .val (.ref b3), .unset, .unset, .unset, .unset, .unset, .unset, .unset] [(.int (0 : Int32)), (.int (0 : Int32)), (.ref b3)])) rfl rfl (hb hby at_22)
  have F8 : own_ia Z hX7 b3 [(0 : Int32), (0 : Int32), (0 : Int32), (0 : Int32)] := pt7 _ _ W7
  have N7 := Fr.snoc X7 N0 g_b3
  have F9 : Sta Z hX7 "java/util/ArrayList" "DEFAULTCAPACITY_EMPTY_ELEMENTDATA" "[Ljava/lang/Object;" (.ref dd) := F4.wr W7
  have Z10 : n0 ≤ hX7.size := Nat.le_trans Z5 (Keep.of_wr W7).1
  obtain ⟨d1, hd1⟩ : ∃ z_q : Int32, z_q = (sh &&& (1 : Int32)) := ⟨_, rfl⟩
  obtain ⟨cl11, Ar11, hin11, pt11⟩ := F8.put (j := (1 : Int32)) rfl
  obtain ⟨T11, hX11, X11, e11, W11, st11⟩ := stI X7 hx hZ e7 Ar11 (j := (1 : Int32)) hin11 (g := (mkF m 29 #[.val (.int sh), .val (.int kd), .val (.int ez), .val (.int pz), .val (.int m11), .val (.ref b3), .unset, .unset, .unset, .unset, .unset, .unset, .unset] [(.int d1), (.int (1 : Int32)), (.ref b3)])) rfl rfl (hb hby at_29)
  have F12 : own_ia Z hX11 b3 [(0 : Int32), d1, (0 : Int32), (0 : Int32)] := pt11 _ _ W11
  have N11 := Fr.snoc X11 N7 g_b3
  have F13 : Sta Z hX11 "java/util/ArrayList" "DEFAULTCAPACITY_EMPTY_ELEMENTDATA" "[Ljava/lang/Object;" (.ref dd) := F9.wr W11
  have Z14 : n0 ≤ hX11.size := Nat.le_trans Z10 (Keep.of_wr W11).1
  obtain ⟨cl15, Ar15, hin15, hat15⟩ := F12.get (j := (1 : Int32)) rfl
  have hnz44_16 : ¬ ((d1 + (2 : Int32)) = (0 : Int32)) := (own_side_0_44 sh kd ez pz m11 hm11 d1 hd1)
  obtain ⟨d2, hd2⟩ : ∃ z_q : Int32, z_q = ((((sh.toUInt32 >>> ((1 : Int32) &&& 31).toUInt32).toInt32) &&& (3 : Int32)) % (d1 + (2 : Int32))) := ⟨_, rfl⟩
  obtain ⟨cl17, Ar17, hin17, pt17⟩ := F12.put (j := (2 : Int32)) rfl
  obtain ⟨T17, hX17, X17, e17, W17, st17⟩ := stI X11 hx hZ e11 Ar17 (j := (2 : Int32)) hin17 (g := (mkF m 45 #[.val (.int sh), .val (.int kd), .val (.int ez), .val (.int pz), .val (.int m11), .val (.ref b3), .unset, .unset, .unset, .unset, .unset, .unset, .unset] [(.int d2), (.int (2 : Int32)), (.ref b3)])) rfl rfl (hb hby at_45)
  have F18 : own_ia Z hX17 b3 [(0 : Int32), d1, d2, (0 : Int32)] := pt17 _ _ W17
  have N17 := Fr.snoc X17 N11 g_b3
  have F19 : Sta Z hX17 "java/util/ArrayList" "DEFAULTCAPACITY_EMPTY_ELEMENTDATA" "[Ljava/lang/Object;" (.ref dd) := F13.wr W17
  have Z20 : n0 ≤ hX17.size := Nat.le_trans Z14 (Keep.of_wr W17).1
  obtain ⟨cl21, Ar21, hin21, hat21⟩ := F18.get (j := (2 : Int32)) rfl
  have hnz60_22 : ¬ ((d2 + (2 : Int32)) = (0 : Int32)) := (own_side_0_60 sh kd ez pz m11 hm11 d1 hd1 d2 hd2)
  obtain ⟨d3, hd3⟩ : ∃ z_q : Int32, z_q = ((((sh.toUInt32 >>> ((3 : Int32) &&& 31).toUInt32).toInt32) &&& (3 : Int32)) % (d2 + (2 : Int32))) := ⟨_, rfl⟩
  obtain ⟨cl23, Ar23, hin23, pt23⟩ := F18.put (j := (3 : Int32)) rfl
  obtain ⟨T23, hX23, X23, e23, W23, st23⟩ := stI X17 hx hZ e17 Ar23 (j := (3 : Int32)) hin23 (g := (mkF m 61 #[.val (.int sh), .val (.int kd), .val (.int ez), .val (.int pz), .val (.int m11), .val (.ref b3), .unset, .unset, .unset, .unset, .unset, .unset, .unset] [(.int d3), (.int (3 : Int32)), (.ref b3)])) rfl rfl (hb hby at_61)
  have F24 : own_ia Z hX23 b3 [(0 : Int32), d1, d2, d3] := pt23 _ _ W23
  have N23 := Fr.snoc X23 N17 g_b3
  have F25 : Sta Z hX23 "java/util/ArrayList" "DEFAULTCAPACITY_EMPTY_ELEMENTDATA" "[Ljava/lang/Object;" (.ref dd) := F19.wr W23
  have Z26 : n0 ≤ hX23.size := Nat.le_trans Z20 (Keep.of_wr W23).1
  obtain ⟨v68, hv68⟩ : ∃ z_q : Int32, z_q = ((ez &&& (2147483647 : Int32)) % (4 : Int32)) := ⟨_, rfl⟩
  have he : v68 = (0 : Int32) ∨ v68 = (1 : Int32) ∨ v68 = (2 : Int32) ∨ v68 = (3 : Int32) := own_e4 hv68
  obtain ⟨T27, hX27, kx27, X27, e27, E27, A27, st27⟩ := newP X23 hx hZ (hw _ (List.mem_of_getElem? (i := 2) rfl)) e23 (g := (mkF m 71 #[.val (.int sh), .val (.int kd), .val (.int ez), .val (.int pz), .val (.int m11), .val (.ref b3), .val (.int v68), .unset, .unset, .unset, .unset, .unset, .unset] [(.int (4 : Int32))])) rfl (hb hby at_71) rfl (by decide) (cap := 4) (by decide) (by decide) (by decide) (by decide)
  obtain ⟨b27, g27⟩ : ∃ z_q, z_q = hX23.size := ⟨_, rfl⟩
  rw [← g27] at A27 st27
  have g_b27 : n0 ≤ b27 := Nat.le_trans Z26 (Nat.le_of_eq g27.symm)
  have lt_b3_b27 := Nat.lt_of_lt_of_le F24.lt (Nat.le_of_eq g27.symm)
  have ne_b3_b27 : b3 ≠ b27 := Nat.ne_of_lt (Nat.lt_of_lt_of_le F24.lt (Nat.le_of_eq g27.symm))
  have F28 : Sta Z hX27 "java/util/ArrayList" "DEFAULTCAPACITY_EMPTY_ELEMENTDATA" "[Ljava/lang/Object;" (.ref dd) := F25.ext E27
  have F29 : own_ia Z hX27 b3 [(0 : Int32), d1, d2, d3] := F24.ext E27
  have Z30 : n0 ≤ hX27.size := Nat.le_trans Z26 E27.1
  have F31 : Arv Z hX27 b27 kx27 .boolean (4 : Int32) [(.int (0 : Int32)), (.int (0 : Int32)), (.int (0 : Int32)), (.int (0 : Int32))] (.int (0 : Int32)) := (Arv.new A27 (by decide)).pad (pad_rep [] (.int (0 : Int32)) 4)
  obtain ⟨_, _, ⟨T32, L32, k32, n32⟩, -, X32, ⟨Lc32, hQ32, l32, y32, z32⟩, st32⟩ := Jvm.LawKit.callS X27 hx (y := (⟨"com/example/twigmeter/twigmeter/workload/ReachBelowPinLaw", "wanted", "([IZII)Z"⟩ : MethodName)) hown (mvT hZ (hw _ (List.mem_of_getElem? (i := 3) rfl))) (mvT hZ (hw _ (List.mem_of_getElem? (i := 4) rfl))) (mvT hZ (hw _ (List.mem_of_getElem? (i := 5) rfl))) (mvT hZ (hw _ (List.mem_of_getElem? (i := 6) rfl))) (by decide) (backOf (W := 2) (rm1 l Z a0 hw [] b3 m11 v68 (0 : Int32) d1 d2 d3 hX27 n0 Z30 F29 he rfl) hZ (hw _ (List.mem_of_getElem? (i := 6) rfl)) (hw _ (List.mem_of_getElem? (i := 5) rfl)) (by decide) (by decide)) (g := (mkF m 85 #[.val (.int sh), .val (.int kd), .val (.int ez), .val (.int pz), .val (.int m11), .val (.ref b3), .val (.int v68), .val (.ref b27), .unset, .unset, .unset, .unset, .unset] [(.int (0 : Int32)), (.int v68), (.int m11), (.ref b3), (.int (0 : Int32)), (.ref b27)])) rfl (by rw [hml]; rfl) (argsL := [(.ref b3), (.int m11), (.int v68), (.int (0 : Int32))]) (rest := [(.int (0 : Int32)), (.ref b27)]) (lenOf pd_10 rfl) rfl (by show 2 * 0 + _ ≤ _; exact Nat.le_of_eq rfl) (hb hby at_85) (fun _ _ => ⟨rfl, e27, (by decide : 2 + 0 ≤ _), (by decide : 8 + 0 ≤ _)⟩)
  dsimp only [Pt.U, Pt.locs, Pt.cells, Pt.slots] at X32 l32 y32 z32 st32 hQ32
  replace y32 : k32 = 2 := y32
  replace z32 : n32 = 8 := z32
  subst l32 y32 z32
  obtain ⟨rfl, N32q, e32⟩ := hQ32
  have N32 := Fr.app N23 N32q
  obtain ⟨r85, hr85⟩ : ∃ z_q : Int32, z_q = (own_wn [(0 : Int32), d1, d2, d3] m11 v68 (0 : Int32)) := ⟨_, rfl⟩
  obtain ⟨cl33, Ar33, q33, S33, M33, H33, G33⟩ := id F31
  have hin33 : ¬ ((0 : Int32) < 0 ∨ cl33.slots.size ≤ ((0 : Int32)).toNatClampNeg) := inb_of S33 ⟨by decide, by decide⟩
  obtain ⟨T33, hX33, X33, e33, W33, st33⟩ := stZ X32 hx hZ e32 Ar33 (j := (0 : Int32)) hin33 (g := (mkF m 88 #[.val (.int sh), .val (.int kd), .val (.int ez), .val (.int pz), .val (.int m11), .val (.ref b3), .val (.int v68), .val (.ref b27), .unset, .unset, .unset, .unset, .unset] [(.int r85), (.int (0 : Int32)), (.ref b27)])) rfl rfl (hb hby at_88)
  have F34 : Arv Z hX33 b27 kx27 .boolean (4 : Int32) [(.int (nar .boolean r85)), (.int (0 : Int32)), (.int (0 : Int32)), (.int (0 : Int32))] (.int (0 : Int32)) := Arv.set Ar33 q33 S33 M33 H33 G33 (fits_nar_bool _) W33 0 rfl (Nat.le_of_ble_eq_true rfl)
  have N33 := Fr.snoc X33 N32 g_b27
  have F35 : Sta Z hX33 "java/util/ArrayList" "DEFAULTCAPACITY_EMPTY_ELEMENTDATA" "[Ljava/lang/Object;" (.ref dd) := F28.wr W33
  have F36 : own_ia Z hX33 b3 [(0 : Int32), d1, d2, d3] := F29.other W33 ne_b3_b27
  have Z37 : n0 ≤ hX33.size := Nat.le_trans Z30 (Keep.of_wr W33).1
  obtain ⟨_, _, ⟨T38, L38, k38, n38⟩, -, X38, ⟨Lc38, hQ38, l38, y38, z38⟩, st38⟩ := Jvm.LawKit.callS X33 hx (y := (⟨"com/example/twigmeter/twigmeter/workload/ReachBelowPinLaw", "wanted", "([IZII)Z"⟩ : MethodName)) hown (mvT hZ (hw _ (List.mem_of_getElem? (i := 3) rfl))) (mvT hZ (hw _ (List.mem_of_getElem? (i := 4) rfl))) (mvT hZ (hw _ (List.mem_of_getElem? (i := 5) rfl))) (mvT hZ (hw _ (List.mem_of_getElem? (i := 6) rfl))) (by decide) (backOf (W := 2) (rm1_1 l Z a0 hw [] b3 m11 v68 (1 : Int32) d1 d2 d3 hX33 n0 Z37 F36 he rfl) hZ (hw _ (List.mem_of_getElem? (i := 6) rfl)) (hw _ (List.mem_of_getElem? (i := 5) rfl)) (by decide) (by decide)) (g := (mkF m 99 #[.val (.int sh), .val (.int kd), .val (.int ez), .val (.int pz), .val (.int m11), .val (.ref b3), .val (.int v68), .val (.ref b27), .unset, .unset, .unset, .unset, .unset] [(.int (1 : Int32)), (.int v68), (.int m11), (.ref b3), (.int (1 : Int32)), (.ref b27)])) rfl (by rw [hml]; rfl) (argsL := [(.ref b3), (.int m11), (.int v68), (.int (1 : Int32))]) (rest := [(.int (1 : Int32)), (.ref b27)]) (lenOf pd_10 rfl) rfl (by show 2 * 0 + _ ≤ _; exact Nat.le_of_eq rfl) (hb hby at_99) (fun _ _ => ⟨rfl, e33, (by decide : 2 + 0 ≤ _), (by decide : 8 + 0 ≤ _)⟩)
  dsimp only [Pt.U, Pt.locs, Pt.cells, Pt.slots] at X38 l38 y38 z38 st38 hQ38
  replace y38 : k38 = 2 := y38
  replace z38 : n38 = 8 := z38
  subst l38 y38 z38
  obtain ⟨rfl, N38q, e38⟩ := hQ38
  have N38 := Fr.app N33 N38q
  obtain ⟨r99, hr99⟩ : ∃ z_q : Int32, z_q = (own_wn [(0 : Int32), d1, d2, d3] m11 v68 (1 : Int32)) := ⟨_, rfl⟩
  obtain ⟨cl39, Ar39, q39, S39, M39, H39, G39⟩ := id F34
  have hin39 : ¬ ((1 : Int32) < 0 ∨ cl39.slots.size ≤ ((1 : Int32)).toNatClampNeg) := inb_of S39 ⟨by decide, by decide⟩
  obtain ⟨T39, hX39, X39, e39, W39, st39⟩ := stZ X38 hx hZ e38 Ar39 (j := (1 : Int32)) hin39 (g := (mkF m 102 #[.val (.int sh), .val (.int kd), .val (.int ez), .val (.int pz), .val (.int m11), .val (.ref b3), .val (.int v68), .val (.ref b27), .unset, .unset, .unset, .unset, .unset] [(.int r99), (.int (1 : Int32)), (.ref b27)])) rfl rfl (hb hby at_102)
  have F40 : Arv Z hX39 b27 kx27 .boolean (4 : Int32) [(.int (nar .boolean r85)), (.int (nar .boolean r99)), (.int (0 : Int32)), (.int (0 : Int32))] (.int (0 : Int32)) := Arv.set Ar39 q39 S39 M39 H39 G39 (fits_nar_bool _) W39 1 rfl (Nat.le_of_ble_eq_true rfl)
  have N39 := Fr.snoc X39 N38 g_b27
  have F41 : Sta Z hX39 "java/util/ArrayList" "DEFAULTCAPACITY_EMPTY_ELEMENTDATA" "[Ljava/lang/Object;" (.ref dd) := F35.wr W39
  have F42 : own_ia Z hX39 b3 [(0 : Int32), d1, d2, d3] := F36.other W39 ne_b3_b27
  have Z43 : n0 ≤ hX39.size := Nat.le_trans Z37 (Keep.of_wr W39).1
  obtain ⟨_, _, ⟨T44, L44, k44, n44⟩, -, X44, ⟨Lc44, hQ44, l44, y44, z44⟩, st44⟩ := Jvm.LawKit.callS X39 hx (y := (⟨"com/example/twigmeter/twigmeter/workload/ReachBelowPinLaw", "wanted", "([IZII)Z"⟩ : MethodName)) hown (mvT hZ (hw _ (List.mem_of_getElem? (i := 3) rfl))) (mvT hZ (hw _ (List.mem_of_getElem? (i := 4) rfl))) (mvT hZ (hw _ (List.mem_of_getElem? (i := 5) rfl))) (mvT hZ (hw _ (List.mem_of_getElem? (i := 6) rfl))) (by decide) (backOf (W := 2) (rm1_2 l Z a0 hw [] b3 m11 v68 (2 : Int32) d1 d2 d3 hX39 n0 Z43 F42 he rfl) hZ (hw _ (List.mem_of_getElem? (i := 6) rfl)) (hw _ (List.mem_of_getElem? (i := 5) rfl)) (by decide) (by decide)) (g := (mkF m 113 #[.val (.int sh), .val (.int kd), .val (.int ez), .val (.int pz), .val (.int m11), .val (.ref b3), .val (.int v68), .val (.ref b27), .unset, .unset, .unset, .unset, .unset] [(.int (2 : Int32)), (.int v68), (.int m11), (.ref b3), (.int (2 : Int32)), (.ref b27)])) rfl (by rw [hml]; rfl) (argsL := [(.ref b3), (.int m11), (.int v68), (.int (2 : Int32))]) (rest := [(.int (2 : Int32)), (.ref b27)]) (lenOf pd_10 rfl) rfl (by show 2 * 0 + _ ≤ _; exact Nat.le_of_eq rfl) (hb hby at_113) (fun _ _ => ⟨rfl, e39, (by decide : 2 + 0 ≤ _), (by decide : 8 + 0 ≤ _)⟩)
  dsimp only [Pt.U, Pt.locs, Pt.cells, Pt.slots] at X44 l44 y44 z44 st44 hQ44
  replace y44 : k44 = 2 := y44
  replace z44 : n44 = 8 := z44
  subst l44 y44 z44
  obtain ⟨rfl, N44q, e44⟩ := hQ44
  have N44 := Fr.app N39 N44q
  obtain ⟨r113, hr113⟩ : ∃ z_q : Int32, z_q = (own_wn [(0 : Int32), d1, d2, d3] m11 v68 (2 : Int32)) := ⟨_, rfl⟩
  obtain ⟨cl45, Ar45, q45, S45, M45, H45, G45⟩ := id F40
  have hin45 : ¬ ((2 : Int32) < 0 ∨ cl45.slots.size ≤ ((2 : Int32)).toNatClampNeg) := inb_of S45 ⟨by decide, by decide⟩
  obtain ⟨T45, hX45, X45, e45, W45, st45⟩ := stZ X44 hx hZ e44 Ar45 (j := (2 : Int32)) hin45 (g := (mkF m 116 #[.val (.int sh), .val (.int kd), .val (.int ez), .val (.int pz), .val (.int m11), .val (.ref b3), .val (.int v68), .val (.ref b27), .unset, .unset, .unset, .unset, .unset] [(.int r113), (.int (2 : Int32)), (.ref b27)])) rfl rfl (hb hby at_116)
  have F46 : Arv Z hX45 b27 kx27 .boolean (4 : Int32) [(.int (nar .boolean r85)), (.int (nar .boolean r99)), (.int (nar .boolean r113)), (.int (0 : Int32))] (.int (0 : Int32)) := Arv.set Ar45 q45 S45 M45 H45 G45 (fits_nar_bool _) W45 2 rfl (Nat.le_of_ble_eq_true rfl)
  have N45 := Fr.snoc X45 N44 g_b27
  have F47 : Sta Z hX45 "java/util/ArrayList" "DEFAULTCAPACITY_EMPTY_ELEMENTDATA" "[Ljava/lang/Object;" (.ref dd) := F41.wr W45
  have F48 : own_ia Z hX45 b3 [(0 : Int32), d1, d2, d3] := F42.other W45 ne_b3_b27
  have Z49 : n0 ≤ hX45.size := Nat.le_trans Z43 (Keep.of_wr W45).1
  obtain ⟨_, _, ⟨T50, L50, k50, n50⟩, -, X50, ⟨Lc50, hQ50, l50, y50, z50⟩, st50⟩ := Jvm.LawKit.callS X45 hx (y := (⟨"com/example/twigmeter/twigmeter/workload/ReachBelowPinLaw", "wanted", "([IZII)Z"⟩ : MethodName)) hown (mvT hZ (hw _ (List.mem_of_getElem? (i := 3) rfl))) (mvT hZ (hw _ (List.mem_of_getElem? (i := 4) rfl))) (mvT hZ (hw _ (List.mem_of_getElem? (i := 5) rfl))) (mvT hZ (hw _ (List.mem_of_getElem? (i := 6) rfl))) (by decide) (backOf (W := 2) (rm1_3 l Z a0 hw [] b3 m11 v68 (3 : Int32) d1 d2 d3 hX45 n0 Z49 F48 he rfl) hZ (hw _ (List.mem_of_getElem? (i := 6) rfl)) (hw _ (List.mem_of_getElem? (i := 5) rfl)) (by decide) (by decide)) (g := (mkF m 127 #[.val (.int sh), .val (.int kd), .val (.int ez), .val (.int pz), .val (.int m11), .val (.ref b3), .val (.int v68), .val (.ref b27), .unset, .unset, .unset, .unset, .unset] [(.int (3 : Int32)), (.int v68), (.int m11), (.ref b3), (.int (3 : Int32)), (.ref b27)])) rfl (by rw [hml]; rfl) (argsL := [(.ref b3), (.int m11), (.int v68), (.int (3 : Int32))]) (rest := [(.int (3 : Int32)), (.ref b27)]) (lenOf pd_10 rfl) rfl (by show 2 * 0 + _ ≤ _; exact Nat.le_of_eq rfl) (hb hby at_127) (fun _ _ => ⟨rfl, e45, (by decide : 2 + 0 ≤ _), (by decide : 8 + 0 ≤ _)⟩)
  dsimp only [Pt.U, Pt.locs, Pt.cells, Pt.slots] at X50 l50 y50 z50 st50 hQ50
  replace y50 : k50 = 2 := y50
  replace z50 : n50 = 8 := z50
  subst l50 y50 z50
  obtain ⟨rfl, N50q, e50⟩ := hQ50
  have N50 := Fr.app N45 N50q
  obtain ⟨r127, hr127⟩ : ∃ z_q : Int32, z_q = (own_wn [(0 : Int32), d1, d2, d3] m11 v68 (3 : Int32)) := ⟨_, rfl⟩
  obtain ⟨cl51, Ar51, q51, S51, M51, H51, G51⟩ := id F46
  have hin51 : ¬ ((3 : Int32) < 0 ∨ cl51.slots.size ≤ ((3 : Int32)).toNatClampNeg) := inb_of S51 ⟨by decide, by decide⟩
  obtain ⟨T51, hX51, X51, e51, W51, st51⟩ := stZ X50 hx hZ e50 Ar51 (j := (3 : Int32)) hin51 (g := (mkF m 130 #[.val (.int sh), .val (.int kd), .val (.int ez), .val (.int pz), .val (.int m11), .val (.ref b3), .val (.int v68), .val (.ref b27), .unset, .unset, .unset, .unset, .unset] [(.int r127), (.int (3 : Int32)), (.ref b27)])) rfl rfl (hb hby at_130)
  have F52 : Arv Z hX51 b27 kx27 .boolean (4 : Int32) [(.int (nar .boolean r85)), (.int (nar .boolean r99)), (.int (nar .boolean r113)), (.int (nar .boolean r127))] (.int (0 : Int32)) := Arv.set Ar51 q51 S51 M51 H51 G51 (fits_nar_bool _) W51 3 rfl (Nat.le_of_ble_eq_true rfl)
  have N51 := Fr.snoc X51 N50 g_b27
  have F53 : Sta Z hX51 "java/util/ArrayList" "DEFAULTCAPACITY_EMPTY_ELEMENTDATA" "[Ljava/lang/Object;" (.ref dd) := F47.wr W51
  have F54 : own_ia Z hX51 b3 [(0 : Int32), d1, d2, d3] := F48.other W51 ne_b3_b27
  have Z55 : n0 ≤ hX51.size := Nat.le_trans Z49 (Keep.of_wr W51).1
  obtain ⟨cl56, Ar56, q56, S56, M56, H56, G56⟩ := id F52
  have hin56 : ¬ ((0 : Int32) < 0 ∨ cl56.slots.size ≤ ((0 : Int32)).toNatClampNeg) := inb_of S56 ⟨by decide, by decide⟩
  have hat56 : cl56.slots[((0 : Int32)).toNatClampNeg]? = some (.int (nar .boolean r85)) := Has.at H56 hin56 rfl
  obtain ⟨m143, hm143⟩ : ∃ z_q : Int32, z_q = (if (nar .boolean r85) = (0 : Int32) then (0 : Int32) else (1 : Int32)) := ⟨_, rfl⟩
  have pre58 : ∀ tq, Steps p.tables e below (T51.setTop (mkF m 143 #[.val (.int sh), .val (.int kd), .val (.int ez), .val (.int pz), .val (.int m11), .val (.ref b3), .val (.int v68), .val (.ref b27), .unset, .unset, .unset, .unset, .unset] [(.int m143)])) tq → Steps p.tables e below (s₁.setTop (entryFrame m #[(.int sh), (.int kd), (.int ez), (.int pz)] maxLocals)) tq := by
    intro tq kt
    refine pre2 _ ?_
    show Steps p.tables e below (s₁.setTop (mkF m 11 #[.val (.int sh), .val (.int kd), .val (.int ez), .val (.int pz), .unset, .unset, .unset, .unset, .unset, .unset, .unset, .unset, .unset] [(.int m11)])) _
    refine XS.istore X0.here hx rfl (hb hby at_11) rfl (l' := #[.val (.int sh), .val (.int kd), .val (.int ez), .val (.int pz), .val (.int m11), .unset, .unset, .unset, .unset, .unset, .unset, .unset, .unset]) rfl ?_
    refine XS.iconst X0.here hx rfl (hb hby at_13) ?_
    refine st3 _ ?_
    show Steps p.tables e below (T3.setTop (mkF m 16 #[.val (.int sh), .val (.int kd), .val (.int ez), .val (.int pz), .val (.int m11), .unset, .unset, .unset, .unset, .unset, .unset, .unset, .unset] [(.ref b3)])) _
    refine XS.astore X3.here hx rfl (hb hby at_16) rfl rfl (l' := #[.val (.int sh), .val (.int kd), .val (.int ez), .val (.int pz), .val (.int m11), .val (.ref b3), .unset, .unset, .unset, .unset, .unset, .unset, .unset]) rfl ?_
    refine XS.aload X3.here hx rfl (hb hby at_18) rfl rfl ?_
    refine XS.iconst X3.here hx rfl (hb hby at_20) ?_
    refine XS.iconst X3.here hx rfl (hb hby at_21) ?_
    refine st7 _ ?_
    show Steps p.tables e below (T7.setTop (mkF m 23 #[.val (.int sh), .val (.int kd), .val (.int ez), .val (.int pz), .val (.int m11), .val (.ref b3), .unset, .unset, .unset, .unset, .unset, .unset, .unset] [])) _
    refine XS.aload X7.here hx rfl (hb hby at_23) rfl rfl ?_
    refine XS.iconst X7.here hx rfl (hb hby at_25) ?_
    refine XS.iloadN X7.here hx rfl (hb hby at_26) rfl ?_
    refine XS.iconst X7.here hx rfl (hb hby at_27) ?_
    refine XS.iand X7.here hx rfl (hb hby at_28) rfl ?_
    show Steps p.tables e below (T7.setTop (mkF m 29 #[.val (.int sh), .val (.int kd), .val (.int ez), .val (.int pz), .val (.int m11), .val (.ref b3), .unset, .unset, .unset, .unset, .unset, .unset, .unset] [(.int (sh &&& (1 : Int32))), (.int (1 : Int32)), (.ref b3)])) _
    rw [← hd1]
    show Steps p.tables e below (T7.setTop (mkF m 29 #[.val (.int sh), .val (.int kd), .val (.int ez), .val (.int pz), .val (.int m11), .val (.ref b3), .unset, .unset, .unset, .unset, .unset, .unset, .unset] [(.int d1), (.int (1 : Int32)), (.ref b3)])) _
    refine st11 _ ?_
    show Steps p.tables e below (T11.setTop (mkF m 30 #[.val (.int sh), .val (.int kd), .val (.int ez), .val (.int pz), .val (.int m11), .val (.ref b3), .unset, .unset, .unset, .unset, .unset, .unset, .unset] [])) _
    refine XS.aload X11.here hx rfl (hb hby at_30) rfl rfl ?_
    refine XS.iconst X11.here hx rfl (hb hby at_32) ?_
    refine XS.iloadN X11.here hx rfl (hb hby at_33) rfl ?_
    refine XS.iconst X11.here hx rfl (hb hby at_34) ?_
    refine XS.iushr X11.here hx rfl (hb hby at_35) rfl ?_
    refine XS.iconst X11.here hx rfl (hb hby at_36) ?_
    show Steps p.tables e below (T11.setTop (mkF m 37 #[.val (.int sh), .val (.int kd), .val (.int ez), .val (.int pz), .val (.int m11), .val (.ref b3), .unset, .unset, .unset, .unset, .unset, .unset, .unset] [(.int (3 : Int32)), (.int ((sh.toUInt32 >>> ((1 : Int32) &&& 31).toUInt32).toInt32)), (.int (2 : Int32)), (.ref b3)])) _
    refine XS.iand X11.here hx rfl (hb hby at_37) rfl ?_
    refine XS.aload X11.here hx rfl (hb hby at_38) rfl rfl ?_
    refine XS.iconst X11.here hx rfl (hb hby at_40) ?_
    refine X11.iaload hx (j := (1 : Int32)) (v := (.int d1)) (heq_of e11 Ar15.1) (State.isArrayOf_alike hZ.alike Ar15.2.1) Ar15.2.2 hin15 hat15 (g := (mkF m 41 #[.val (.int sh), .val (.int kd), .val (.int ez), .val (.int pz), .val (.int m11), .val (.ref b3), .unset, .unset, .unset, .unset, .unset, .unset, .unset] [(.int (1 : Int32)), (.ref b3), (.int (((sh.toUInt32 >>> ((1 : Int32) &&& 31).toUInt32).toInt32) &&& (3 : Int32))), (.int (2 : Int32)), (.ref b3)])) rfl rfl (hb hby at_41) _ ?_
    show Steps p.tables e below (T11.setTop (mkF m 42 #[.val (.int sh), .val (.int kd), .val (.int ez), .val (.int pz), .val (.int m11), .val (.ref b3), .unset, .unset, .unset, .unset, .unset, .unset, .unset] [(.int d1), (.int (((sh.toUInt32 >>> ((1 : Int32) &&& 31).toUInt32).toInt32) &&& (3 : Int32))), (.int (2 : Int32)), (.ref b3)])) _
    refine XS.iconst X11.here hx rfl (hb hby at_42) ?_
    refine XS.iadd X11.here hx rfl (hb hby at_43) rfl ?_
    show Steps p.tables e below (T11.setTop (mkF m 44 #[.val (.int sh), .val (.int kd), .val (.int ez), .val (.int pz), .val (.int m11), .val (.ref b3), .unset, .unset, .unset, .unset, .unset, .unset, .unset] [(.int (d1 + (2 : Int32))), (.int (((sh.toUInt32 >>> ((1 : Int32) &&& 31).toUInt32).toInt32) &&& (3 : Int32))), (.int (2 : Int32)), (.ref b3)])) _
    refine iremM X11 hx rfl (hb hby at_44) rfl hnz44_16 ?_
    show Steps p.tables e below (T11.setTop (mkF m 45 #[.val (.int sh), .val (.int kd), .val (.int ez), .val (.int pz), .val (.int m11), .val (.ref b3), .unset, .unset, .unset, .unset, .unset, .unset, .unset] [(.int ((((sh.toUInt32 >>> ((1 : Int32) &&& 31).toUInt32).toInt32) &&& (3 : Int32)) % (d1 + (2 : Int32)))), (.int (2 : Int32)), (.ref b3)])) _
    rw [← hd2]
    show Steps p.tables e below (T11.setTop (mkF m 45 #[.val (.int sh), .val (.int kd), .val (.int ez), .val (.int pz), .val (.int m11), .val (.ref b3), .unset, .unset, .unset, .unset, .unset, .unset, .unset] [(.int d2), (.int (2 : Int32)), (.ref b3)])) _
    refine st17 _ ?_
    show Steps p.tables e below (T17.setTop (mkF m 46 #[.val (.int sh), .val (.int kd), .val (.int ez), .val (.int pz), .val (.int m11), .val (.ref b3), .unset, .unset, .unset, .unset, .unset, .unset, .unset] [])) _
    refine XS.aload X17.here hx rfl (hb hby at_46) rfl rfl ?_
    refine XS.iconst X17.here hx rfl (hb hby at_48) ?_
    refine XS.iloadN X17.here hx rfl (hb hby at_49) rfl ?_
    refine XS.iconst X17.here hx rfl (hb hby at_50) ?_
    refine XS.iushr X17.here hx rfl (hb hby at_51) rfl ?_
    refine XS.iconst X17.here hx rfl (hb hby at_52) ?_
    show Steps p.tables e below (T17.setTop (mkF m 53 #[.val (.int sh), .val (.int kd), .val (.int ez), .val (.int pz), .val (.int m11), .val (.ref b3), .unset, .unset, .unset, .unset, .unset, .unset, .unset] [(.int (3 : Int32)), (.int ((sh.toUInt32 >>> ((3 : Int32) &&& 31).toUInt32).toInt32)), (.int (3 : Int32)), (.ref b3)])) _
    refine XS.iand X17.here hx rfl (hb hby at_53) rfl ?_
    refine XS.aload X17.here hx rfl (hb hby at_54) rfl rfl ?_
    refine XS.iconst X17.here hx rfl (hb hby at_56) ?_
    refine X17.iaload hx (j := (2 : Int32)) (v := (.int d2)) (heq_of e17 Ar21.1) (State.isArrayOf_alike hZ.alike Ar21.2.1) Ar21.2.2 hin21 hat21 (g := (mkF m 57 #[.val (.int sh), .val (.int kd), .val (.int ez), .val (.int pz), .val (.int m11), .val (.ref b3), .unset, .unset, .unset, .unset, .unset, .unset, .unset] [(.int (2 : Int32)), (.ref b3), (.int (((sh.toUInt32 >>> ((3 : Int32) &&& 31).toUInt32).toInt32) &&& (3 : Int32))), (.int (3 : Int32)), (.ref b3)])) rfl rfl (hb hby at_57) _ ?_
    show Steps p.tables e below (T17.setTop (mkF m 58 #[.val (.int sh), .val (.int kd), .val (.int ez), .val (.int pz), .val (.int m11), .val (.ref b3), .unset, .unset, .unset, .unset, .unset, .unset, .unset] [(.int d2), (.int (((sh.toUInt32 >>> ((3 : Int32) &&& 31).toUInt32).toInt32) &&& (3 : Int32))), (.int (3 : Int32)), (.ref b3)])) _
    refine XS.iconst X17.here hx rfl (hb hby at_58) ?_
    refine XS.iadd X17.here hx rfl (hb hby at_59) rfl ?_
    show Steps p.tables e below (T17.setTop (mkF m 60 #[.val (.int sh), .val (.int kd), .val (.int ez), .val (.int pz), .val (.int m11), .val (.ref b3), .unset, .unset, .unset, .unset, .unset, .unset, .unset] [(.int (d2 + (2 : Int32))), (.int (((sh.toUInt32 >>> ((3 : Int32) &&& 31).toUInt32).toInt32) &&& (3 : Int32))), (.int (3 : Int32)), (.ref b3)])) _
    refine iremM X17 hx rfl (hb hby at_60) rfl hnz60_22 ?_
    show Steps p.tables e below (T17.setTop (mkF m 61 #[.val (.int sh), .val (.int kd), .val (.int ez), .val (.int pz), .val (.int m11), .val (.ref b3), .unset, .unset, .unset, .unset, .unset, .unset, .unset] [(.int ((((sh.toUInt32 >>> ((3 : Int32) &&& 31).toUInt32).toInt32) &&& (3 : Int32)) % (d2 + (2 : Int32)))), (.int (3 : Int32)), (.ref b3)])) _
    rw [← hd3]
    show Steps p.tables e below (T17.setTop (mkF m 61 #[.val (.int sh), .val (.int kd), .val (.int ez), .val (.int pz), .val (.int m11), .val (.ref b3), .unset, .unset, .unset, .unset, .unset, .unset, .unset] [(.int d3), (.int (3 : Int32)), (.ref b3)])) _
    refine st23 _ ?_
    show Steps p.tables e below (T23.setTop (mkF m 62 #[.val (.int sh), .val (.int kd), .val (.int ez), .val (.int pz), .val (.int m11), .val (.ref b3), .unset, .unset, .unset, .unset, .unset, .unset, .unset] [])) _
    refine XS.iloadN X23.here hx rfl (hb hby at_62) rfl ?_
    refine X23.ldcInt hx hown (mvT hZ (hw _ (List.mem_of_getElem? (i := 1) rfl))) (g := (mkF m 63 #[.val (.int sh), .val (.int kd), .val (.int ez), .val (.int pz), .val (.int m11), .val (.ref b3), .unset, .unset, .unset, .unset, .unset, .unset, .unset] [(.int ez)])) rfl (hb hby at_63) _ ?_
    show Steps p.tables e below (T23.setTop (mkF m 65 #[.val (.int sh), .val (.int kd), .val (.int ez), .val (.int pz), .val (.int m11), .val (.ref b3), .unset, .unset, .unset, .unset, .unset, .unset, .unset] [(.int (2147483647 : Int32)), (.int ez)])) _
    refine XS.iand X23.here hx rfl (hb hby at_65) rfl ?_
    refine XS.iconst X23.here hx rfl (hb hby at_66) ?_
    show Steps p.tables e below (T23.setTop (mkF m 67 #[.val (.int sh), .val (.int kd), .val (.int ez), .val (.int pz), .val (.int m11), .val (.ref b3), .unset, .unset, .unset, .unset, .unset, .unset, .unset] [(.int (4 : Int32)), (.int (ez &&& (2147483647 : Int32)))])) _
    refine iremM X23 hx rfl (hb hby at_67) rfl (by decide : ¬ ((4 : Int32) = (0 : Int32))) ?_
    show Steps p.tables e below (T23.setTop (mkF m 68 #[.val (.int sh), .val (.int kd), .val (.int ez), .val (.int pz), .val (.int m11), .val (.ref b3), .unset, .unset, .unset, .unset, .unset, .unset, .unset] [(.int ((ez &&& (2147483647 : Int32)) % (4 : Int32)))])) _
    refine XS.istore X23.here hx rfl (hb hby at_68) rfl (l' := #[.val (.int sh), .val (.int kd), .val (.int ez), .val (.int pz), .val (.int m11), .val (.ref b3), .val (.int v68), .unset, .unset, .unset, .unset, .unset, .unset]) (by rw [hv68]; rfl) ?_
    refine XS.iconst X23.here hx rfl (hb hby at_70) ?_
    refine st27 _ ?_
    show Steps p.tables e below (T27.setTop (mkF m 73 #[.val (.int sh), .val (.int kd), .val (.int ez), .val (.int pz), .val (.int m11), .val (.ref b3), .val (.int v68), .unset, .unset, .unset, .unset, .unset, .unset] [(.ref b27)])) _
    refine XS.astore X27.here hx rfl (hb hby at_73) rfl rfl (l' := #[.val (.int sh), .val (.int kd), .val (.int ez), .val (.int pz), .val (.int m11), .val (.ref b3), .val (.int v68), .val (.ref b27), .unset, .unset, .unset, .unset, .unset]) rfl ?_
    refine XS.aload X27.here hx rfl (hb hby at_75) rfl rfl ?_
    refine XS.iconst X27.here hx rfl (hb hby at_77) ?_
    refine XS.aload X27.here hx rfl (hb hby at_78) rfl rfl ?_
    refine XS.iload X27.here hx rfl (hb hby at_80) rfl ?_
    refine XS.iload X27.here hx rfl (hb hby at_82) rfl ?_
    show Steps p.tables e below (T27.setTop (mkF m 84 #[.val (.int sh), .val (.int kd), .val (.int ez), .val (.int pz), .val (.int m11), .val (.ref b3), .val (.int v68), .val (.ref b27), .unset, .unset, .unset, .unset, .unset] [(.int v68), (.int m11), (.ref b3), (.int (0 : Int32)), (.ref b27)])) _
    refine XS.iconst X27.here hx rfl (hb hby at_84) ?_
    refine st32 _ ?_
    show Steps p.tables e below (T32.setTop (mkF m 88 #[.val (.int sh), .val (.int kd), .val (.int ez), .val (.int pz), .val (.int m11), .val (.ref b3), .val (.int v68), .val (.ref b27), .unset, .unset, .unset, .unset, .unset] [(.int (own_wn [(0 : Int32), d1, d2, d3] m11 v68 (0 : Int32))), (.int (0 : Int32)), (.ref b27)])) _
    rw [← hr85]
    show Steps p.tables e below (T32.setTop (mkF m 88 #[.val (.int sh), .val (.int kd), .val (.int ez), .val (.int pz), .val (.int m11), .val (.ref b3), .val (.int v68), .val (.ref b27), .unset, .unset, .unset, .unset, .unset] [(.int r85), (.int (0 : Int32)), (.ref b27)])) _
    refine st33 _ ?_
    show Steps p.tables e below (T33.setTop (mkF m 89 #[.val (.int sh), .val (.int kd), .val (.int ez), .val (.int pz), .val (.int m11), .val (.ref b3), .val (.int v68), .val (.ref b27), .unset, .unset, .unset, .unset, .unset] [])) _
    refine XS.aload X33.here hx rfl (hb hby at_89) rfl rfl ?_
    refine XS.iconst X33.here hx rfl (hb hby at_91) ?_
    refine XS.aload X33.here hx rfl (hb hby at_92) rfl rfl ?_
    refine XS.iload X33.here hx rfl (hb hby at_94) rfl ?_
    refine XS.iload X33.here hx rfl (hb hby at_96) rfl ?_
    refine XS.iconst X33.here hx rfl (hb hby at_98) ?_
    show Steps p.tables e below (T33.setTop (mkF m 99 #[.val (.int sh), .val (.int kd), .val (.int ez), .val (.int pz), .val (.int m11), .val (.ref b3), .val (.int v68), .val (.ref b27), .unset, .unset, .unset, .unset, .unset] [(.int (1 : Int32)), (.int v68), (.int m11), (.ref b3), (.int (1 : Int32)), (.ref b27)])) _
    refine st38 _ ?_
    show Steps p.tables e below (T38.setTop (mkF m 102 #[.val (.int sh), .val (.int kd), .val (.int ez), .val (.int pz), .val (.int m11), .val (.ref b3), .val (.int v68), .val (.ref b27), .unset, .unset, .unset, .unset, .unset] [(.int (own_wn [(0 : Int32), d1, d2, d3] m11 v68 (1 : Int32))), (.int (1 : Int32)), (.ref b27)])) _
    rw [← hr99]
    show Steps p.tables e below (T38.setTop (mkF m 102 #[.val (.int sh), .val (.int kd), .val (.int ez), .val (.int pz), .val (.int m11), .val (.ref b3), .val (.int v68), .val (.ref b27), .unset, .unset, .unset, .unset, .unset] [(.int r99), (.int (1 : Int32)), (.ref b27)])) _
    refine st39 _ ?_
    show Steps p.tables e below (T39.setTop (mkF m 103 #[.val (.int sh), .val (.int kd), .val (.int ez), .val (.int pz), .val (.int m11), .val (.ref b3), .val (.int v68), .val (.ref b27), .unset, .unset, .unset, .unset, .unset] [])) _
    refine XS.aload X39.here hx rfl (hb hby at_103) rfl rfl ?_
    refine XS.iconst X39.here hx rfl (hb hby at_105) ?_
    refine XS.aload X39.here hx rfl (hb hby at_106) rfl rfl ?_
    refine XS.iload X39.here hx rfl (hb hby at_108) rfl ?_
    refine XS.iload X39.here hx rfl (hb hby at_110) rfl ?_
    refine XS.iconst X39.here hx rfl (hb hby at_112) ?_
    show Steps p.tables e below (T39.setTop (mkF m 113 #[.val (.int sh), .val (.int kd), .val (.int ez), .val (.int pz), .val (.int m11), .val (.ref b3), .val (.int v68), .val (.ref b27), .unset, .unset, .unset, .unset, .unset] [(.int (2 : Int32)), (.int v68), (.int m11), (.ref b3), (.int (2 : Int32)), (.ref b27)])) _
    refine st44 _ ?_
    show Steps p.tables e below (T44.setTop (mkF m 116 #[.val (.int sh), .val (.int kd), .val (.int ez), .val (.int pz), .val (.int m11), .val (.ref b3), .val (.int v68), .val (.ref b27), .unset, .unset, .unset, .unset, .unset] [(.int (own_wn [(0 : Int32), d1, d2, d3] m11 v68 (2 : Int32))), (.int (2 : Int32)), (.ref b27)])) _
    rw [← hr113]
    show Steps p.tables e below (T44.setTop (mkF m 116 #[.val (.int sh), .val (.int kd), .val (.int ez), .val (.int pz), .val (.int m11), .val (.ref b3), .val (.int v68), .val (.ref b27), .unset, .unset, .unset, .unset, .unset] [(.int r113), (.int (2 : Int32)), (.ref b27)])) _
    refine st45 _ ?_
    show Steps p.tables e below (T45.setTop (mkF m 117 #[.val (.int sh), .val (.int kd), .val (.int ez), .val (.int pz), .val (.int m11), .val (.ref b3), .val (.int v68), .val (.ref b27), .unset, .unset, .unset, .unset, .unset] [])) _
    refine XS.aload X45.here hx rfl (hb hby at_117) rfl rfl ?_
    refine XS.iconst X45.here hx rfl (hb hby at_119) ?_
    refine XS.aload X45.here hx rfl (hb hby at_120) rfl rfl ?_
    refine XS.iload X45.here hx rfl (hb hby at_122) rfl ?_
    refine XS.iload X45.here hx rfl (hb hby at_124) rfl ?_
    refine XS.iconst X45.here hx rfl (hb hby at_126) ?_
    show Steps p.tables e below (T45.setTop (mkF m 127 #[.val (.int sh), .val (.int kd), .val (.int ez), .val (.int pz), .val (.int m11), .val (.ref b3), .val (.int v68), .val (.ref b27), .unset, .unset, .unset, .unset, .unset] [(.int (3 : Int32)), (.int v68), (.int m11), (.ref b3), (.int (3 : Int32)), (.ref b27)])) _
    refine st50 _ ?_
    show Steps p.tables e below (T50.setTop (mkF m 130 #[.val (.int sh), .val (.int kd), .val (.int ez), .val (.int pz), .val (.int m11), .val (.ref b3), .val (.int v68), .val (.ref b27), .unset, .unset, .unset, .unset, .unset] [(.int (own_wn [(0 : Int32), d1, d2, d3] m11 v68 (3 : Int32))), (.int (3 : Int32)), (.ref b27)])) _
    rw [← hr127]
    show Steps p.tables e below (T50.setTop (mkF m 130 #[.val (.int sh), .val (.int kd), .val (.int ez), .val (.int pz), .val (.int m11), .val (.ref b3), .val (.int v68), .val (.ref b27), .unset, .unset, .unset, .unset, .unset] [(.int r127), (.int (3 : Int32)), (.ref b27)])) _
    refine st51 _ ?_
    show Steps p.tables e below (T51.setTop (mkF m 131 #[.val (.int sh), .val (.int kd), .val (.int ez), .val (.int pz), .val (.int m11), .val (.ref b3), .val (.int v68), .val (.ref b27), .unset, .unset, .unset, .unset, .unset] [])) _
    refine XS.aload X51.here hx rfl (hb hby at_131) rfl rfl ?_
    refine XS.iconst X51.here hx rfl (hb hby at_133) ?_
    refine X51.baloadBooleans hx (j := (0 : Int32)) (v := (.int (nar .boolean r85))) (heq_of e51 Ar56.1) (State.isArrayOf_alike hZ.alike Ar56.2.1) Ar56.2.2 hin56 hat56 (g := (mkF m 134 #[.val (.int sh), .val (.int kd), .val (.int ez), .val (.int pz), .val (.int m11), .val (.ref b3), .val (.int v68), .val (.ref b27), .unset, .unset, .unset, .unset, .unset] [(.int (0 : Int32)), (.ref b27)])) rfl rfl (hb hby at_134) _ ?_
    by_cases d57 : (nar .boolean r85) = (0 : Int32)
    · skip
      show Steps p.tables e below (T51.setTop (mkF m 135 #[.val (.int sh), .val (.int kd), .val (.int ez), .val (.int pz), .val (.int m11), .val (.ref b3), .val (.int v68), .val (.ref b27), .unset, .unset, .unset, .unset, .unset] [(.int (nar .boolean r85))])) _
      refine XS.ifYes X51.here hx rfl (pc0 := 135) (pc' := 142) rfl (hb hby at_135) rfl ((if0 _ _).trans (teq d57).1) (by decide) (by decide) ?_
      refine XS.iconst X51.here hx rfl (hb hby at_142) ?_
      show Steps p.tables e below (T51.setTop (mkF m 143 #[.val (.int sh), .val (.int kd), .val (.int ez), .val (.int pz), .val (.int m11), .val (.ref b3), .val (.int v68), .val (.ref b27), .unset, .unset, .unset, .unset, .unset] [(.int (0 : Int32))])) _
      exact castTop (by simp only [hm143, if_pos d57]) kt
    · skip
      show Steps p.tables e below (T51.setTop (mkF m 135 #[.val (.int sh), .val (.int kd), .val (.int ez), .val (.int pz), .val (.int m11), .val (.ref b3), .val (.int v68), .val (.ref b27), .unset, .unset, .unset, .unset, .unset] [(.int (nar .boolean r85))])) _
      refine XS.ifNo X51.here hx rfl (hb hby at_135) rfl ((if0 _ _).trans (feq d57).1) ?_
      refine XS.iconst X51.here hx rfl (hb hby at_138) ?_
      refine XS.goto X51.here hx rfl (pc0 := 139) (pc' := 143) rfl (hb hby at_139) (by decide) (by decide) ?_
      show Steps p.tables e below (T51.setTop (mkF m 143 #[.val (.int sh), .val (.int kd), .val (.int ez), .val (.int pz), .val (.int m11), .val (.ref b3), .val (.int v68), .val (.ref b27), .unset, .unset, .unset, .unset, .unset] [(.int (1 : Int32))])) _
      exact castTop (by simp only [hm143, if_neg d57]) kt
  obtain ⟨cl59, Ar59, q59, S59, M59, H59, G59⟩ := id F52
  have hin59 : ¬ ((1 : Int32) < 0 ∨ cl59.slots.size ≤ ((1 : Int32)).toNatClampNeg) := inb_of S59 ⟨by decide, by decide⟩
  have hat59 : cl59.slots[((1 : Int32)).toNatClampNeg]? = some (.int (nar .boolean r99)) := Has.at H59 hin59 rfl
  obtain ⟨m155, hm155⟩ : ∃ z_q : Int32, z_q = (if (nar .boolean r99) = (0 : Int32) then (0 : Int32) else (1 : Int32)) := ⟨_, rfl⟩
  have pre61 : ∀ tq, Steps p.tables e below (T51.setTop (mkF m 155 #[.val (.int sh), .val (.int kd), .val (.int ez), .val (.int pz), .val (.int m11), .val (.ref b3), .val (.int v68), .val (.ref b27), .unset, .unset, .unset, .unset, .unset] [(.int m155), (.int m143)])) tq → Steps p.tables e below (s₁.setTop (entryFrame m #[(.int sh), (.int kd), (.int ez), (.int pz)] maxLocals)) tq := by
    intro tq kt
    refine pre58 _ ?_
    show Steps p.tables e below (T51.setTop (mkF m 143 #[.val (.int sh), .val (.int kd), .val (.int ez), .val (.int pz), .val (.int m11), .val (.ref b3), .val (.int v68), .val (.ref b27), .unset, .unset, .unset, .unset, .unset] [(.int m143)])) _
    refine XS.aload X51.here hx rfl (hb hby at_143) rfl rfl ?_
    refine XS.iconst X51.here hx rfl (hb hby at_145) ?_
    refine X51.baloadBooleans hx (j := (1 : Int32)) (v := (.int (nar .boolean r99))) (heq_of e51 Ar59.1) (State.isArrayOf_alike hZ.alike Ar59.2.1) Ar59.2.2 hin59 hat59 (g := (mkF m 146 #[.val (.int sh), .val (.int kd), .val (.int ez), .val (.int pz), .val (.int m11), .val (.ref b3), .val (.int v68), .val (.ref b27), .unset, .unset, .unset, .unset, .unset] [(.int (1 : Int32)), (.ref b27), (.int m143)])) rfl rfl (hb hby at_146) _ ?_
    by_cases d60 : (nar .boolean r99) = (0 : Int32)
    · skip
      show Steps p.tables e below (T51.setTop (mkF m 147 #[.val (.int sh), .val (.int kd), .val (.int ez), .val (.int pz), .val (.int m11), .val (.ref b3), .val (.int v68), .val (.ref b27), .unset, .unset, .unset, .unset, .unset] [(.int (nar .boolean r99)), (.int m143)])) _
      refine XS.ifYes X51.here hx rfl (pc0 := 147) (pc' := 154) rfl (hb hby at_147) rfl ((if0 _ _).trans (teq d60).1) (by decide) (by decide) ?_
      refine XS.iconst X51.here hx rfl (hb hby at_154) ?_
      show Steps p.tables e below (T51.setTop (mkF m 155 #[.val (.int sh), .val (.int kd), .val (.int ez), .val (.int pz), .val (.int m11), .val (.ref b3), .val (.int v68), .val (.ref b27), .unset, .unset, .unset, .unset, .unset] [(.int (0 : Int32)), (.int m143)])) _
      exact castTop (by simp only [hm155, if_pos d60]) kt
    · skip
      show Steps p.tables e below (T51.setTop (mkF m 147 #[.val (.int sh), .val (.int kd), .val (.int ez), .val (.int pz), .val (.int m11), .val (.ref b3), .val (.int v68), .val (.ref b27), .unset, .unset, .unset, .unset, .unset] [(.int (nar .boolean r99)), (.int m143)])) _
      refine XS.ifNo X51.here hx rfl (hb hby at_147) rfl ((if0 _ _).trans (feq d60).1) ?_
      refine XS.iconst X51.here hx rfl (hb hby at_150) ?_
      refine XS.goto X51.here hx rfl (pc0 := 151) (pc' := 155) rfl (hb hby at_151) (by decide) (by decide) ?_
      show Steps p.tables e below (T51.setTop (mkF m 155 #[.val (.int sh), .val (.int kd), .val (.int ez), .val (.int pz), .val (.int m11), .val (.ref b3), .val (.int v68), .val (.ref b27), .unset, .unset, .unset, .unset, .unset] [(.int (1 : Int32)), (.int m143)])) _
      exact castTop (by simp only [hm155, if_neg d60]) kt
  obtain ⟨cl62, Ar62, q62, S62, M62, H62, G62⟩ := id F52
  have hin62 : ¬ ((2 : Int32) < 0 ∨ cl62.slots.size ≤ ((2 : Int32)).toNatClampNeg) := inb_of S62 ⟨by decide, by decide⟩
  have hat62 : cl62.slots[((2 : Int32)).toNatClampNeg]? = some (.int (nar .boolean r113)) := Has.at H62 hin62 rfl
  obtain ⟨m168, hm168⟩ : ∃ z_q : Int32, z_q = (if (nar .boolean r113) = (0 : Int32) then (0 : Int32) else (1 : Int32)) := ⟨_, rfl⟩
  have pre64 : ∀ tq, Steps p.tables e below (T51.setTop (mkF m 168 #[.val (.int sh), .val (.int kd), .val (.int ez), .val (.int pz), .val (.int m11), .val (.ref b3), .val (.int v68), .val (.ref b27), .unset, .unset, .unset, .unset, .unset] [(.int m168), (.int (m143 + m155))])) tq → Steps p.tables e below (s₁.setTop (entryFrame m #[(.int sh), (.int kd), (.int ez), (.int pz)] maxLocals)) tq := by
    intro tq kt
    refine pre61 _ ?_
    show Steps p.tables e below (T51.setTop (mkF m 155 #[.val (.int sh), .val (.int kd), .val (.int ez), .val (.int pz), .val (.int m11), .val (.ref b3), .val (.int v68), .val (.ref b27), .unset, .unset, .unset, .unset, .unset] [(.int m155), (.int m143)])) _
    refine XS.iadd X51.here hx rfl (hb hby at_155) rfl ?_
    refine XS.aload X51.here hx rfl (hb hby at_156) rfl rfl ?_
    refine XS.iconst X51.here hx rfl (hb hby at_158) ?_
    refine X51.baloadBooleans hx (j := (2 : Int32)) (v := (.int (nar .boolean r113))) (heq_of e51 Ar62.1) (State.isArrayOf_alike hZ.alike Ar62.2.1) Ar62.2.2 hin62 hat62 (g := (mkF m 159 #[.val (.int sh), .val (.int kd), .val (.int ez), .val (.int pz), .val (.int m11), .val (.ref b3), .val (.int v68), .val (.ref b27), .unset, .unset, .unset, .unset, .unset] [(.int (2 : Int32)), (.ref b27), (.int (m143 + m155))])) rfl rfl (hb hby at_159) _ ?_
    by_cases d63 : (nar .boolean r113) = (0 : Int32)
    · skip
      show Steps p.tables e below (T51.setTop (mkF m 160 #[.val (.int sh), .val (.int kd), .val (.int ez), .val (.int pz), .val (.int m11), .val (.ref b3), .val (.int v68), .val (.ref b27), .unset, .unset, .unset, .unset, .unset] [(.int (nar .boolean r113)), (.int (m143 + m155))])) _
      refine XS.ifYes X51.here hx rfl (pc0 := 160) (pc' := 167) rfl (hb hby at_160) rfl ((if0 _ _).trans (teq d63).1) (by decide) (by decide) ?_
      refine XS.iconst X51.here hx rfl (hb hby at_167) ?_
      show Steps p.tables e below (T51.setTop (mkF m 168 #[.val (.int sh), .val (.int kd), .val (.int ez), .val (.int pz), .val (.int m11), .val (.ref b3), .val (.int v68), .val (.ref b27), .unset, .unset, .unset, .unset, .unset] [(.int (0 : Int32)), (.int (m143 + m155))])) _
      exact castTop (by simp only [hm168, if_pos d63]) kt
    · skip
      show Steps p.tables e below (T51.setTop (mkF m 160 #[.val (.int sh), .val (.int kd), .val (.int ez), .val (.int pz), .val (.int m11), .val (.ref b3), .val (.int v68), .val (.ref b27), .unset, .unset, .unset, .unset, .unset] [(.int (nar .boolean r113)), (.int (m143 + m155))])) _
      refine XS.ifNo X51.here hx rfl (hb hby at_160) rfl ((if0 _ _).trans (feq d63).1) ?_
      refine XS.iconst X51.here hx rfl (hb hby at_163) ?_
      refine XS.goto X51.here hx rfl (pc0 := 164) (pc' := 168) rfl (hb hby at_164) (by decide) (by decide) ?_
      show Steps p.tables e below (T51.setTop (mkF m 168 #[.val (.int sh), .val (.int kd), .val (.int ez), .val (.int pz), .val (.int m11), .val (.ref b3), .val (.int v68), .val (.ref b27), .unset, .unset, .unset, .unset, .unset] [(.int (1 : Int32)), (.int (m143 + m155))])) _
      exact castTop (by simp only [hm168, if_neg d63]) kt
  obtain ⟨cl65, Ar65, q65, S65, M65, H65, G65⟩ := id F52
  have hin65 : ¬ ((3 : Int32) < 0 ∨ cl65.slots.size ≤ ((3 : Int32)).toNatClampNeg) := inb_of S65 ⟨by decide, by decide⟩
  have hat65 : cl65.slots[((3 : Int32)).toNatClampNeg]? = some (.int (nar .boolean r127)) := Has.at H65 hin65 rfl
  obtain ⟨m181, hm181⟩ : ∃ z_q : Int32, z_q = (if (nar .boolean r127) = (0 : Int32) then (0 : Int32) else (1 : Int32)) := ⟨_, rfl⟩
  have pre67 : ∀ tq, Steps p.tables e below (T51.setTop (mkF m 181 #[.val (.int sh), .val (.int kd), .val (.int ez), .val (.int pz), .val (.int m11), .val (.ref b3), .val (.int v68), .val (.ref b27), .unset, .unset, .unset, .unset, .unset] [(.int m181), (.int ((m143 + m155) + m168))])) tq → Steps p.tables e below (s₁.setTop (entryFrame m #[(.int sh), (.int kd), (.int ez), (.int pz)] maxLocals)) tq := by
    intro tq kt
    refine pre64 _ ?_
    show Steps p.tables e below (T51.setTop (mkF m 168 #[.val (.int sh), .val (.int kd), .val (.int ez), .val (.int pz), .val (.int m11), .val (.ref b3), .val (.int v68), .val (.ref b27), .unset, .unset, .unset, .unset, .unset] [(.int m168), (.int (m143 + m155))])) _
    refine XS.iadd X51.here hx rfl (hb hby at_168) rfl ?_
    refine XS.aload X51.here hx rfl (hb hby at_169) rfl rfl ?_
    refine XS.iconst X51.here hx rfl (hb hby at_171) ?_
    refine X51.baloadBooleans hx (j := (3 : Int32)) (v := (.int (nar .boolean r127))) (heq_of e51 Ar65.1) (State.isArrayOf_alike hZ.alike Ar65.2.1) Ar65.2.2 hin65 hat65 (g := (mkF m 172 #[.val (.int sh), .val (.int kd), .val (.int ez), .val (.int pz), .val (.int m11), .val (.ref b3), .val (.int v68), .val (.ref b27), .unset, .unset, .unset, .unset, .unset] [(.int (3 : Int32)), (.ref b27), (.int ((m143 + m155) + m168))])) rfl rfl (hb hby at_172) _ ?_
    by_cases d66 : (nar .boolean r127) = (0 : Int32)
    · skip
      show Steps p.tables e below (T51.setTop (mkF m 173 #[.val (.int sh), .val (.int kd), .val (.int ez), .val (.int pz), .val (.int m11), .val (.ref b3), .val (.int v68), .val (.ref b27), .unset, .unset, .unset, .unset, .unset] [(.int (nar .boolean r127)), (.int ((m143 + m155) + m168))])) _
      refine XS.ifYes X51.here hx rfl (pc0 := 173) (pc' := 180) rfl (hb hby at_173) rfl ((if0 _ _).trans (teq d66).1) (by decide) (by decide) ?_
      refine XS.iconst X51.here hx rfl (hb hby at_180) ?_
      show Steps p.tables e below (T51.setTop (mkF m 181 #[.val (.int sh), .val (.int kd), .val (.int ez), .val (.int pz), .val (.int m11), .val (.ref b3), .val (.int v68), .val (.ref b27), .unset, .unset, .unset, .unset, .unset] [(.int (0 : Int32)), (.int ((m143 + m155) + m168))])) _
      exact castTop (by simp only [hm181, if_pos d66]) kt
    · skip
      show Steps p.tables e below (T51.setTop (mkF m 173 #[.val (.int sh), .val (.int kd), .val (.int ez), .val (.int pz), .val (.int m11), .val (.ref b3), .val (.int v68), .val (.ref b27), .unset, .unset, .unset, .unset, .unset] [(.int (nar .boolean r127)), (.int ((m143 + m155) + m168))])) _
      refine XS.ifNo X51.here hx rfl (hb hby at_173) rfl ((if0 _ _).trans (feq d66).1) ?_
      refine XS.iconst X51.here hx rfl (hb hby at_176) ?_
      refine XS.goto X51.here hx rfl (pc0 := 177) (pc' := 181) rfl (hb hby at_177) (by decide) (by decide) ?_
      show Steps p.tables e below (T51.setTop (mkF m 181 #[.val (.int sh), .val (.int kd), .val (.int ez), .val (.int pz), .val (.int m11), .val (.ref b3), .val (.int v68), .val (.ref b27), .unset, .unset, .unset, .unset, .unset] [(.int (1 : Int32)), (.int ((m143 + m155) + m168))])) _
      exact castTop (by simp only [hm181, if_neg d66]) kt
  obtain ⟨v182, hv182⟩ : ∃ z_q : Int32, z_q = (((m143 + m155) + m168) + m181) := ⟨_, rfl⟩
  have pre68 : ∀ tq, Steps p.tables e below (T51.setTop (mkF m 186 #[.val (.int sh), .val (.int kd), .val (.int ez), .val (.int pz), .val (.int m11), .val (.ref b3), .val (.int v68), .val (.ref b27), .val (.int v182), .unset, .unset, .unset, .unset] [(.int v182)])) tq → Steps p.tables e below (s₁.setTop (entryFrame m #[(.int sh), (.int kd), (.int ez), (.int pz)] maxLocals)) tq := by
    intro tq kt
    refine pre67 _ ?_
    show Steps p.tables e below (T51.setTop (mkF m 181 #[.val (.int sh), .val (.int kd), .val (.int ez), .val (.int pz), .val (.int m11), .val (.ref b3), .val (.int v68), .val (.ref b27), .unset, .unset, .unset, .unset, .unset] [(.int m181), (.int ((m143 + m155) + m168))])) _
    refine XS.iadd X51.here hx rfl (hb hby at_181) rfl ?_
    refine XS.istore X51.here hx rfl (hb hby at_182) rfl (l' := #[.val (.int sh), .val (.int kd), .val (.int ez), .val (.int pz), .val (.int m11), .val (.ref b3), .val (.int v68), .val (.ref b27), .val (.int v182), .unset, .unset, .unset, .unset]) (by rw [hv182]; rfl) ?_
    refine XS.iload X51.here hx rfl (hb hby at_184) rfl ?_
    show Steps p.tables e below (T51.setTop (mkF m 186 #[.val (.int sh), .val (.int kd), .val (.int ez), .val (.int pz), .val (.int m11), .val (.ref b3), .val (.int v68), .val (.ref b27), .val (.int v182), .unset, .unset, .unset, .unset] [(.int v182)])) _
    exact kt
  by_cases hc186_69 : v182 = (0 : Int32)
  · skip
    obtain ⟨fs, hr, hrun, hended, hW, hsame⟩ := X51.leave (v := some (Value.int (1 : Int32))) (fun h => by rw [Bd.returns] at h; cases h)
    refine ⟨_, _, pre68 _ ?_, hrun, hended, _, _, rfl, ?_, ⟨_, rfl⟩, hW, hsame.mono (by decide) (by decide)⟩
    · skip
      show Steps p.tables e below (T51.setTop (mkF m 186 #[.val (.int sh), .val (.int kd), .val (.int ez), .val (.int pz), .val (.int m11), .val (.ref b3), .val (.int v68), .val (.ref b27), .val (.int v182), .unset, .unset, .unset, .unset] [(.int v182)])) _
      refine XS.ifNo X51.here hx rfl (hb hby at_186) rfl ((if0 _ _).trans (teq hc186_69).2) ?_
      refine XS.iconst X51.here hx rfl (hb hby at_189) ?_
      show Steps p.tables e below (T51.setTop (mkF m 190 #[.val (.int sh), .val (.int kd), .val (.int ez), .val (.int pz), .val (.int m11), .val (.ref b3), .val (.int v68), .val (.ref b27), .val (.int v182), .unset, .unset, .unset, .unset] [(.int (1 : Int32))])) _
      exact retN X51 hx (t := .boolean) Bd.returns (by simp) (hb hby at_190) hr
    · show Q0 Z sh kd ez pz dd h0 n0 _ T51.heap _
      rw [e51]
      exact ⟨rfl, N51⟩
  · skip
    have hnz197_70 : ¬ (v182 = (0 : Int32)) := (own_side_0_197_t sh kd ez pz m11 hm11 d1 hd1 d2 hd2 d3 hd3 v68 hv68 he r85 hr85 r99 hr99 r113 hr113 r127 hr127 m143 hm143 m155 hm155 m168 hm168 m181 hm181 v182 hv182 hc186_69)
    obtain ⟨v198, hv198⟩ : ∃ z_q : Int32, z_q = ((pz &&& (2147483647 : Int32)) % v182) := ⟨_, rfl⟩
    obtain ⟨_, _, ⟨T71, L71, k71, n71⟩, -, X71, ⟨Lc71, hQ71, l71, y71, z71⟩, st71⟩ := Jvm.LawKit.callS X51 hx (y := (⟨"com/example/twigmeter/twigmeter/workload/ReachBelowPinLaw", "kth", "([ZI)I"⟩ : MethodName)) hown (mvT hZ (hw _ (List.mem_of_getElem? (i := 10) rfl))) (mvT hZ (hw _ (List.mem_of_getElem? (i := 11) rfl))) (mvT hZ (hw _ (List.mem_of_getElem? (i := 5) rfl))) (mvT hZ (hw _ (List.mem_of_getElem? (i := 12) rfl))) (by decide) (backOf (W := 0) (rm3 l Z a0 hw [] b27 v198 (nar .boolean r85) (nar .boolean r99) (nar .boolean r113) (nar .boolean r127) kx27 hX51 n0 Z55 F52) hZ (hw _ (List.mem_of_getElem? (i := 12) rfl)) (hw _ (List.mem_of_getElem? (i := 5) rfl)) (by decide) (by decide)) (g := (mkF m 204 #[.val (.int sh), .val (.int kd), .val (.int ez), .val (.int pz), .val (.int m11), .val (.ref b3), .val (.int v68), .val (.ref b27), .val (.int v182), .val (.int v198), .unset, .unset, .unset] [(.int v198), (.ref b27)])) rfl (by rw [hml]; rfl) (argsL := [(.ref b27), (.int v198)]) (rest := []) (lenOf pd_11 rfl) rfl (by show 2 * 0 + _ ≤ _; exact Nat.le_of_eq rfl) (hb hby at_204) (fun _ _ => ⟨rfl, e51, (by decide : 2 + 0 ≤ _), (by decide : 8 + 0 ≤ _)⟩)
    dsimp only [Pt.U, Pt.locs, Pt.cells, Pt.slots] at X71 l71 y71 z71 st71 hQ71
    replace y71 : k71 = 2 := y71
    replace z71 : n71 = 8 := z71
    subst l71 y71 z71
    obtain ⟨rfl, N71q, e71⟩ := hQ71
    have N71 := Fr.app N51 N71q
    obtain ⟨r204, hr204⟩ : ∃ z_q : Int32, z_q = (own_f3 v198 (nar .boolean r85) (nar .boolean r99) (nar .boolean r113) (nar .boolean r127)) := ⟨_, rfl⟩
    have hall : own_chk d1 d2 d3 = true := own_chk_t hd1 hd2 hd3
    obtain ⟨T72, hX72, X72, e72, E72, A72, D72, -, st72⟩ := newO X71 hx hZ hown (hw _ (List.mem_of_getElem? (i := 13) rfl)) (hw _ (List.mem_of_getElem? (i := 14) rfl)) (hw _ (List.mem_of_getElem? (i := 15) rfl)) e71 (g := (mkF m 209 #[.val (.int sh), .val (.int kd), .val (.int ez), .val (.int pz), .val (.int m11), .val (.ref b3), .val (.int v68), .val (.ref b27), .val (.int v182), .val (.int v198), .val (.int r204), .unset, .unset] [])) rfl (hb hby at_209) (by decide) (by decide)
    obtain ⟨b72, g72⟩ : ∃ z_q, z_q = hX51.size := ⟨_, rfl⟩
    rw [← g72] at A72 D72 st72
    have g_b72 : n0 ≤ b72 := Nat.le_trans Z55 (Nat.le_of_eq g72.symm)
    have lt_b3_b72 := Nat.lt_of_lt_of_le F54.lt (Nat.le_of_eq g72.symm)
    have ne_b3_b72 : b3 ≠ b72 := Nat.ne_of_lt (Nat.lt_of_lt_of_le F54.lt (Nat.le_of_eq g72.symm))
    have lt_b27_b72 := Nat.lt_of_lt_of_le F52.lt (Nat.le_of_eq g72.symm)
    have ne_b27_b72 : b27 ≠ b72 := Nat.ne_of_lt (Nat.lt_of_lt_of_le F52.lt (Nat.le_of_eq g72.symm))
    have F73 : Sta Z hX72 "java/util/ArrayList" "DEFAULTCAPACITY_EMPTY_ELEMENTDATA" "[Ljava/lang/Object;" (.ref dd) := F53.ext E72
    have F74 : own_ia Z hX72 b3 [(0 : Int32), d1, d2, d3] := F54.ext E72
    have F75 : Arv Z hX72 b27 kx27 .boolean (4 : Int32) [(.int (nar .boolean r85)), (.int (nar .boolean r99)), (.int (nar .boolean r113)), (.int (nar .boolean r127))] (.int (0 : Int32)) := F52.ext E72
    have Z76 : n0 ≤ hX72.size := Nat.le_trans Z55 E72.1
    have F77 : Fld Z hX72 b72 "com/example/twigmeter/twigmeter/xml/ElementTree" "names" "Lcom/example/twigmeter/twigmeter/xml/NameTable;" .null := D72 (Or.inr (hw _ (List.mem_of_getElem? (i := 93) rfl))) (ty := (.object "com/example/twigmeter/twigmeter/xml/NameTable")) (by decide)
    have F78 : Fld Z hX72 b72 "com/example/twigmeter/twigmeter/xml/ElementTree" "nameNumbers" "Lcom/example/twigmeter/twigmeter/xml/IntList;" .null := D72 (Or.inr (hw _ (List.mem_of_getElem? (i := 104) rfl))) (ty := (.object "com/example/twigmeter/twigmeter/xml/IntList")) (by decide)
    have F79 : Fld Z hX72 b72 "com/example/twigmeter/twigmeter/xml/ElementTree" "attributes" "Lcom/example/twigmeter/twigmeter/xml/IntList;" .null := D72 (Or.inr (hw _ (List.mem_of_getElem? (i := 106) rfl))) (ty := (.object "com/example/twigmeter/twigmeter/xml/IntList")) (by decide)
    have F80 : Fld Z hX72 b72 "com/example/twigmeter/twigmeter/xml/ElementTree" "ends" "Lcom/example/twigmeter/twigmeter/xml/IntList;" .null := D72 (Or.inr (hw _ (List.mem_of_getElem? (i := 108) rfl))) (ty := (.object "com/example/twigmeter/twigmeter/xml/IntList")) (by decide)
    have F81 : Fld Z hX72 b72 "com/example/twigmeter/twigmeter/xml/ElementTree" "open" "Lcom/example/twigmeter/twigmeter/xml/IntList;" .null := D72 (Or.inr (hw _ (List.mem_of_getElem? (i := 110) rfl))) (ty := (.object "com/example/twigmeter/twigmeter/xml/IntList")) (by decide)
    obtain ⟨_, _, ⟨T82, L82, k82, n82⟩, -, X82, ⟨Lc82, hQ82, l82, y82, z82⟩, st82⟩ := X72.specialBack hx (y := (⟨"com/example/twigmeter/twigmeter/xml/ElementTree", "<init>", "()V"⟩ : MethodName)) rfl hown (mvT hZ (hw _ (List.mem_of_getElem? (i := 16) rfl))) (mvT hZ (hw _ (List.mem_of_getElem? (i := 17) rfl))) (mvT hZ (hw _ (List.mem_of_getElem? (i := 18) rfl))) (by decide) (backOf (W := 1) (rm4 l Z a0 hw [] b72 dd hX72 n0 Z76 F77 F78 F79 F80 F81 A72 F73 g_b72) hZ (hw _ (List.mem_of_getElem? (i := 18) rfl)) (hw _ (List.mem_of_getElem? (i := 15) rfl)) (by decide) (by decide)) (g := (mkF m 213 #[.val (.int sh), .val (.int kd), .val (.int ez), .val (.int pz), .val (.int m11), .val (.ref b3), .val (.int v68), .val (.ref b27), .val (.int v182), .val (.int v198), .val (.int r204), .unset, .unset] [(.ref b72), (.ref b72)])) rfl (by rw [hml]; rfl) (Steps.refl _) (a := b72) (argsL := []) (rest := [(.ref b72)]) (lenOf pd_2 rfl) rfl (by show 2 * 0 + _ ≤ _; exact Nat.le_of_eq rfl) (hb hby at_213) (fun _ _ => ⟨rfl, e72, (by decide : 3 + 15 ≤ _), (by decide : 13 + 103 ≤ _)⟩)
    dsimp only [Pt.U, Pt.locs, Pt.cells, Pt.slots] at X82 l82 y82 z82 st82 hQ82
    replace y82 : k82 = 18 := y82
    replace z82 : n82 = 116 := z82
    subst l82 y82 z82
    obtain ⟨bd_83, rfl, N82q, K82q, F84, F85⟩ := hQ82
    have N82 := Fr.app N71 N82q
    have F86 : Sta Z T82.heap "java/util/ArrayList" "DEFAULTCAPACITY_EMPTY_ELEMENTDATA" "[Ljava/lang/Object;" (.ref dd) := sta_keepL F73 K82q (allS (exa_plain A72) all0)
    have F87 : own_ia Z T82.heap b3 [(0 : Int32), d1, d2, d3] := F74.keep K82q (ninS ne_b3_b72 nin0)
    have F88 : Arv Z T82.heap b27 kx27 .boolean (4 : Int32) [(.int (nar .boolean r85)), (.int (nar .boolean r99)), (.int (nar .boolean r113)), (.int (nar .boolean r127))] (.int (0 : Int32)) := F75.keep K82q (ninS ne_b27_b72 nin0)
    have F89 : Exa Z T82.heap b72 "com/example/twigmeter/twigmeter/xml/ElementTree" := A72.keep K82q
    have Z90 : n0 ≤ T82.heap.size := Nat.le_trans Z76 K82q.1
    have hp91_hok : own_okO own_S0 = true := by decide +kernel
    obtain ⟨cq91, kq91, q91a, q91b, q91c⟩ := isOf hZ rfl F84
    obtain ⟨_, _, ⟨T91, L91, k91, n91⟩, -, X91, ⟨Lc91, hQ91, l91, y91, z91⟩, st91⟩ := X82.virtualBack hx (y := (⟨"com/example/twigmeter/twigmeter/xml/ElementTree", "open", "(II)I"⟩ : MethodName)) (z := (⟨"com/example/twigmeter/twigmeter/xml/ElementTree", "open", "(II)I"⟩ : MethodName)) hown (mvT hZ (hw _ (List.mem_of_getElem? (i := 111) rfl))) (mvT hZ (hw _ (List.mem_of_getElem? (i := 112) rfl))) (notFace_of_selects (args := #[]) (mvT hZ (hw _ (List.mem_of_getElem? (i := 114) rfl)))) (mvT hZ (hw _ (List.mem_of_getElem? (i := 114) rfl))) (mvT hZ (hw _ (List.mem_of_getElem? (i := 113) rfl))) (by decide) (backOf (W := 0) (rm14 l Z a0 hw [] b72 (0 : Int32) (0 : Int32) b72 bd_83 own_S0 T82.heap n0 Z90 F85 g_b72 hp91_hok) hZ (hw _ (List.mem_of_getElem? (i := 115) rfl)) (hw _ (List.mem_of_getElem? (i := 15) rfl)) (by decide) (by decide)) q91a q91c (g := (mkF m 222 #[.val (.int sh), .val (.int kd), .val (.int ez), .val (.int pz), .val (.int m11), .val (.ref b3), .val (.int v68), .val (.ref b27), .val (.int v182), .val (.int v198), .val (.int r204), .val (.ref b72), .unset] [(.int (0 : Int32)), (.int (0 : Int32)), (.ref b72)])) rfl (by rw [hml]; rfl) (Steps.refl _) (argsL := [(.int (0 : Int32)), (.int (0 : Int32))]) (rest := []) (lenOf pd_7 rfl) rfl (by show 2 * 0 + _ ≤ _; exact Nat.le_of_eq rfl) (hb hby at_222) (fun _ _ => ⟨rfl, rfl, (by decide : 18 + 0 ≤ _), (by decide : 116 + 0 ≤ _)⟩)
    dsimp only [Pt.U, Pt.locs, Pt.cells, Pt.slots] at X91 l91 y91 z91 st91 hQ91
    replace y91 : k91 = 18 := y91
    replace z91 : n91 = 116 := z91
    subst l91 y91 z91
    obtain ⟨rfl, N91q, K91q, F92⟩ := hQ91
    have N91 := Fr.app N82 N91q
    have F93 : own_ia Z T91.heap b3 [(0 : Int32), d1, d2, d3] := F87.keep K91q (own_rg_nin (Or.inl lt_b3_b72))
    have F94 : Arv Z T91.heap b27 kx27 .boolean (4 : Int32) [(.int (nar .boolean r85)), (.int (nar .boolean r99)), (.int (nar .boolean r113)), (.int (nar .boolean r127))] (.int (0 : Int32)) := F88.keep K91q (own_rg_nin (Or.inl lt_b27_b72))
    have F95 : Exa Z T91.heap b72 "com/example/twigmeter/twigmeter/xml/ElementTree" := F84.keep K91q
    have Z96 : n0 ≤ T91.heap.size := Nat.le_trans Z90 K91q.1
    obtain ⟨cl97, Ar97, hin97, hat97⟩ := F93.get (j := (0 : Int32)) rfl
    obtain ⟨cl98, Ar98, hin98, hat98⟩ := F93.get (j := (1 : Int32)) rfl
    have hp99_hnn : ((1 : Int32) - d1) = (0 : Int32) ∨ ((1 : Int32) - d1) = (1 : Int32) ∨ ((1 : Int32) - d1) = (2 : Int32) ∨ ((1 : Int32) - d1) = (3 : Int32) ∨ ((1 : Int32) - d1) = (4 : Int32) := (own_st3_e (own_chk_e hall).1).1
    have hp99_hokc : own_okCs ((1 : Int32) - d1) (own_opn own_S0) = true := (own_st3_e (own_chk_e hall).1).2.1
    have hp99_hoko : own_okO (own_cts ((1 : Int32) - d1) (own_opn own_S0)) = true := (own_st3_e (own_chk_e hall).1).2.2
    obtain ⟨_, _, ⟨T99, L99, k99, n99⟩, -, X99, ⟨Lc99, hQ99, l99, y99, z99⟩, st99⟩ := Jvm.LawKit.callS X91 hx (y := (⟨"com/example/twigmeter/twigmeter/workload/ReachBelowPinLaw", "step", "(Lcom/example/twigmeter/twigmeter/xml/ElementTree;I)V"⟩ : MethodName)) hown (mvT hZ (hw _ (List.mem_of_getElem? (i := 128) rfl))) (mvT hZ (hw _ (List.mem_of_getElem? (i := 129) rfl))) (mvT hZ (hw _ (List.mem_of_getElem? (i := 5) rfl))) (mvT hZ (hw _ (List.mem_of_getElem? (i := 130) rfl))) (by decide) (backOf (W := 0) (rm17 l Z a0 hw [] b72 ((1 : Int32) - d1) b72 bd_83 (own_opn own_S0) T91.heap n0 Z96 F92 g_b72 hp99_hnn hp99_hokc hp99_hoko) hZ (hw _ (List.mem_of_getElem? (i := 130) rfl)) (hw _ (List.mem_of_getElem? (i := 5) rfl)) (by decide) (by decide)) (g := (mkF m 239 #[.val (.int sh), .val (.int kd), .val (.int ez), .val (.int pz), .val (.int m11), .val (.ref b3), .val (.int v68), .val (.ref b27), .val (.int v182), .val (.int v198), .val (.int r204), .val (.ref b72), .unset] [(.int ((1 : Int32) - d1)), (.ref b72)])) rfl (by rw [hml]; rfl) (argsL := [(.ref b72), (.int ((1 : Int32) - d1))]) (rest := []) (lenOf pd_6 rfl) rfl (by show 2 * 0 + _ ≤ _; exact Nat.le_of_eq rfl) (hb hby at_239) (fun _ _ => ⟨rfl, rfl, (by decide : 18 + 0 ≤ _), (by decide : 116 + 0 ≤ _)⟩)
    dsimp only [Pt.U, Pt.locs, Pt.cells, Pt.slots] at X99 l99 y99 z99 st99 hQ99
    replace y99 : k99 = 18 := y99
    replace z99 : n99 = 116 := z99
    subst l99 y99 z99
    obtain ⟨rfl, N99q, K99q, F100⟩ := hQ99
    have N99 := Fr.app N91 N99q
    have F101 : own_ia Z T99.heap b3 [(0 : Int32), d1, d2, d3] := F93.keep K99q (own_rg_nin (Or.inl lt_b3_b72))
    have F102 : Arv Z T99.heap b27 kx27 .boolean (4 : Int32) [(.int (nar .boolean r85)), (.int (nar .boolean r99)), (.int (nar .boolean r113)), (.int (nar .boolean r127))] (.int (0 : Int32)) := F94.keep K99q (own_rg_nin (Or.inl lt_b27_b72))
    have F103 : Exa Z T99.heap b72 "com/example/twigmeter/twigmeter/xml/ElementTree" := F95.keep K99q
    have Z104 : n0 ≤ T99.heap.size := Nat.le_trans Z96 K99q.1
    obtain ⟨cl105, Ar105, hin105, hat105⟩ := F101.get (j := (1 : Int32)) rfl
    obtain ⟨cl106, Ar106, hin106, hat106⟩ := F101.get (j := (2 : Int32)) rfl
    have hp107_hnn : ((d1 + (1 : Int32)) - d2) = (0 : Int32) ∨ ((d1 + (1 : Int32)) - d2) = (1 : Int32) ∨ ((d1 + (1 : Int32)) - d2) = (2 : Int32) ∨ ((d1 + (1 : Int32)) - d2) = (3 : Int32) ∨ ((d1 + (1 : Int32)) - d2) = (4 : Int32) := (own_st3_e (own_chk_e hall).2.1).1
    have hp107_hokc : own_okCs ((d1 + (1 : Int32)) - d2) (own_stp ((1 : Int32) - d1) (own_opn own_S0)) = true := (own_st3_e (own_chk_e hall).2.1).2.1
    have hp107_hoko : own_okO (own_cts ((d1 + (1 : Int32)) - d2) (own_stp ((1 : Int32) - d1) (own_opn own_S0))) = true := (own_st3_e (own_chk_e hall).2.1).2.2
    obtain ⟨_, _, ⟨T107, L107, k107, n107⟩, -, X107, ⟨Lc107, hQ107, l107, y107, z107⟩, st107⟩ := Jvm.LawKit.callS X99 hx (y := (⟨"com/example/twigmeter/twigmeter/workload/ReachBelowPinLaw", "step", "(Lcom/example/twigmeter/twigmeter/xml/ElementTree;I)V"⟩ : MethodName)) hown (mvT hZ (hw _ (List.mem_of_getElem? (i := 128) rfl))) (mvT hZ (hw _ (List.mem_of_getElem? (i := 129) rfl))) (mvT hZ (hw _ (List.mem_of_getElem? (i := 5) rfl))) (mvT hZ (hw _ (List.mem_of_getElem? (i := 130) rfl))) (by decide) (backOf (W := 0) (rm17 l Z a0 hw [] b72 ((d1 + (1 : Int32)) - d2) b72 bd_83 (own_stp ((1 : Int32) - d1) (own_opn own_S0)) T99.heap n0 Z104 F100 g_b72 hp107_hnn hp107_hokc hp107_hoko) hZ (hw _ (List.mem_of_getElem? (i := 130) rfl)) (hw _ (List.mem_of_getElem? (i := 5) rfl)) (by decide) (by decide)) (g := (mkF m 255 #[.val (.int sh), .val (.int kd), .val (.int ez), .val (.int pz), .val (.int m11), .val (.ref b3), .val (.int v68), .val (.ref b27), .val (.int v182), .val (.int v198), .val (.int r204), .val (.ref b72), .unset] [(.int ((d1 + (1 : Int32)) - d2)), (.ref b72)])) rfl (by rw [hml]; rfl) (argsL := [(.ref b72), (.int ((d1 + (1 : Int32)) - d2))]) (rest := []) (lenOf pd_6 rfl) rfl (by show 2 * 0 + _ ≤ _; exact Nat.le_of_eq rfl) (hb hby at_255) (fun _ _ => ⟨rfl, rfl, (by decide : 18 + 0 ≤ _), (by decide : 116 + 0 ≤ _)⟩)
    dsimp only [Pt.U, Pt.locs, Pt.cells, Pt.slots] at X107 l107 y107 z107 st107 hQ107
    replace y107 : k107 = 18 := y107
    replace z107 : n107 = 116 := z107
    subst l107 y107 z107
    obtain ⟨rfl, N107q, K107q, F108⟩ := hQ107
    have N107 := Fr.app N99 N107q
    have F109 : own_ia Z T107.heap b3 [(0 : Int32), d1, d2, d3] := F101.keep K107q (own_rg_nin (Or.inl lt_b3_b72))
    have F110 : Arv Z T107.heap b27 kx27 .boolean (4 : Int32) [(.int (nar .boolean r85)), (.int (nar .boolean r99)), (.int (nar .boolean r113)), (.int (nar .boolean r127))] (.int (0 : Int32)) := F102.keep K107q (own_rg_nin (Or.inl lt_b27_b72))
    have F111 : Exa Z T107.heap b72 "com/example/twigmeter/twigmeter/xml/ElementTree" := F103.keep K107q
    have Z112 : n0 ≤ T107.heap.size := Nat.le_trans Z104 K107q.1
    obtain ⟨cl113, Ar113, hin113, hat113⟩ := F109.get (j := (2 : Int32)) rfl
    obtain ⟨cl114, Ar114, hin114, hat114⟩ := F109.get (j := (3 : Int32)) rfl
    have hp115_hnn : ((d2 + (1 : Int32)) - d3) = (0 : Int32) ∨ ((d2 + (1 : Int32)) - d3) = (1 : Int32) ∨ ((d2 + (1 : Int32)) - d3) = (2 : Int32) ∨ ((d2 + (1 : Int32)) - d3) = (3 : Int32) ∨ ((d2 + (1 : Int32)) - d3) = (4 : Int32) := (own_st3_e (own_chk_e hall).2.2.1).1
    have hp115_hokc : own_okCs ((d2 + (1 : Int32)) - d3) (own_stp ((d1 + (1 : Int32)) - d2) (own_stp ((1 : Int32) - d1) (own_opn own_S0))) = true := (own_st3_e (own_chk_e hall).2.2.1).2.1
    have hp115_hoko : own_okO (own_cts ((d2 + (1 : Int32)) - d3) (own_stp ((d1 + (1 : Int32)) - d2) (own_stp ((1 : Int32) - d1) (own_opn own_S0)))) = true := (own_st3_e (own_chk_e hall).2.2.1).2.2
    obtain ⟨_, _, ⟨T115, L115, k115, n115⟩, -, X115, ⟨Lc115, hQ115, l115, y115, z115⟩, st115⟩ := Jvm.LawKit.callS X107 hx (y := (⟨"com/example/twigmeter/twigmeter/workload/ReachBelowPinLaw", "step", "(Lcom/example/twigmeter/twigmeter/xml/ElementTree;I)V"⟩ : MethodName)) hown (mvT hZ (hw _ (List.mem_of_getElem? (i := 128) rfl))) (mvT hZ (hw _ (List.mem_of_getElem? (i := 129) rfl))) (mvT hZ (hw _ (List.mem_of_getElem? (i := 5) rfl))) (mvT hZ (hw _ (List.mem_of_getElem? (i := 130) rfl))) (by decide) (backOf (W := 0) (rm17 l Z a0 hw [] b72 ((d2 + (1 : Int32)) - d3) b72 bd_83 (own_stp ((d1 + (1 : Int32)) - d2) (own_stp ((1 : Int32) - d1) (own_opn own_S0))) T107.heap n0 Z112 F108 g_b72 hp115_hnn hp115_hokc hp115_hoko) hZ (hw _ (List.mem_of_getElem? (i := 130) rfl)) (hw _ (List.mem_of_getElem? (i := 5) rfl)) (by decide) (by decide)) (g := (mkF m 271 #[.val (.int sh), .val (.int kd), .val (.int ez), .val (.int pz), .val (.int m11), .val (.ref b3), .val (.int v68), .val (.ref b27), .val (.int v182), .val (.int v198), .val (.int r204), .val (.ref b72), .unset] [(.int ((d2 + (1 : Int32)) - d3)), (.ref b72)])) rfl (by rw [hml]; rfl) (argsL := [(.ref b72), (.int ((d2 + (1 : Int32)) - d3))]) (rest := []) (lenOf pd_6 rfl) rfl (by show 2 * 0 + _ ≤ _; exact Nat.le_of_eq rfl) (hb hby at_271) (fun _ _ => ⟨rfl, rfl, (by decide : 18 + 0 ≤ _), (by decide : 116 + 0 ≤ _)⟩)
    dsimp only [Pt.U, Pt.locs, Pt.cells, Pt.slots] at X115 l115 y115 z115 st115 hQ115
    replace y115 : k115 = 18 := y115
    replace z115 : n115 = 116 := z115
    subst l115 y115 z115
    obtain ⟨rfl, N115q, K115q, F116⟩ := hQ115
    have N115 := Fr.app N107 N115q
    have F117 : own_ia Z T115.heap b3 [(0 : Int32), d1, d2, d3] := F109.keep K115q (own_rg_nin (Or.inl lt_b3_b72))
    have F118 : Arv Z T115.heap b27 kx27 .boolean (4 : Int32) [(.int (nar .boolean r85)), (.int (nar .boolean r99)), (.int (nar .boolean r113)), (.int (nar .boolean r127))] (.int (0 : Int32)) := F110.keep K115q (own_rg_nin (Or.inl lt_b27_b72))
    have F119 : Exa Z T115.heap b72 "com/example/twigmeter/twigmeter/xml/ElementTree" := F111.keep K115q
    have Z120 : n0 ≤ T115.heap.size := Nat.le_trans Z112 K115q.1
    obtain ⟨cl121, Ar121, hin121, hat121⟩ := F117.get (j := (3 : Int32)) rfl
    have hp122_hnn : (d3 + (1 : Int32)) = (0 : Int32) ∨ (d3 + (1 : Int32)) = (1 : Int32) ∨ (d3 + (1 : Int32)) = (2 : Int32) ∨ (d3 + (1 : Int32)) = (3 : Int32) ∨ (d3 + (1 : Int32)) = (4 : Int32) := own_in04_e (own_chk_e hall).2.2.2.1
    have hp122_hokc : own_okCs (d3 + (1 : Int32)) (own_stp ((d2 + (1 : Int32)) - d3) (own_stp ((d1 + (1 : Int32)) - d2) (own_stp ((1 : Int32) - d1) (own_opn own_S0)))) = true := (own_chk_e hall).2.2.2.2.1
    obtain ⟨_, _, ⟨T122, L122, k122, n122⟩, -, X122, ⟨Lc122, hQ122, l122, y122, z122⟩, st122⟩ := Jvm.LawKit.callS X115 hx (y := (⟨"com/example/twigmeter/twigmeter/workload/ReachBelowPinLaw", "closeTimes", "(Lcom/example/twigmeter/twigmeter/xml/ElementTree;I)V"⟩ : MethodName)) hown (mvT hZ (hw _ (List.mem_of_getElem? (i := 131) rfl))) (mvT hZ (hw _ (List.mem_of_getElem? (i := 132) rfl))) (mvT hZ (hw _ (List.mem_of_getElem? (i := 5) rfl))) (mvT hZ (hw _ (List.mem_of_getElem? (i := 133) rfl))) (by decide) (backOf (W := 0) (rm18_5 l Z a0 hw [] b72 (d3 + (1 : Int32)) b72 bd_83 (own_stp ((d2 + (1 : Int32)) - d3) (own_stp ((d1 + (1 : Int32)) - d2) (own_stp ((1 : Int32) - d1) (own_opn own_S0)))) T115.heap n0 Z120 F116 g_b72 hp122_hnn hp122_hokc) hZ (hw _ (List.mem_of_getElem? (i := 133) rfl)) (hw _ (List.mem_of_getElem? (i := 5) rfl)) (by decide) (by decide)) (g := (mkF m 282 #[.val (.int sh), .val (.int kd), .val (.int ez), .val (.int pz), .val (.int m11), .val (.ref b3), .val (.int v68), .val (.ref b27), .val (.int v182), .val (.int v198), .val (.int r204), .val (.ref b72), .unset] [(.int (d3 + (1 : Int32))), (.ref b72)])) rfl (by rw [hml]; rfl) (argsL := [(.ref b72), (.int (d3 + (1 : Int32)))]) (rest := []) (lenOf pd_6 rfl) rfl (by show 2 * 0 + _ ≤ _; exact Nat.le_of_eq rfl) (hb hby at_282) (fun _ _ => ⟨rfl, rfl, (by decide : 18 + 0 ≤ _), (by decide : 116 + 0 ≤ _)⟩)
    dsimp only [Pt.U, Pt.locs, Pt.cells, Pt.slots] at X122 l122 y122 z122 st122 hQ122
    replace y122 : k122 = 18 := y122
    replace z122 : n122 = 116 := z122
    subst l122 y122 z122
    obtain ⟨rfl, N122q, K122q, F123⟩ := hQ122
    have N122 := Fr.app N115 N122q
    have F124 : own_ia Z T122.heap b3 [(0 : Int32), d1, d2, d3] := F117.keep K122q (own_rg_nin (Or.inl lt_b3_b72))
    have F125 : Arv Z T122.heap b27 kx27 .boolean (4 : Int32) [(.int (nar .boolean r85)), (.int (nar .boolean r99)), (.int (nar .boolean r113)), (.int (nar .boolean r127))] (.int (0 : Int32)) := F118.keep K122q (own_rg_nin (Or.inl lt_b27_b72))
    have F126 : Exa Z T122.heap b72 "com/example/twigmeter/twigmeter/xml/ElementTree" := F119.keep K122q
    have Z127 : n0 ≤ T122.heap.size := Nat.le_trans Z120 K122q.1
    obtain ⟨T128, hX128, X128, e128, E128, A128, D128, -, st128⟩ := newO X122 hx hZ hown (hw _ (List.mem_of_getElem? (i := 149) rfl)) (hw _ (List.mem_of_getElem? (i := 150) rfl)) (hw _ (List.mem_of_getElem? (i := 151) rfl)) rfl (g := (mkF m 285 #[.val (.int sh), .val (.int kd), .val (.int ez), .val (.int pz), .val (.int m11), .val (.ref b3), .val (.int v68), .val (.ref b27), .val (.int v182), .val (.int v198), .val (.int r204), .val (.ref b72), .unset] [])) rfl (hb hby at_285) (by decide) (by decide)
    obtain ⟨b128, g128⟩ : ∃ z_q, z_q = T122.heap.size := ⟨_, rfl⟩
    rw [← g128] at A128 D128 st128
    have g_b128 : n0 ≤ b128 := Nat.le_trans Z127 (Nat.le_of_eq g128.symm)
    have bd_b128 : bd_83 ≤ b128 := Nat.le_trans F123.bdle (Nat.le_of_eq g128.symm)
    have lt_b3_b128 := Nat.lt_of_lt_of_le F124.lt (Nat.le_of_eq g128.symm)
    have ne_b3_b128 : b3 ≠ b128 := Nat.ne_of_lt (Nat.lt_of_lt_of_le F124.lt (Nat.le_of_eq g128.symm))
    have lt_b27_b128 := Nat.lt_of_lt_of_le F125.lt (Nat.le_of_eq g128.symm)
    have ne_b27_b128 : b27 ≠ b128 := Nat.ne_of_lt (Nat.lt_of_lt_of_le F125.lt (Nat.le_of_eq g128.symm))
    have lt_b72_b128 := Nat.lt_of_lt_of_le F126.lt (Nat.le_of_eq g128.symm)
    have ne_b72_b128 : b72 ≠ b128 := Nat.ne_of_lt (Nat.lt_of_lt_of_le F126.lt (Nat.le_of_eq g128.symm))
    have F129 : own_ia Z hX128 b3 [(0 : Int32), d1, d2, d3] := F124.ext E128
    have F130 : Arv Z hX128 b27 kx27 .boolean (4 : Int32) [(.int (nar .boolean r85)), (.int (nar .boolean r99)), (.int (nar .boolean r113)), (.int (nar .boolean r127))] (.int (0 : Int32)) := F125.ext E128
    have F131 : Exa Z hX128 b72 "com/example/twigmeter/twigmeter/xml/ElementTree" := F126.ext E128
    have F132 : own_tr Z hX128 b72 b72 bd_83 (own_cts (d3 + (1 : Int32)) (own_stp ((d2 + (1 : Int32)) - d3) (own_stp ((d1 + (1 : Int32)) - d2) (own_stp ((1 : Int32) - d1) (own_opn own_S0))))) := F123.ext E128
    have Z133 : n0 ≤ hX128.size := Nat.le_trans Z127 E128.1
    have F134 : Fld Z hX128 b128 "com/example/twigmeter/twigmeter/workload/Reach" "tree" "Lcom/example/twigmeter/twigmeter/xml/ElementTree;" .null := D128 (Or.inr (hw _ (List.mem_of_getElem? (i := 157) rfl))) (ty := (.object "com/example/twigmeter/twigmeter/xml/ElementTree")) (by decide)
    have F135 : Fld Z hX128 b128 "com/example/twigmeter/twigmeter/workload/Reach" "descendant" "Z" (.int (0 : Int32)) := D128 (Or.inr (hw _ (List.mem_of_getElem? (i := 159) rfl))) (ty := .boolean) (by decide)
    have F136 : Fld Z hX128 b128 "com/example/twigmeter/twigmeter/workload/Reach" "parents" "[I" .null := D128 (Or.inr (hw _ (List.mem_of_getElem? (i := 166) rfl))) (ty := (.array .int)) (by decide)
    have F137 : Fld Z hX128 b128 "com/example/twigmeter/twigmeter/workload/Reach" "firstChild" "[I" .null := D128 (Or.inr (hw _ (List.mem_of_getElem? (i := 192) rfl))) (ty := (.array .int)) (by decide)
    have F138 : Fld Z hX128 b128 "com/example/twigmeter/twigmeter/workload/Reach" "children" "[I" .null := D128 (Or.inr (hw _ (List.mem_of_getElem? (i := 194) rfl))) (ty := (.array .int)) (by decide)
    have hp139_hn : (own_cts (d3 + (1 : Int32)) (own_stp ((d2 + (1 : Int32)) - d3) (own_stp ((d1 + (1 : Int32)) - d2) (own_stp ((1 : Int32) - d1) (own_opn own_S0))))).2.2.1 = (4 : Int32) := (own_rok_e (own_chk_e hall).2.2.2.2.2.1).1
    have hp139_hpA : own_A (own_cts (d3 + (1 : Int32)) (own_stp ((d2 + (1 : Int32)) - d3) (own_stp ((d1 + (1 : Int32)) - d2) (own_stp ((1 : Int32) - d1) (own_opn own_S0))))).1 5 (0 : Int32) [(0 : Int32), (0 : Int32), (0 : Int32), (0 : Int32)] (own_zs (16 : Int32)) (0 : Int32) = some (own_parF (own_S4 d1 d2 d3)) := (own_rok_e (own_chk_e hall).2.2.2.2.2.1).2.1
    have hp139_hpC : own_C (own_parF (own_S4 d1 d2 d3)) 5 (0 : Int32) [(0 : Int32), (0 : Int32), (0 : Int32), (0 : Int32), (0 : Int32)] = some (own_F1 (own_S4 d1 d2 d3)) := (own_rok_e (own_chk_e hall).2.2.2.2.2.1).2.2.1
    have hp139_hpD : own_D 5 (0 : Int32) (own_F1 (own_S4 d1 d2 d3)) = some (own_F2 (own_S4 d1 d2 d3)) := (own_rok_e (own_chk_e hall).2.2.2.2.2.1).2.2.2.1
    have hp139_hp4 : own_inx (own_F2 (own_S4 d1 d2 d3)) (4 : Int32) = true ∧ ¬ own_rd (own_F2 (own_S4 d1 d2 d3)) (4 : Int32) < 0 ∧ (own_rd (own_F2 (own_S4 d1 d2 d3)) (4 : Int32)).toNatClampNeg ≤ 4 := (own_rok_e (own_chk_e hall).2.2.2.2.2.1).2.2.2.2.1
    have hp139_hp0 : own_inx (own_parF (own_S4 d1 d2 d3)) (0 : Int32) = true ∧ own_rd (own_parF (own_S4 d1 d2 d3)) (0 : Int32) = (-1 : Int32) := (own_rok_e (own_chk_e hall).2.2.2.2.2.1).2.2.2.2.2.1
    have hp139_hpE : own_E (own_parF (own_S4 d1 d2 d3)) (own_F2 (own_S4 d1 d2 d3)) 4 (1 : Int32) (own_zs (own_rd (own_F2 (own_S4 d1 d2 d3)) (4 : Int32))) [(0 : Int32), (0 : Int32), (0 : Int32), (0 : Int32)] = some (own_CH (own_S4 d1 d2 d3)) := (own_rok_e (own_chk_e hall).2.2.2.2.2.1).2.2.2.2.2.2
    obtain ⟨_, _, ⟨T139, L139, k139, n139⟩, -, X139, ⟨Lc139, hQ139, l139, y139, z139⟩, st139⟩ := X128.specialBack hx (y := (⟨"com/example/twigmeter/twigmeter/workload/Reach", "<init>", "(Lcom/example/twigmeter/twigmeter/xml/ElementTree;Z)V"⟩ : MethodName)) rfl hown (mvT hZ (hw _ (List.mem_of_getElem? (i := 152) rfl))) (mvT hZ (hw _ (List.mem_of_getElem? (i := 153) rfl))) (mvT hZ (hw _ (List.mem_of_getElem? (i := 154) rfl))) (by decide) (backOf (W := 1) (rm22 l Z a0 hw [] b128 b72 m11 b72 bd_83 (own_cts (d3 + (1 : Int32)) (own_stp ((d2 + (1 : Int32)) - d3) (own_stp ((d1 + (1 : Int32)) - d2) (own_stp ((1 : Int32) - d1) (own_opn own_S0))))) (own_parF (own_S4 d1 d2 d3)) (own_F1 (own_S4 d1 d2 d3)) (own_F2 (own_S4 d1 d2 d3)) (own_CH (own_S4 d1 d2 d3)) hX128 n0 Z133 F134 F135 F136 F137 F138 A128 F132 F131 g_b128 bd_b128 hp139_hn hp139_hpA hp139_hpC hp139_hpD hp139_hp4 hp139_hp0 hp139_hpE) hZ (hw _ (List.mem_of_getElem? (i := 154) rfl)) (hw _ (List.mem_of_getElem? (i := 151) rfl)) (by decide) (by decide)) (g := (mkF m 293 #[.val (.int sh), .val (.int kd), .val (.int ez), .val (.int pz), .val (.int m11), .val (.ref b3), .val (.int v68), .val (.ref b27), .val (.int v182), .val (.int v198), .val (.int r204), .val (.ref b72), .unset] [(.int m11), (.ref b72), (.ref b128), (.ref b128)])) rfl (by rw [hml]; rfl) (Steps.refl _) (a := b128) (argsL := [(.ref b72), (.int m11)]) (rest := [(.ref b128)]) (lenOf pd_12 rfl) rfl (by show 2 * 0 + _ ≤ _; exact Nat.le_of_eq rfl) (hb hby at_293) (fun _ _ => ⟨rfl, e128, (by decide : 19 + 6 ≤ _), (by decide : 121 + 35 ≤ _)⟩)
    dsimp only [Pt.U, Pt.locs, Pt.cells, Pt.slots] at X139 l139 y139 z139 st139 hQ139
    replace y139 : k139 = 25 := y139
    replace z139 : n139 = 156 := z139
    subst l139 y139 z139
    obtain ⟨b139_0, b139_1, rfl, N139q, K139q, g_b139_0, szq_b139_0, g_b139_1, szq_b139_1, F140, F141, F142, F143, F144, F145⟩ := hQ139
    have N139 := Fr.app N122 N139q
    have lt_b3_b139_0 := Nat.lt_of_lt_of_le F129.lt szq_b139_0
    have ne_b3_b139_0 : b3 ≠ b139_0 := Nat.ne_of_lt (Nat.lt_of_lt_of_le F129.lt szq_b139_0)
    have lt_b27_b139_0 := Nat.lt_of_lt_of_le F130.lt szq_b139_0
    have ne_b27_b139_0 : b27 ≠ b139_0 := Nat.ne_of_lt (Nat.lt_of_lt_of_le F130.lt szq_b139_0)
    have lt_b72_b139_0 := Nat.lt_of_lt_of_le F131.lt szq_b139_0
    have ne_b72_b139_0 : b72 ≠ b139_0 := Nat.ne_of_lt (Nat.lt_of_lt_of_le F131.lt szq_b139_0)
    have lt_b128_b139_0 := Nat.lt_of_lt_of_le A128.lt szq_b139_0
    have ne_b128_b139_0 : b128 ≠ b139_0 := Nat.ne_of_lt (Nat.lt_of_lt_of_le A128.lt szq_b139_0)
    have bd_b139_0 : bd_83 ≤ b139_0 := Nat.le_trans F132.bdle szq_b139_0
    have lt_b3_b139_1 := Nat.lt_of_lt_of_le F129.lt szq_b139_1
    have ne_b3_b139_1 : b3 ≠ b139_1 := Nat.ne_of_lt (Nat.lt_of_lt_of_le F129.lt szq_b139_1)
    have lt_b27_b139_1 := Nat.lt_of_lt_of_le F130.lt szq_b139_1
    have ne_b27_b139_1 : b27 ≠ b139_1 := Nat.ne_of_lt (Nat.lt_of_lt_of_le F130.lt szq_b139_1)
    have lt_b72_b139_1 := Nat.lt_of_lt_of_le F131.lt szq_b139_1
    have ne_b72_b139_1 : b72 ≠ b139_1 := Nat.ne_of_lt (Nat.lt_of_lt_of_le F131.lt szq_b139_1)
    have lt_b128_b139_1 := Nat.lt_of_lt_of_le A128.lt szq_b139_1
    have ne_b128_b139_1 : b128 ≠ b139_1 := Nat.ne_of_lt (Nat.lt_of_lt_of_le A128.lt szq_b139_1)
    have bd_b139_1 : bd_83 ≤ b139_1 := Nat.le_trans F132.bdle szq_b139_1
    have F146 : own_ia Z T139.heap b3 [(0 : Int32), d1, d2, d3] := F129.keep K139q (ninS ne_b3_b128 nin0)
    have F147 : Arv Z T139.heap b27 kx27 .boolean (4 : Int32) [(.int (nar .boolean r85)), (.int (nar .boolean r99)), (.int (nar .boolean r113)), (.int (nar .boolean r127))] (.int (0 : Int32)) := F130.keep K139q (ninS ne_b27_b128 nin0)
    have F148 : Exa Z T139.heap b72 "com/example/twigmeter/twigmeter/xml/ElementTree" := F131.keep K139q
    have F149 : own_tr Z T139.heap b72 b72 bd_83 (own_cts (d3 + (1 : Int32)) (own_stp ((d2 + (1 : Int32)) - d3) (own_stp ((d1 + (1 : Int32)) - d2) (own_stp ((1 : Int32) - d1) (own_opn own_S0))))) := F132.keep K139q (allS bd_b128 all0)
    have F150 : Exa Z T139.heap b128 "com/example/twigmeter/twigmeter/workload/Reach" := A128.keep K139q
    have Z151 : n0 ≤ T139.heap.size := Nat.le_trans Z133 K139q.1
    have hp152_hbl : (nar .boolean m11) = (0 : Int32) → own_inx (own_F2 (own_S4 d1 d2 d3)) v68 = true ∧ own_inx (own_CH (own_S4 d1 d2 d3)) (own_rd (own_F2 (own_S4 d1 d2 d3)) v68 + v198) = true := (own_pre_0_304_hbl_t sh kd ez pz m11 hm11 d1 hd1 d2 hd2 d3 hd3 v68 hv68 he r85 hr85 r99 hr99 r113 hr113 r127 hr127 m143 hm143 m155 hm155 m168 hm168 m181 hm181 v182 hv182 hc186_69 v198 hv198 r204 hr204 hall bd_83)
    obtain ⟨cq152, kq152, q152a, q152b, q152c⟩ := isOf hZ rfl F140
    obtain ⟨_, _, ⟨T152, L152, k152, n152⟩, -, X152, ⟨Lc152, hQ152, l152, y152, z152⟩, st152⟩ := X139.virtualBack hx (y := (⟨"com/example/twigmeter/twigmeter/workload/Reach", "below", "(II)I"⟩ : MethodName)) (z := (⟨"com/example/twigmeter/twigmeter/workload/Reach", "below", "(II)I"⟩ : MethodName)) hown (mvT hZ (hw _ (List.mem_of_getElem? (i := 195) rfl))) (mvT hZ (hw _ (List.mem_of_getElem? (i := 196) rfl))) (notFace_of_selects (args := #[]) (mvT hZ (hw _ (List.mem_of_getElem? (i := 198) rfl)))) (mvT hZ (hw _ (List.mem_of_getElem? (i := 198) rfl))) (mvT hZ (hw _ (List.mem_of_getElem? (i := 197) rfl))) (by decide) (backOf (W := 0) (rm28 l Z a0 hw [] b128 v68 v198 (nar .boolean m11) b139_0 b139_1 (own_F2 (own_S4 d1 d2 d3)) (own_CH (own_S4 d1 d2 d3)) T139.heap n0 Z151 F141 F142 F143 F144 F145 hp152_hbl) hZ (hw _ (List.mem_of_getElem? (i := 199) rfl)) (hw _ (List.mem_of_getElem? (i := 151) rfl)) (by decide) (by decide)) q152a q152c (g := (mkF m 304 #[.val (.int sh), .val (.int kd), .val (.int ez), .val (.int pz), .val (.int m11), .val (.ref b3), .val (.int v68), .val (.ref b27), .val (.int v182), .val (.int v198), .val (.int r204), .val (.ref b72), .val (.ref b128)] [(.int v198), (.int v68), (.ref b128)])) rfl (by rw [hml]; rfl) (Steps.refl _) (argsL := [(.int v68), (.int v198)]) (rest := []) (lenOf pd_7 rfl) rfl (by show 2 * 0 + _ ≤ _; exact Nat.le_of_eq rfl) (hb hby at_304) (fun _ _ => ⟨rfl, rfl, (by decide : 25 + 0 ≤ _), (by decide : 156 + 0 ≤ _)⟩)
    dsimp only [Pt.U, Pt.locs, Pt.cells, Pt.slots] at X152 l152 y152 z152 st152 hQ152
    replace y152 : k152 = 25 := y152
    replace z152 : n152 = 156 := z152
    subst l152 y152 z152
    obtain ⟨rfl, N152q, e152⟩ := hQ152
    have N152 := Fr.app N139 N152q
    obtain ⟨r304, hr304⟩ : ∃ z_q : Int32, z_q = (own_bel (nar .boolean m11) (own_F2 (own_S4 d1 d2 d3)) (own_CH (own_S4 d1 d2 d3)) v68 v198) := ⟨_, rfl⟩
    obtain ⟨m317, hm317⟩ : ∃ z_q : Int32, z_q = (if r304 = r204 then (1 : Int32) else (0 : Int32)) := ⟨_, rfl⟩
    have pre154 : ∀ tq, Steps p.tables e below (T152.setTop (mkF m 317 #[.val (.int sh), .val (.int kd), .val (.int ez), .val (.int pz), .val (.int m11), .val (.ref b3), .val (.int v68), .val (.ref b27), .val (.int v182), .val (.int v198), .val (.int r204), .val (.ref b72), .val (.ref b128)] [(.int m317)])) tq → Steps p.tables e below (s₁.setTop (entryFrame m #[(.int sh), (.int kd), (.int ez), (.int pz)] maxLocals)) tq := by
      intro tq kt
      refine pre68 _ ?_
      show Steps p.tables e below (T51.setTop (mkF m 186 #[.val (.int sh), .val (.int kd), .val (.int ez), .val (.int pz), .val (.int m11), .val (.ref b3), .val (.int v68), .val (.ref b27), .val (.int v182), .unset, .unset, .unset, .unset] [(.int v182)])) _
      refine XS.ifYes X51.here hx rfl (pc0 := 186) (pc' := 191) rfl (hb hby at_186) rfl ((if0 _ _).trans (feq hc186_69).2) (by decide) (by decide) ?_
      refine XS.iloadN X51.here hx rfl (hb hby at_191) rfl ?_
      refine X51.ldcInt hx hown (mvT hZ (hw _ (List.mem_of_getElem? (i := 1) rfl))) (g := (mkF m 192 #[.val (.int sh), .val (.int kd), .val (.int ez), .val (.int pz), .val (.int m11), .val (.ref b3), .val (.int v68), .val (.ref b27), .val (.int v182), .unset, .unset, .unset, .unset] [(.int pz)])) rfl (hb hby at_192) _ ?_
      show Steps p.tables e below (T51.setTop (mkF m 194 #[.val (.int sh), .val (.int kd), .val (.int ez), .val (.int pz), .val (.int m11), .val (.ref b3), .val (.int v68), .val (.ref b27), .val (.int v182), .unset, .unset, .unset, .unset] [(.int (2147483647 : Int32)), (.int pz)])) _
      refine XS.iand X51.here hx rfl (hb hby at_194) rfl ?_
      refine XS.iload X51.here hx rfl (hb hby at_195) rfl ?_
      show Steps p.tables e below (T51.setTop (mkF m 197 #[.val (.int sh), .val (.int kd), .val (.int ez), .val (.int pz), .val (.int m11), .val (.ref b3), .val (.int v68), .val (.ref b27), .val (.int v182), .unset, .unset, .unset, .unset] [(.int v182), (.int (pz &&& (2147483647 : Int32)))])) _
      refine iremM X51 hx rfl (hb hby at_197) rfl hnz197_70 ?_
      show Steps p.tables e below (T51.setTop (mkF m 198 #[.val (.int sh), .val (.int kd), .val (.int ez), .val (.int pz), .val (.int m11), .val (.ref b3), .val (.int v68), .val (.ref b27), .val (.int v182), .unset, .unset, .unset, .unset] [(.int ((pz &&& (2147483647 : Int32)) % v182))])) _
      refine XS.istore X51.here hx rfl (hb hby at_198) rfl (l' := #[.val (.int sh), .val (.int kd), .val (.int ez), .val (.int pz), .val (.int m11), .val (.ref b3), .val (.int v68), .val (.ref b27), .val (.int v182), .val (.int v198), .unset, .unset, .unset]) (by rw [hv198]; rfl) ?_
      refine XS.aload X51.here hx rfl (hb hby at_200) rfl rfl ?_
      refine XS.iload X51.here hx rfl (hb hby at_202) rfl ?_
      refine st71 _ ?_
      show Steps p.tables e below (T71.setTop (mkF m 207 #[.val (.int sh), .val (.int kd), .val (.int ez), .val (.int pz), .val (.int m11), .val (.ref b3), .val (.int v68), .val (.ref b27), .val (.int v182), .val (.int v198), .unset, .unset, .unset] [(.int (own_f3 v198 (nar .boolean r85) (nar .boolean r99) (nar .boolean r113) (nar .boolean r127)))])) _
      rw [← hr204]
      show Steps p.tables e below (T71.setTop (mkF m 207 #[.val (.int sh), .val (.int kd), .val (.int ez), .val (.int pz), .val (.int m11), .val (.ref b3), .val (.int v68), .val (.ref b27), .val (.int v182), .val (.int v198), .unset, .unset, .unset] [(.int r204)])) _
      refine XS.istore X71.here hx rfl (hb hby at_207) rfl (l' := #[.val (.int sh), .val (.int kd), .val (.int ez), .val (.int pz), .val (.int m11), .val (.ref b3), .val (.int v68), .val (.ref b27), .val (.int v182), .val (.int v198), .val (.int r204), .unset, .unset]) rfl ?_
      refine st72 _ ?_
      show Steps p.tables e below (T72.setTop (mkF m 212 #[.val (.int sh), .val (.int kd), .val (.int ez), .val (.int pz), .val (.int m11), .val (.ref b3), .val (.int v68), .val (.ref b27), .val (.int v182), .val (.int v198), .val (.int r204), .unset, .unset] [(.ref b72)])) _
      refine XS.dup X72.here hx rfl (hb hby at_212) rfl rfl ?_
      refine st82.trans ?_
      show Steps p.tables e below (T82.setTop (mkF m 216 #[.val (.int sh), .val (.int kd), .val (.int ez), .val (.int pz), .val (.int m11), .val (.ref b3), .val (.int v68), .val (.ref b27), .val (.int v182), .val (.int v198), .val (.int r204), .unset, .unset] [(.ref b72)])) _
      refine XS.astore X82.here hx rfl (hb hby at_216) rfl rfl (l' := #[.val (.int sh), .val (.int kd), .val (.int ez), .val (.int pz), .val (.int m11), .val (.ref b3), .val (.int v68), .val (.ref b27), .val (.int v182), .val (.int v198), .val (.int r204), .val (.ref b72), .unset]) rfl ?_
      refine XS.aload X82.here hx rfl (hb hby at_218) rfl rfl ?_
      refine XS.iconst X82.here hx rfl (hb hby at_220) ?_
      refine XS.iconst X82.here hx rfl (hb hby at_221) ?_
      refine st91.trans ?_
      show Steps p.tables e below (T91.setTop (mkF m 225 #[.val (.int sh), .val (.int kd), .val (.int ez), .val (.int pz), .val (.int m11), .val (.ref b3), .val (.int v68), .val (.ref b27), .val (.int v182), .val (.int v198), .val (.int r204), .val (.ref b72), .unset] [(.int own_S0.2.2.1)])) _
      refine XS.pop X91.here hx rfl (hb hby at_225) rfl rfl ?_
      refine XS.aload X91.here hx rfl (hb hby at_226) rfl rfl ?_
      refine XS.aload X91.here hx rfl (hb hby at_228) rfl rfl ?_
      refine XS.iconst X91.here hx rfl (hb hby at_230) ?_
      refine X91.iaload hx (j := (0 : Int32)) (v := (.int (0 : Int32))) (heq_of rfl Ar97.1) (State.isArrayOf_alike hZ.alike Ar97.2.1) Ar97.2.2 hin97 hat97 (g := (mkF m 231 #[.val (.int sh), .val (.int kd), .val (.int ez), .val (.int pz), .val (.int m11), .val (.ref b3), .val (.int v68), .val (.ref b27), .val (.int v182), .val (.int v198), .val (.int r204), .val (.ref b72), .unset] [(.int (0 : Int32)), (.ref b3), (.ref b72)])) rfl rfl (hb hby at_231) _ ?_
      show Steps p.tables e below (T91.setTop (mkF m 232 #[.val (.int sh), .val (.int kd), .val (.int ez), .val (.int pz), .val (.int m11), .val (.ref b3), .val (.int v68), .val (.ref b27), .val (.int v182), .val (.int v198), .val (.int r204), .val (.ref b72), .unset] [(.int (0 : Int32)), (.ref b72)])) _
      refine XS.iconst X91.here hx rfl (hb hby at_232) ?_
      refine XS.iadd X91.here hx rfl (hb hby at_233) rfl ?_
      refine XS.aload X91.here hx rfl (hb hby at_234) rfl rfl ?_
      refine XS.iconst X91.here hx rfl (hb hby at_236) ?_
      refine X91.iaload hx (j := (1 : Int32)) (v := (.int d1)) (heq_of rfl Ar98.1) (State.isArrayOf_alike hZ.alike Ar98.2.1) Ar98.2.2 hin98 hat98 (g := (mkF m 237 #[.val (.int sh), .val (.int kd), .val (.int ez), .val (.int pz), .val (.int m11), .val (.ref b3), .val (.int v68), .val (.ref b27), .val (.int v182), .val (.int v198), .val (.int r204), .val (.ref b72), .unset] [(.int (1 : Int32)), (.ref b3), (.int (1 : Int32)), (.ref b72)])) rfl rfl (hb hby at_237) _ ?_
      show Steps p.tables e below (T91.setTop (mkF m 238 #[.val (.int sh), .val (.int kd), .val (.int ez), .val (.int pz), .val (.int m11), .val (.ref b3), .val (.int v68), .val (.ref b27), .val (.int v182), .val (.int v198), .val (.int r204), .val (.ref b72), .unset] [(.int d1), (.int (1 : Int32)), (.ref b72)])) _
      refine XS.isub X91.here hx rfl (hb hby at_238) rfl ?_
      refine st99 _ ?_
      show Steps p.tables e below (T99.setTop (mkF m 242 #[.val (.int sh), .val (.int kd), .val (.int ez), .val (.int pz), .val (.int m11), .val (.ref b3), .val (.int v68), .val (.ref b27), .val (.int v182), .val (.int v198), .val (.int r204), .val (.ref b72), .unset] [])) _
      refine XS.aload X99.here hx rfl (hb hby at_242) rfl rfl ?_
      refine XS.aload X99.here hx rfl (hb hby at_244) rfl rfl ?_
      refine XS.iconst X99.here hx rfl (hb hby at_246) ?_
      refine X99.iaload hx (j := (1 : Int32)) (v := (.int d1)) (heq_of rfl Ar105.1) (State.isArrayOf_alike hZ.alike Ar105.2.1) Ar105.2.2 hin105 hat105 (g := (mkF m 247 #[.val (.int sh), .val (.int kd), .val (.int ez), .val (.int pz), .val (.int m11), .val (.ref b3), .val (.int v68), .val (.ref b27), .val (.int v182), .val (.int v198), .val (.int r204), .val (.ref b72), .unset] [(.int (1 : Int32)), (.ref b3), (.ref b72)])) rfl rfl (hb hby at_247) _ ?_
      show Steps p.tables e below (T99.setTop (mkF m 248 #[.val (.int sh), .val (.int kd), .val (.int ez), .val (.int pz), .val (.int m11), .val (.ref b3), .val (.int v68), .val (.ref b27), .val (.int v182), .val (.int v198), .val (.int r204), .val (.ref b72), .unset] [(.int d1), (.ref b72)])) _
      refine XS.iconst X99.here hx rfl (hb hby at_248) ?_
      refine XS.iadd X99.here hx rfl (hb hby at_249) rfl ?_
      refine XS.aload X99.here hx rfl (hb hby at_250) rfl rfl ?_
      refine XS.iconst X99.here hx rfl (hb hby at_252) ?_
      refine X99.iaload hx (j := (2 : Int32)) (v := (.int d2)) (heq_of rfl Ar106.1) (State.isArrayOf_alike hZ.alike Ar106.2.1) Ar106.2.2 hin106 hat106 (g := (mkF m 253 #[.val (.int sh), .val (.int kd), .val (.int ez), .val (.int pz), .val (.int m11), .val (.ref b3), .val (.int v68), .val (.ref b27), .val (.int v182), .val (.int v198), .val (.int r204), .val (.ref b72), .unset] [(.int (2 : Int32)), (.ref b3), (.int (d1 + (1 : Int32))), (.ref b72)])) rfl rfl (hb hby at_253) _ ?_
      show Steps p.tables e below (T99.setTop (mkF m 254 #[.val (.int sh), .val (.int kd), .val (.int ez), .val (.int pz), .val (.int m11), .val (.ref b3), .val (.int v68), .val (.ref b27), .val (.int v182), .val (.int v198), .val (.int r204), .val (.ref b72), .unset] [(.int d2), (.int (d1 + (1 : Int32))), (.ref b72)])) _
      refine XS.isub X99.here hx rfl (hb hby at_254) rfl ?_
      refine st107 _ ?_
      show Steps p.tables e below (T107.setTop (mkF m 258 #[.val (.int sh), .val (.int kd), .val (.int ez), .val (.int pz), .val (.int m11), .val (.ref b3), .val (.int v68), .val (.ref b27), .val (.int v182), .val (.int v198), .val (.int r204), .val (.ref b72), .unset] [])) _
      refine XS.aload X107.here hx rfl (hb hby at_258) rfl rfl ?_
      refine XS.aload X107.here hx rfl (hb hby at_260) rfl rfl ?_
      refine XS.iconst X107.here hx rfl (hb hby at_262) ?_
      refine X107.iaload hx (j := (2 : Int32)) (v := (.int d2)) (heq_of rfl Ar113.1) (State.isArrayOf_alike hZ.alike Ar113.2.1) Ar113.2.2 hin113 hat113 (g := (mkF m 263 #[.val (.int sh), .val (.int kd), .val (.int ez), .val (.int pz), .val (.int m11), .val (.ref b3), .val (.int v68), .val (.ref b27), .val (.int v182), .val (.int v198), .val (.int r204), .val (.ref b72), .unset] [(.int (2 : Int32)), (.ref b3), (.ref b72)])) rfl rfl (hb hby at_263) _ ?_
      show Steps p.tables e below (T107.setTop (mkF m 264 #[.val (.int sh), .val (.int kd), .val (.int ez), .val (.int pz), .val (.int m11), .val (.ref b3), .val (.int v68), .val (.ref b27), .val (.int v182), .val (.int v198), .val (.int r204), .val (.ref b72), .unset] [(.int d2), (.ref b72)])) _
      refine XS.iconst X107.here hx rfl (hb hby at_264) ?_
      refine XS.iadd X107.here hx rfl (hb hby at_265) rfl ?_
      refine XS.aload X107.here hx rfl (hb hby at_266) rfl rfl ?_
      refine XS.iconst X107.here hx rfl (hb hby at_268) ?_
      refine X107.iaload hx (j := (3 : Int32)) (v := (.int d3)) (heq_of rfl Ar114.1) (State.isArrayOf_alike hZ.alike Ar114.2.1) Ar114.2.2 hin114 hat114 (g := (mkF m 269 #[.val (.int sh), .val (.int kd), .val (.int ez), .val (.int pz), .val (.int m11), .val (.ref b3), .val (.int v68), .val (.ref b27), .val (.int v182), .val (.int v198), .val (.int r204), .val (.ref b72), .unset] [(.int (3 : Int32)), (.ref b3), (.int (d2 + (1 : Int32))), (.ref b72)])) rfl rfl (hb hby at_269) _ ?_
      show Steps p.tables e below (T107.setTop (mkF m 270 #[.val (.int sh), .val (.int kd), .val (.int ez), .val (.int pz), .val (.int m11), .val (.ref b3), .val (.int v68), .val (.ref b27), .val (.int v182), .val (.int v198), .val (.int r204), .val (.ref b72), .unset] [(.int d3), (.int (d2 + (1 : Int32))), (.ref b72)])) _
      refine XS.isub X107.here hx rfl (hb hby at_270) rfl ?_
      refine st115 _ ?_
      show Steps p.tables e below (T115.setTop (mkF m 274 #[.val (.int sh), .val (.int kd), .val (.int ez), .val (.int pz), .val (.int m11), .val (.ref b3), .val (.int v68), .val (.ref b27), .val (.int v182), .val (.int v198), .val (.int r204), .val (.ref b72), .unset] [])) _
      refine XS.aload X115.here hx rfl (hb hby at_274) rfl rfl ?_
      refine XS.aload X115.here hx rfl (hb hby at_276) rfl rfl ?_
      refine XS.iconst X115.here hx rfl (hb hby at_278) ?_
      refine X115.iaload hx (j := (3 : Int32)) (v := (.int d3)) (heq_of rfl Ar121.1) (State.isArrayOf_alike hZ.alike Ar121.2.1) Ar121.2.2 hin121 hat121 (g := (mkF m 279 #[.val (.int sh), .val (.int kd), .val (.int ez), .val (.int pz), .val (.int m11), .val (.ref b3), .val (.int v68), .val (.ref b27), .val (.int v182), .val (.int v198), .val (.int r204), .val (.ref b72), .unset] [(.int (3 : Int32)), (.ref b3), (.ref b72)])) rfl rfl (hb hby at_279) _ ?_
      show Steps p.tables e below (T115.setTop (mkF m 280 #[.val (.int sh), .val (.int kd), .val (.int ez), .val (.int pz), .val (.int m11), .val (.ref b3), .val (.int v68), .val (.ref b27), .val (.int v182), .val (.int v198), .val (.int r204), .val (.ref b72), .unset] [(.int d3), (.ref b72)])) _
      refine XS.iconst X115.here hx rfl (hb hby at_280) ?_
      refine XS.iadd X115.here hx rfl (hb hby at_281) rfl ?_
      refine st122 _ ?_
      show Steps p.tables e below (T122.setTop (mkF m 285 #[.val (.int sh), .val (.int kd), .val (.int ez), .val (.int pz), .val (.int m11), .val (.ref b3), .val (.int v68), .val (.ref b27), .val (.int v182), .val (.int v198), .val (.int r204), .val (.ref b72), .unset] [])) _
      refine st128 _ ?_
      show Steps p.tables e below (T128.setTop (mkF m 288 #[.val (.int sh), .val (.int kd), .val (.int ez), .val (.int pz), .val (.int m11), .val (.ref b3), .val (.int v68), .val (.ref b27), .val (.int v182), .val (.int v198), .val (.int r204), .val (.ref b72), .unset] [(.ref b128)])) _
      refine XS.dup X128.here hx rfl (hb hby at_288) rfl rfl ?_
      refine XS.aload X128.here hx rfl (hb hby at_289) rfl rfl ?_
      refine XS.iload X128.here hx rfl (hb hby at_291) rfl ?_
      refine st139.trans ?_
      show Steps p.tables e below (T139.setTop (mkF m 296 #[.val (.int sh), .val (.int kd), .val (.int ez), .val (.int pz), .val (.int m11), .val (.ref b3), .val (.int v68), .val (.ref b27), .val (.int v182), .val (.int v198), .val (.int r204), .val (.ref b72), .unset] [(.ref b128)])) _
      refine XS.astore X139.here hx rfl (hb hby at_296) rfl rfl (l' := #[.val (.int sh), .val (.int kd), .val (.int ez), .val (.int pz), .val (.int m11), .val (.ref b3), .val (.int v68), .val (.ref b27), .val (.int v182), .val (.int v198), .val (.int r204), .val (.ref b72), .val (.ref b128)]) rfl ?_
      refine XS.aload X139.here hx rfl (hb hby at_298) rfl rfl ?_
      refine XS.iload X139.here hx rfl (hb hby at_300) rfl ?_
      refine XS.iload X139.here hx rfl (hb hby at_302) rfl ?_
      refine st152.trans ?_
      show Steps p.tables e below (T152.setTop (mkF m 307 #[.val (.int sh), .val (.int kd), .val (.int ez), .val (.int pz), .val (.int m11), .val (.ref b3), .val (.int v68), .val (.ref b27), .val (.int v182), .val (.int v198), .val (.int r204), .val (.ref b72), .val (.ref b128)] [(.int (own_bel (nar .boolean m11) (own_F2 (own_S4 d1 d2 d3)) (own_CH (own_S4 d1 d2 d3)) v68 v198))])) _
      rw [← hr304]
      show Steps p.tables e below (T152.setTop (mkF m 307 #[.val (.int sh), .val (.int kd), .val (.int ez), .val (.int pz), .val (.int m11), .val (.ref b3), .val (.int v68), .val (.ref b27), .val (.int v182), .val (.int v198), .val (.int r204), .val (.ref b72), .val (.ref b128)] [(.int r304)])) _
      refine XS.iload X152.here hx rfl (hb hby at_307) rfl ?_
      by_cases d153 : r304 = r204
      · skip
        show Steps p.tables e below (T152.setTop (mkF m 309 #[.val (.int sh), .val (.int kd), .val (.int ez), .val (.int pz), .val (.int m11), .val (.ref b3), .val (.int v68), .val (.ref b27), .val (.int v182), .val (.int v198), .val (.int r204), .val (.ref b72), .val (.ref b128)] [(.int r204), (.int r304)])) _
        refine XS.icmpNo X152.here hx rfl (hb hby at_309) rfl (teq d153).2 ?_
        refine XS.iconst X152.here hx rfl (hb hby at_312) ?_
        refine XS.goto X152.here hx rfl (pc0 := 313) (pc' := 317) rfl (hb hby at_313) (by decide) (by decide) ?_
        show Steps p.tables e below (T152.setTop (mkF m 317 #[.val (.int sh), .val (.int kd), .val (.int ez), .val (.int pz), .val (.int m11), .val (.ref b3), .val (.int v68), .val (.ref b27), .val (.int v182), .val (.int v198), .val (.int r204), .val (.ref b72), .val (.ref b128)] [(.int (1 : Int32))])) _
        exact castTop (by simp only [hm317, if_pos d153]) kt
      · skip
        show Steps p.tables e below (T152.setTop (mkF m 309 #[.val (.int sh), .val (.int kd), .val (.int ez), .val (.int pz), .val (.int m11), .val (.ref b3), .val (.int v68), .val (.ref b27), .val (.int v182), .val (.int v198), .val (.int r204), .val (.ref b72), .val (.ref b128)] [(.int r204), (.int r304)])) _
        refine XS.icmpYes X152.here hx rfl (pc0 := 309) (pc' := 316) rfl (hb hby at_309) rfl (feq d153).2 (by decide) (by decide) ?_
        refine XS.iconst X152.here hx rfl (hb hby at_316) ?_
        show Steps p.tables e below (T152.setTop (mkF m 317 #[.val (.int sh), .val (.int kd), .val (.int ez), .val (.int pz), .val (.int m11), .val (.ref b3), .val (.int v68), .val (.ref b27), .val (.int v182), .val (.int v198), .val (.int r204), .val (.ref b72), .val (.ref b128)] [(.int (0 : Int32))])) _
        exact castTop (by simp only [hm317, if_neg d153]) kt
    obtain ⟨fs, hr, hrun, hended, hW, hsame⟩ := X152.leave (v := some (Value.int (nar .boolean m317))) (fun h => by rw [Bd.returns] at h; cases h)
    have hres155 : (nar .boolean m317) = (1 : Int32) := (own_leaf_0_317_t sh kd ez pz m11 hm11 d1 hd1 d2 hd2 d3 hd3 v68 hv68 he r85 hr85 r99 hr99 r113 hr113 r127 hr127 m143 hm143 m155 hm155 m168 hm168 m181 hm181 v182 hv182 hc186_69 v198 hv198 r204 hr204 hall bd_83 hp152_hbl r304 hr304 m317 hm317)
    refine ⟨_, _, pre154 _ ?_, hrun, hended, _, _, rfl, ?_, ⟨_, rfl⟩, hW, hsame.mono (by decide) (by decide)⟩
    · skip
      show Steps p.tables e below (T152.setTop (mkF m 317 #[.val (.int sh), .val (.int kd), .val (.int ez), .val (.int pz), .val (.int m11), .val (.ref b3), .val (.int v68), .val (.ref b27), .val (.int v182), .val (.int v198), .val (.int r204), .val (.ref b72), .val (.ref b128)] [(.int m317)])) _
      exact retN X152 hx (t := .boolean) Bd.returns (by simp) (hb hby at_317) hr
    · show Q0 Z sh kd ez pz dd h0 n0 _ T152.heap _
      rw [e152]
      exact ⟨congrArg (fun z => some (Value.int z)) hres155, N152⟩
set_option maxRecDepth 65536 in
set_option maxHeartbeats 40000000 in
theorem comes_1 {Post : Tables → Env → Array Value → State → Outcome → State → Prop} (hpost : ∀ tb e args s v u, (limb_1_1.after args s (.returned v) u = true ∧ limb_1_2.after args s (.returned v) u = true ∧ True) → FrameEnd s (.returned v) u (Jvm.fieldLocs frame_1_writes args s ++ Jvm.arrayLocs frame_1_arrays args s ++ Jvm.staticLocs frame_1_statics s) 64 384 → Post tb e args s (.returned v) u) :
    ArmFor flags0 classFile x code maxLocals ret World_1 tables_1 room_1 Calls_1 rest_1 Pre_1 Post := by
  intro l hfl _ _ p e ha hc hk s m args below hf hA hF happ hP
  obtain ⟨hcalls, hrest, hpre⟩ := hP
  obtain ⟨-, -, -, hnamed, -, -, -, hat⟩ := (Spec.applies_iff hf).mp happ
  obtain ⟨hg, hn⟩ := and_e (Cond.before_iff.mp (show (Jvm.Cond.and given_1 narrow_1).before args s = true from hpre))
  obtain ⟨gv1, gv2⟩ := and_e hg
  obtain ⟨gv3, gv4⟩ := and_e gv2
  obtain ⟨gv5, gv6⟩ := and_e gv4
  obtain ⟨gv7, gv8⟩ := and_e gv6
  obtain ⟨w0, w1, w2, w3, rfl⟩ : ∃ w0 w1 w2 w3 : Value, args = #[w0, w1, w2, w3] := by
    have hs : args.size = 4 := by simpa [Cond.value, given_1] using gv1
    obtain ⟨L⟩ := args
    match L, hs with
    | [w0, w1, w2, w3], _ => exact ⟨w0, w1, w2, w3, rfl⟩
  have hw := fun d (hd : d ∈ tables_1) => atoms_spec (ws := Jvm.Cond.code x code maxLocals ret :: tables_1) hat d (List.mem_cons_of_mem _ hd)
  obtain ⟨hsets, hown0⟩ := atoms_of _ (rest_1_c_eq ▸ (show rest_1_c.before _ s = true from hrest))
  obtain ⟨i0, ei0⟩ := is_v gv3
  obtain rfl : w0 = (.int i0) := Option.some.inj ei0
  obtain ⟨i1, ei1⟩ := is_v gv5
  obtain rfl : w1 = (.int i1) := Option.some.inj ei1
  obtain ⟨i2, ei2⟩ := is_v gv7
  obtain rfl : w2 = (.int i2) := Option.some.inj ei2
  obtain ⟨i3, ei3⟩ := is_v gv8
  obtain rfl : w3 = (.int i3) := Option.some.inj ei3
  obtain ⟨dd, edd⟩ := arr_v (Cond.before_iff.mp (hsets _ (List.mem_of_getElem? (i := 6) rfl)))
  have hS0 : Sta s s.heap "java/util/ArrayList" "DEFAULTCAPACITY_EMPTY_ELEMENTDATA" "[Ljava/lang/Object;" (.ref dd) := Sta.start edd (Or.inr ⟨(hw _ (List.mem_of_getElem? (i := 31) rfl)), hsets _ (List.mem_of_getElem? (i := 2) rfl)⟩)
  obtain ⟨n, o, h1, h2, h3, _, L, rfl, ⟨rfl, N⟩, hq⟩ := rm0 l s _ hw tables_1 i0 i1 i2 i3 dd s.heap s.heap.size (Nat.le_refl _) hS0 p e ha hc hk s m _ below hf ((Spec.applies_iff_loose hf).mp happ).1 ⟨rfl, State.Warmed39.refl s, rfl⟩ trivial
  refine ⟨n, _, h1, h2, h3, hpost _ _ _ _ _ _ ⟨Cond.after_iff.mpr rfl, Cond.after_iff.mpr (eq_i res_at (Term.int_eval (1)) rfl), trivial⟩ ⟨hq.1, hq.2.1, (hq.2.2.sift fun y hy => Or.inr (N y hy)).mono (by decide) (by decide)⟩⟩
theorem main_1_1 : Claimed_1_1 := comes_1 fun _ _ _ _ _ _ h hF => ⟨h.1, hF⟩
theorem main_1_2 : Claimed_1_2 := comes_1 fun _ _ _ _ _ _ h hF => ⟨h.2.1, hF⟩
end Jvm.Pilot.@@N@@
namespace Jvm.Pilot.@@N@@
open Jvm Jvm.ClassFile Sem Op Lib Jvm.Free Jvm.Stand Jvm.Pilot.@@N@@.Jvm.D
/-! MADE BY PROGRAM (witnessworld.py) out of the Statement's table words and the real class files: 27 classes; the members and pool entries that the words name. The judged class is class 1, her method 1. -/
namespace start1
open Jvm.ClassFile
def u (s : String) : CpInfo := .utf8 (stringToUtf16 s)
/-- a pool by its gaps: so many unusable entries, then the entry; so many at the end -/
def gap : Nat → List CpInfo → List CpInfo
  | 0, r => r
  | n + 1, r => .unusable :: gap n r
def poolList (es : List (Nat × CpInfo)) (last : Nat) : List CpInfo := es.foldr (fun e r => gap e.1 (e.2 :: r)) (gap last [])
def pool (es : List (Nat × CpInfo)) (last : Nat) : Array CpInfo := ⟨poolList es last⟩
def fileOf (pool : Array CpInfo) (this : Nat) (attrs : Array Attribute := #[]) (ms : Array MethodInfo := #[]) (fl : Nat := 33) (sup : Nat := 0) (ifs : Array Nat := #[]) (fds : Array FieldInfo := #[]) : ClassFile where
  minorVersion := 0
  majorVersion := 65
  constantPool := pool
  accessFlags := fl
  thisClass := this
  superClass := sup
  interfaces := ifs
  fields := fds
  methods := ms
  attributes := attrs
def plain (name : String) (sup : Option ClassId) : Class where
  name := name
  kind := .ordinary
  loader := none
  accessFlags := 33
  super := sup
  interfaces := #[]
  cf := none
  fields := #[]
  methods := #[]
  instanceTypes := #[]
  staticTypes := #[]
  resolved := #[]
  callSites := []
  init := .initialized
  statics := none
  mirror := none

def pool0 : Array CpInfo := pool [(5, u "<init>"), (0, u "()V"), (1, .class_ 10), (1, u "java/lang/Object")] 113

def k0c0 : Code := { maxStack := 0, maxLocals := 1, code := object_method_1_code, exceptionTable := #[], attributes := #[] }
def k0m0 : Method := { name := "<init>", desc := "()V", sig := { parameters := [], returnType := none }, accessFlags := 1, code := some k0c0 }
/-- java/lang/Object -/
def k0 : Class := { plain "java/lang/Object" none with
  accessFlags := 33
  interfaces := #[]
  cf := some (fileOf pool0 8 #[] #[{ accessFlags := 1, nameIndex := 5, descriptorIndex := 6, attributes := #[] }] 33 0 #[] #[])
  fields := #[]
  methods := #[k0m0]
  instanceTypes := #[]
  staticTypes := #[]
  resolved := Array.replicate 124 none
  statics := none }

def pool1 : Array CpInfo := pool [(2, .class_ 4), (0, .nameAndType 5 6), (0, u "java/lang/Object"), (0, u "<init>"), (0, u "()V"), (0, .integer 2147483647), (0, .methodref 9 10), (0, .class_ 11), (0, .nameAndType 12 13), (0, u "com/example/twigmeter/twigmeter/workload/ReachBelowPinLaw"), (0, u "wanted"), (0, u "([IZII)Z"), (0, .methodref 9 15), (0, .nameAndType 16 17), (0, u "kth"), (0, u "([ZI)I"), (0, .class_ 19), (0, u "com/example/twigmeter/twigmeter/xml/ElementTree"), (0, .methodref 18 3), (0, .methodref 18 22), (0, .nameAndType 23 24), (0, u "open"), (0, u "(II)I"), (0, .methodref 9 26), (0, .nameAndType 27 28), (0, u "step"), (0, u "(Lcom/example/twigmeter/twigmeter/xml/ElementTree;I)V"), (0, .methodref 9 30), (0, .nameAndType 31 28), (0, u "closeTimes"), (0, .class_ 33), (0, u "com/example/twigmeter/twigmeter/workload/Reach"), (0, .methodref 32 35), (0, .nameAndType 5 36), (0, u "(Lcom/example/twigmeter/twigmeter/xml/ElementTree;Z)V"), (0, .methodref 32 38), (0, .nameAndType 39 24), (0, u "below"), (0, .methodref 18 41), (0, .nameAndType 42 6), (0, u "close"), (0, .methodref 9 44), (0, .nameAndType 45 46), (0, u "inSub"), (0, u "([III)Z"), (0, .methodref 9 48), (0, .nameAndType 49 50), (0, u "parentOf"), (0, u "([II)I"), (2, u "law"), (0, u "(IIII)Z")] 7

def k1m0 : Method := { name := "<init>", desc := "()V", sig := { parameters := [], returnType := none }, accessFlags := 1, code := none }
def k1c1 : Code := { maxStack := 6, maxLocals := 13, code := code, exceptionTable := #[], attributes := #[] }
def k1m1 : Method := { name := "law", desc := "(IIII)Z", sig := { parameters := [.int, .int, .int, .int], returnType := some .boolean }, accessFlags := 9, code := some k1c1 }
def k1c2 : Code := { maxStack := 3, maxLocals := 2, code := method_3_code, exceptionTable := #[], attributes := #[] }
def k1m2 : Method := { name := "step", desc := "(Lcom/example/twigmeter/twigmeter/xml/ElementTree;I)V", sig := { parameters := [(.object "com/example/twigmeter/twigmeter/xml/ElementTree"), .int], returnType := none }, accessFlags := 10, code := some k1c2 }
def k1c3 : Code := { maxStack := 2, maxLocals := 2, code := method_4_code, exceptionTable := #[], attributes := #[] }
def k1m3 : Method := { name := "closeTimes", desc := "(Lcom/example/twigmeter/twigmeter/xml/ElementTree;I)V", sig := { parameters := [(.object "com/example/twigmeter/twigmeter/xml/ElementTree"), .int], returnType := none }, accessFlags := 10, code := some k1c3 }
def k1c4 : Code := { maxStack := 3, maxLocals := 4, code := method_5_code, exceptionTable := #[], attributes := #[] }
def k1m4 : Method := { name := "wanted", desc := "([IZII)Z", sig := { parameters := [(.array .int), .boolean, .int, .int], returnType := some .boolean }, accessFlags := 10, code := some k1c4 }
def k1c5 : Code := { maxStack := 3, maxLocals := 2, code := method_6_code, exceptionTable := #[], attributes := #[] }
def k1m5 : Method := { name := "parentOf", desc := "([II)I", sig := { parameters := [(.array .int), .int], returnType := some .int }, accessFlags := 10, code := some k1c5 }
def k1c6 : Code := { maxStack := 3, maxLocals := 3, code := method_7_code, exceptionTable := #[], attributes := #[] }
def k1m6 : Method := { name := "inSub", desc := "([III)Z", sig := { parameters := [(.array .int), .int, .int], returnType := some .boolean }, accessFlags := 10, code := some k1c6 }
def k1c7 : Code := { maxStack := 2, maxLocals := 4, code := method_8_code, exceptionTable := #[], attributes := #[] }
def k1m7 : Method := { name := "kth", desc := "([ZI)I", sig := { parameters := [(.array .boolean), .int], returnType := some .int }, accessFlags := 10, code := some k1c7 }
/-- com/example/twigmeter/twigmeter/workload/ReachBelowPinLaw -/
def k1 : Class := { plain "com/example/twigmeter/twigmeter/workload/ReachBelowPinLaw" (some 0) with
  accessFlags := 49
  interfaces := #[]
  cf := some (fileOf pool1 9 #[] #[{ accessFlags := 1, nameIndex := 5, descriptorIndex := 6, attributes := #[] }, { accessFlags := 9, nameIndex := 53, descriptorIndex := 54, attributes := #[] }, { accessFlags := 10, nameIndex := 27, descriptorIndex := 28, attributes := #[] }, { accessFlags := 10, nameIndex := 31, descriptorIndex := 28, attributes := #[] }, { accessFlags := 10, nameIndex := 12, descriptorIndex := 13, attributes := #[] }, { accessFlags := 10, nameIndex := 49, descriptorIndex := 50, attributes := #[] }, { accessFlags := 10, nameIndex := 45, descriptorIndex := 46, attributes := #[] }, { accessFlags := 10, nameIndex := 16, descriptorIndex := 17, attributes := #[] }] 49 2 #[] #[])
  fields := #[]
  methods := #[k1m0, k1m1, k1m2, k1m3, k1m4, k1m5, k1m6, k1m7]
  instanceTypes := #[]
  staticTypes := #[]
  resolved := Array.replicate 62 none
  statics := none }

def pool2 : Array CpInfo := pool [(1, .methodref 2 3), (0, .class_ 4), (0, .nameAndType 5 6), (0, u "java/lang/Object"), (0, u "<init>"), (0, u "()V"), (0, .class_ 8), (0, u "com/example/twigmeter/twigmeter/xml/NameTable"), (0, .methodref 7 3), (0, .fieldref 11 12), (0, .class_ 13), (0, .nameAndType 14 15), (0, u "com/example/twigmeter/twigmeter/xml/ElementTree"), (0, u "names"), (0, u "Lcom/example/twigmeter/twigmeter/xml/NameTable;"), (0, .class_ 17), (0, u "com/example/twigmeter/twigmeter/xml/IntList"), (0, .methodref 16 3), (0, .fieldref 11 20), (0, .nameAndType 21 22), (0, u "nameNumbers"), (0, u "Lcom/example/twigmeter/twigmeter/xml/IntList;"), (0, .fieldref 11 24), (0, .nameAndType 25 22), (0, u "attributes"), (0, .fieldref 11 27), (0, .nameAndType 28 22), (0, u "ends"), (0, .fieldref 11 30), (0, .nameAndType 31 22), (0, u "open"), (1, .class_ 34), (0, u "com/example/twigmeter/twigmeter/xml/ElementTree$1"), (9, .methodref 16 45), (0, .nameAndType 46 47), (0, u "size"), (0, u "()I"), (0, .methodref 16 49), (0, .nameAndType 50 51), (0, u "add"), (0, u "(I)V"), (0, .methodref 16 53), (0, .nameAndType 54 47), (0, u "removeLast"), (0, .methodref 16 56), (0, .nameAndType 57 58), (0, u "set"), (0, u "(II)V"), (0, .methodref 16 60), (0, .nameAndType 61 62), (0, u "get"), (0, u "(I)I"), (7, u "(II)I"), (0, u "close"), (3, u "endOf")] 4

def k2c0 : Code := { maxStack := 3, maxLocals := 1, code := prog_64_method_1_code, exceptionTable := #[], attributes := #[] }
def k2m0 : Method := { name := "<init>", desc := "()V", sig := { parameters := [], returnType := none }, accessFlags := 1, code := some k2c0 }
def k2c1 : Code := { maxStack := 2, maxLocals := 4, code := prog_64_method_4_code, exceptionTable := #[], attributes := #[] }
def k2m1 : Method := { name := "open", desc := "(II)I", sig := { parameters := [.int, .int], returnType := some .int }, accessFlags := 1, code := some k2c1 }
def k2c2 : Code := { maxStack := 3, maxLocals := 2, code := prog_64_method_5_code, exceptionTable := #[], attributes := #[] }
def k2m2 : Method := { name := "close", desc := "()V", sig := { parameters := [], returnType := none }, accessFlags := 1, code := some k2c2 }
def k2c3 : Code := { maxStack := 1, maxLocals := 1, code := prog_64_method_7_code, exceptionTable := #[], attributes := #[] }
def k2m3 : Method := { name := "size", desc := "()I", sig := { parameters := [], returnType := some .int }, accessFlags := 1, code := some k2c3 }
def k2c4 : Code := { maxStack := 2, maxLocals := 2, code := prog_64_method_10_code, exceptionTable := #[], attributes := #[] }
def k2m4 : Method := { name := "endOf", desc := "(I)I", sig := { parameters := [.int], returnType := some .int }, accessFlags := 1, code := some k2c4 }
/-- com/example/twigmeter/twigmeter/xml/ElementTree -/
def k2 : Class := { plain "com/example/twigmeter/twigmeter/xml/ElementTree" (some 0) with
  accessFlags := 49
  interfaces := #[]
  cf := some (fileOf pool2 11 #[.nestMembers #[33]] #[{ accessFlags := 1, nameIndex := 5, descriptorIndex := 6, attributes := #[] }, { accessFlags := 1, nameIndex := 31, descriptorIndex := 70, attributes := #[] }, { accessFlags := 1, nameIndex := 71, descriptorIndex := 6, attributes := #[] }, { accessFlags := 1, nameIndex := 46, descriptorIndex := 47, attributes := #[] }, { accessFlags := 1, nameIndex := 75, descriptorIndex := 62, attributes := #[] }] 49 2 #[] #[{ accessFlags := 18, nameIndex := 14, descriptorIndex := 15, attributes := #[] }, { accessFlags := 18, nameIndex := 21, descriptorIndex := 22, attributes := #[] }, { accessFlags := 18, nameIndex := 25, descriptorIndex := 22, attributes := #[] }, { accessFlags := 18, nameIndex := 28, descriptorIndex := 22, attributes := #[] }, { accessFlags := 18, nameIndex := 31, descriptorIndex := 22, attributes := #[] }])
  fields := #[{ name := "names", type := (.object "com/example/twigmeter/twigmeter/xml/NameTable"), accessFlags := 18, slot := 0, constantValue := 0 }, { name := "nameNumbers", type := (.object "com/example/twigmeter/twigmeter/xml/IntList"), accessFlags := 18, slot := 1, constantValue := 0 }, { name := "attributes", type := (.object "com/example/twigmeter/twigmeter/xml/IntList"), accessFlags := 18, slot := 2, constantValue := 0 }, { name := "ends", type := (.object "com/example/twigmeter/twigmeter/xml/IntList"), accessFlags := 18, slot := 3, constantValue := 0 }, { name := "open", type := (.object "com/example/twigmeter/twigmeter/xml/IntList"), accessFlags := 18, slot := 4, constantValue := 0 }]
  methods := #[k2m0, k2m1, k2m2, k2m3, k2m4]
  instanceTypes := #[(.object "com/example/twigmeter/twigmeter/xml/NameTable"), (.object "com/example/twigmeter/twigmeter/xml/IntList"), (.object "com/example/twigmeter/twigmeter/xml/IntList"), (.object "com/example/twigmeter/twigmeter/xml/IntList"), (.object "com/example/twigmeter/twigmeter/xml/IntList")]
  staticTypes := #[]
  resolved := Array.replicate 80 none
  statics := none }

def pool3 : Array CpInfo := pool [(1, .methodref 2 3), (0, .class_ 4), (0, .nameAndType 5 6), (0, u "java/lang/Object"), (0, u "<init>"), (0, u "()V"), (0, .class_ 8), (0, u "java/util/ArrayList"), (0, .methodref 7 3), (0, .fieldref 11 12), (0, .class_ 13), (0, .nameAndType 14 15), (0, u "com/example/twigmeter/twigmeter/xml/NameTable"), (0, u "namespaces"), (0, u "Ljava/util/List;"), (0, .fieldref 11 17), (0, .nameAndType 18 15), (0, u "localNames"), (0, .class_ 20), (0, u "java/util/HashMap"), (0, .methodref 19 3), (0, .fieldref 11 23), (0, .nameAndType 24 25), (0, u "nameNumbers"), (0, u "Ljava/util/Map;"), (0, .class_ 27), (0, u "com/example/twigmeter/twigmeter/xml/ArrayNumbers"), (0, .methodref 26 3), (0, .fieldref 11 30), (0, .nameAndType 31 32), (0, u "attributeSets"), (0, u "Lcom/example/twigmeter/twigmeter/xml/ArrayNumbers;"), (63, .class_ 97), (0, u "com/example/twigmeter/twigmeter/xml/NameTable$SetAttributes")] 47

def k3c0 : Code := { maxStack := 3, maxLocals := 1, code := prog_67_method_1_code, exceptionTable := #[], attributes := #[] }
def k3m0 : Method := { name := "<init>", desc := "()V", sig := { parameters := [], returnType := none }, accessFlags := 1, code := some k3c0 }
/-- com/example/twigmeter/twigmeter/xml/NameTable -/
def k3 : Class := { plain "com/example/twigmeter/twigmeter/xml/NameTable" (some 0) with
  accessFlags := 49
  interfaces := #[]
  cf := some (fileOf pool3 11 #[.nestMembers #[96]] #[{ accessFlags := 1, nameIndex := 5, descriptorIndex := 6, attributes := #[] }] 49 2 #[] #[{ accessFlags := 18, nameIndex := 14, descriptorIndex := 15, attributes := #[] }, { accessFlags := 18, nameIndex := 18, descriptorIndex := 15, attributes := #[] }, { accessFlags := 18, nameIndex := 24, descriptorIndex := 25, attributes := #[] }, { accessFlags := 18, nameIndex := 31, descriptorIndex := 32, attributes := #[] }])
  fields := #[{ name := "namespaces", type := (.object "java/util/List"), accessFlags := 18, slot := 0, constantValue := 0 }, { name := "localNames", type := (.object "java/util/List"), accessFlags := 18, slot := 1, constantValue := 0 }, { name := "nameNumbers", type := (.object "java/util/Map"), accessFlags := 18, slot := 2, constantValue := 0 }, { name := "attributeSets", type := (.object "com/example/twigmeter/twigmeter/xml/ArrayNumbers"), accessFlags := 18, slot := 3, constantValue := 0 }]
  methods := #[k3m0]
  instanceTypes := #[(.object "java/util/List"), (.object "java/util/List"), (.object "java/util/Map"), (.object "com/example/twigmeter/twigmeter/xml/ArrayNumbers")]
  staticTypes := #[]
  resolved := Array.replicate 145 none
  statics := none }

def pool4 : Array CpInfo := pool [(8, .class_ 10), (1, u "java/lang/Iterable"), (24, .class_ 36), (0, u "java/lang/Object")] 25

/-- java/lang/Iterable -/
def k4 : Class := { plain "java/lang/Iterable" (some 0) with
  accessFlags := 1537
  interfaces := #[]
  cf := some (fileOf pool4 8 #[] #[] 1537 35 #[] #[])
  fields := #[]
  methods := #[]
  instanceTypes := #[]
  staticTypes := #[]
  resolved := Array.replicate 62 none
  statics := none }

def pool5 : Array CpInfo := pool [(10, .class_ 12), (1, u "java/util/Collection"), (47, .class_ 61), (0, u "java/lang/Object"), (0, .class_ 63), (0, u "java/lang/Iterable")] 51

/-- java/util/Collection -/
def k5 : Class := { plain "java/util/Collection" (some 0) with
  accessFlags := 1537
  interfaces := #[4]
  cf := some (fileOf pool5 10 #[] #[] 1537 60 #[62] #[])
  fields := #[]
  methods := #[]
  instanceTypes := #[]
  staticTypes := #[]
  resolved := Array.replicate 115 none
  statics := none }

def pool6 : Array CpInfo := pool [(1, .methodref 2 3), (0, .class_ 4), (0, .nameAndType 5 6), (0, u "java/lang/Object"), (0, u "<init>"), (0, u "()V"), (1, .class_ 10), (1, u "java/util/AbstractCollection"), (66, .class_ 78), (0, u "java/util/Collection")] 81

def k6c0 : Code := { maxStack := 1, maxLocals := 1, code := jdk_22_method_1_code, exceptionTable := #[], attributes := #[] }
def k6m0 : Method := { name := "<init>", desc := "()V", sig := { parameters := [], returnType := none }, accessFlags := 4, code := some k6c0 }
/-- java/util/AbstractCollection -/
def k6 : Class := { plain "java/util/AbstractCollection" (some 0) with
  accessFlags := 1057
  interfaces := #[5]
  cf := some (fileOf pool6 8 #[] #[{ accessFlags := 4, nameIndex := 5, descriptorIndex := 6, attributes := #[] }] 1057 2 #[77] #[])
  fields := #[]
  methods := #[k6m0]
  instanceTypes := #[]
  staticTypes := #[]
  resolved := Array.replicate 160 none
  statics := none }

def pool7 : Array CpInfo := pool [(8, .class_ 10), (1, u "java/util/SequencedCollection"), (15, .class_ 27), (0, u "java/lang/Object"), (0, .class_ 29), (0, u "java/util/Collection")] 27

/-- java/util/SequencedCollection -/
def k7 : Class := { plain "java/util/SequencedCollection" (some 0) with
  accessFlags := 1537
  interfaces := #[5]
  cf := some (fileOf pool7 8 #[] #[] 1537 26 #[28] #[])
  fields := #[]
  methods := #[]
  instanceTypes := #[]
  staticTypes := #[]
  resolved := Array.replicate 57 none
  statics := none }

def pool8 : Array CpInfo := pool [(8, .class_ 10), (1, u "java/util/List"), (92, .class_ 104), (0, u "java/lang/Object"), (15, .class_ 121), (0, u "java/util/SequencedCollection")] 129

/-- java/util/List -/
def k8 : Class := { plain "java/util/List" (some 0) with
  accessFlags := 1537
  interfaces := #[7]
  cf := some (fileOf pool8 8 #[] #[] 1537 103 #[120] #[])
  fields := #[]
  methods := #[]
  instanceTypes := #[]
  staticTypes := #[]
  resolved := Array.replicate 251 none
  statics := none }

def pool9 : Array CpInfo := pool [(1, .methodref 2 3), (0, .class_ 4), (0, .nameAndType 5 6), (0, u "java/util/AbstractCollection"), (0, u "<init>"), (0, u "()V"), (0, .fieldref 8 9), (0, .class_ 10), (0, .nameAndType 11 12), (0, u "java/util/AbstractList"), (0, u "modCount"), (0, u "I"), (64, .class_ 78), (0, u "java/util/AbstractList$Itr"), (3, .class_ 83), (0, u "java/util/AbstractList$ListItr"), (9, .class_ 94), (0, u "java/util/AbstractList$RandomAccessSubList"), (3, .class_ 99), (0, u "java/util/AbstractList$SubList"), (33, .class_ 134), (0, u "java/util/List"), (73, .class_ 209), (0, u "java/util/AbstractList$SubList$1"), (0, .class_ 211), (0, u "java/util/AbstractList$RandomAccessSpliterator")] 6

def k9c0 : Code := { maxStack := 2, maxLocals := 1, code := jdk_39_method_1_code, exceptionTable := #[], attributes := #[] }
def k9m0 : Method := { name := "<init>", desc := "()V", sig := { parameters := [], returnType := none }, accessFlags := 4, code := some k9c0 }
/-- java/util/AbstractList -/
def k9 : Class := { plain "java/util/AbstractList" (some 6) with
  accessFlags := 1057
  interfaces := #[8]
  cf := some (fileOf pool9 8 #[.nestMembers #[93, 98, 208, 210, 82, 77]] #[{ accessFlags := 4, nameIndex := 5, descriptorIndex := 6, attributes := #[] }] 1057 2 #[133] #[{ accessFlags := 132, nameIndex := 11, descriptorIndex := 12, attributes := #[] }])
  fields := #[{ name := "modCount", type := .int, accessFlags := 132, slot := 0, constantValue := 0 }]
  methods := #[k9m0]
  instanceTypes := #[.int]
  staticTypes := #[]
  resolved := Array.replicate 218 none
  statics := none }

def pool10 : Array CpInfo := pool [(1, .class_ 2), (0, u "java/util/RandomAccess"), (0, .class_ 4), (0, u "java/lang/Object")] 2

/-- java/util/RandomAccess -/
def k10 : Class := { plain "java/util/RandomAccess" (some 0) with
  accessFlags := 1537
  interfaces := #[]
  cf := some (fileOf pool10 1 #[] #[] 1537 3 #[] #[])
  fields := #[]
  methods := #[]
  instanceTypes := #[]
  staticTypes := #[]
  resolved := Array.replicate 7 none
  statics := none }

def pool11 : Array CpInfo := pool [(1, .class_ 2), (0, u "java/lang/Cloneable"), (0, .class_ 4), (0, u "java/lang/Object")] 2

/-- java/lang/Cloneable -/
def k11 : Class := { plain "java/lang/Cloneable" (some 0) with
  accessFlags := 1537
  interfaces := #[]
  cf := some (fileOf pool11 1 #[] #[] 1537 3 #[] #[])
  fields := #[]
  methods := #[]
  instanceTypes := #[]
  staticTypes := #[]
  resolved := Array.replicate 7 none
  statics := none }

def pool12 : Array CpInfo := pool [(1, .class_ 2), (0, u "java/io/Serializable"), (0, .class_ 4), (0, u "java/lang/Object")] 2

/-- java/io/Serializable -/
def k12 : Class := { plain "java/io/Serializable" (some 0) with
  accessFlags := 1537
  interfaces := #[]
  cf := some (fileOf pool12 1 #[] #[] 1537 3 #[] #[])
  fields := #[]
  methods := #[]
  instanceTypes := #[]
  staticTypes := #[]
  resolved := Array.replicate 7 none
  statics := none }

def pool13 : Array CpInfo := pool [(1, .methodref 2 3), (0, .class_ 4), (0, .nameAndType 5 6), (0, u "java/util/AbstractList"), (0, u "<init>"), (0, u "()V"), (2, .fieldref 10 11), (0, .class_ 12), (0, .nameAndType 13 14), (0, u "java/util/ArrayList"), (0, u "elementData"), (0, u "[Ljava/lang/Object;"), (2, u "EMPTY_ELEMENTDATA"), (21, .fieldref 10 40), (0, .nameAndType 41 14), (0, u "DEFAULTCAPACITY_EMPTY_ELEMENTDATA"), (8, u "size"), (0, u "I"), (96, .class_ 149), (0, u "java/util/List"), (112, .class_ 263), (0, u "java/util/ArrayList$ListItr"), (3, .class_ 268), (0, u "java/util/ArrayList$Itr"), (7, .class_ 277), (0, u "java/util/ArrayList$SubList"), (12, .class_ 291), (0, u "java/util/ArrayList$ArrayListSpliterator"), (37, .class_ 330), (0, u "java/util/RandomAccess"), (0, .class_ 332), (0, u "java/lang/Cloneable"), (0, .class_ 334), (0, u "java/io/Serializable"), (0, u "serialVersionUID"), (0, u "J"), (3, u "DEFAULT_CAPACITY"), (159, .class_ 501), (0, u "java/util/ArrayList$SubList$2"), (0, .class_ 503), (0, u "java/util/ArrayList$SubList$1")] 5

def k13c0 : Code := { maxStack := 2, maxLocals := 1, code := jdk_38_method_2_code, exceptionTable := #[], attributes := #[] }
def k13m0 : Method := { name := "<init>", desc := "()V", sig := { parameters := [], returnType := none }, accessFlags := 1, code := some k13c0 }
/-- java/util/ArrayList -/
def k13 : Class := { plain "java/util/ArrayList" (some 9) with
  accessFlags := 33
  interfaces := #[8, 10, 11, 12]
  cf := some (fileOf pool13 10 #[.nestMembers #[290, 276, 500, 502, 262, 267]] #[{ accessFlags := 1, nameIndex := 5, descriptorIndex := 6, attributes := #[] }] 33 2 #[148, 329, 331, 333] #[{ accessFlags := 26, nameIndex := 335, descriptorIndex := 336, attributes := #[] }, { accessFlags := 26, nameIndex := 340, descriptorIndex := 51, attributes := #[] }, { accessFlags := 26, nameIndex := 17, descriptorIndex := 14, attributes := #[] }, { accessFlags := 26, nameIndex := 41, descriptorIndex := 14, attributes := #[] }, { accessFlags := 128, nameIndex := 13, descriptorIndex := 14, attributes := #[] }, { accessFlags := 2, nameIndex := 50, descriptorIndex := 51, attributes := #[] }])
  fields := #[{ name := "serialVersionUID", type := .long, accessFlags := 26, slot := 0, constantValue := 0 }, { name := "DEFAULT_CAPACITY", type := .int, accessFlags := 26, slot := 1, constantValue := 0 }, { name := "EMPTY_ELEMENTDATA", type := (.array (.object "java/lang/Object")), accessFlags := 26, slot := 2, constantValue := 0 }, { name := "DEFAULTCAPACITY_EMPTY_ELEMENTDATA", type := (.array (.object "java/lang/Object")), accessFlags := 26, slot := 3, constantValue := 0 }, { name := "elementData", type := (.array (.object "java/lang/Object")), accessFlags := 128, slot := 1, constantValue := 0 }, { name := "size", type := .int, accessFlags := 2, slot := 2, constantValue := 0 }]
  methods := #[k13m0]
  instanceTypes := #[.int, (.array (.object "java/lang/Object")), .int]
  staticTypes := #[.long, .int, (.array (.object "java/lang/Object")), (.array (.object "java/lang/Object"))]
  resolved := Array.replicate 509 none
  statics := some 0 }

def pool14 : Array CpInfo := pool [(2, .class_ 4), (1, u "java/util/Map"), (31, .class_ 37), (0, u "java/util/Map$Entry"), (55, .class_ 94), (0, u "java/lang/Object")] 168

/-- java/util/Map -/
def k14 : Class := { plain "java/util/Map" (some 0) with
  accessFlags := 1537
  interfaces := #[]
  cf := some (fileOf pool14 2 #[.nestMembers #[36]] #[] 1537 93 #[] #[])
  fields := #[]
  methods := #[]
  instanceTypes := #[]
  staticTypes := #[]
  resolved := Array.replicate 263 none
  statics := none }

def pool15 : Array CpInfo := pool [(1, .methodref 2 3), (0, .class_ 4), (0, .nameAndType 5 6), (0, u "java/lang/Object"), (0, u "<init>"), (0, u "()V"), (1, .class_ 10), (1, u "java/util/AbstractMap"), (42, .class_ 54), (0, u "java/util/Map"), (9, u "keySet"), (0, u "Ljava/util/Set;"), (0, .class_ 67), (0, u "java/util/AbstractMap$1"), (5, u "values"), (0, u "Ljava/util/Collection;"), (0, .class_ 76), (0, u "java/util/AbstractMap$2"), (104, .class_ 182), (0, u "java/util/AbstractMap$ViewCollection"), (0, .class_ 184), (0, u "java/util/AbstractMap$SimpleImmutableEntry"), (0, .class_ 186), (0, u "java/util/AbstractMap$SimpleEntry"), (0, .class_ 188), (0, u "java/util/AbstractMap$2$1"), (0, .class_ 190), (0, u "java/util/AbstractMap$1$1")] 5

def k15c0 : Code := { maxStack := 1, maxLocals := 1, code := jdk_71_method_1_code, exceptionTable := #[], attributes := #[] }
def k15m0 : Method := { name := "<init>", desc := "()V", sig := { parameters := [], returnType := none }, accessFlags := 4, code := some k15c0 }
/-- java/util/AbstractMap -/
def k15 : Class := { plain "java/util/AbstractMap" (some 0) with
  accessFlags := 1057
  interfaces := #[14]
  cf := some (fileOf pool15 8 #[.nestMembers #[181, 183, 185, 75, 187, 66, 189]] #[{ accessFlags := 4, nameIndex := 5, descriptorIndex := 6, attributes := #[] }] 1057 2 #[53] #[{ accessFlags := 128, nameIndex := 64, descriptorIndex := 65, attributes := #[] }, { accessFlags := 128, nameIndex := 73, descriptorIndex := 74, attributes := #[] }])
  fields := #[{ name := "keySet", type := (.object "java/util/Set"), accessFlags := 128, slot := 0, constantValue := 0 }, { name := "values", type := (.object "java/util/Collection"), accessFlags := 128, slot := 1, constantValue := 0 }]
  methods := #[k15m0]
  instanceTypes := #[(.object "java/util/Set"), (.object "java/util/Collection")]
  staticTypes := #[]
  resolved := Array.replicate 196 none
  statics := none }

def pool16 : Array CpInfo := pool [(40, .class_ 41), (0, u "java/util/HashMap"), (1, .methodref 44 45), (0, .class_ 46), (0, .nameAndType 47 48), (0, u "java/util/AbstractMap"), (0, u "<init>"), (0, u "()V"), (32, .fieldref 40 82), (0, .nameAndType 83 84), (0, u "loadFactor"), (0, u "F"), (5, u "threshold"), (0, u "I"), (0, .float 1061158912), (8, .class_ 103), (1, u "java/util/Map"), (0, u "size"), (2, u "table"), (0, u "[Ljava/util/HashMap$Node;"), (14, u "entrySet"), (39, .class_ 165), (1, u "java/util/HashMap$Node"), (14, .class_ 181), (0, u "java/util/HashMap$TreeNode"), (22, u "modCount"), (37, u "Ljava/util/Set;"), (0, .class_ 244), (0, u "java/util/HashMap$KeySet"), (18, .class_ 264), (0, u "java/util/HashMap$Values"), (3, .class_ 269), (0, u "java/util/HashMap$EntrySet"), (76, .class_ 348), (1, u "java/util/HashMap$UnsafeHolder"), (43, .class_ 393), (0, u "java/lang/Cloneable"), (0, .class_ 395), (0, u "java/io/Serializable"), (0, u "serialVersionUID"), (0, u "J"), (3, u "DEFAULT_INITIAL_CAPACITY"), (1, u "MAXIMUM_CAPACITY"), (0, u "DEFAULT_LOAD_FACTOR"), (0, u "TREEIFY_THRESHOLD"), (1, u "UNTREEIFY_THRESHOLD"), (1, u "MIN_TREEIFY_CAPACITY"), (186, .class_ 597), (0, u "java/util/HashMap$EntrySpliterator"), (0, .class_ 599), (0, u "java/util/HashMap$ValueSpliterator"), (0, .class_ 601), (0, u "java/util/HashMap$KeySpliterator"), (0, .class_ 603), (0, u "java/util/HashMap$HashMapSpliterator"), (0, .class_ 605), (0, u "java/util/HashMap$EntryIterator"), (0, .class_ 607), (0, u "java/util/HashMap$ValueIterator"), (0, .class_ 609), (0, u "java/util/HashMap$KeyIterator"), (0, .class_ 611), (0, u "java/util/HashMap$HashIterator")] 17

def k16c0 : Code := { maxStack := 2, maxLocals := 1, code := jdk_69_method_7_code, exceptionTable := #[], attributes := #[] }
def k16m0 : Method := { name := "<init>", desc := "()V", sig := { parameters := [], returnType := none }, accessFlags := 1, code := some k16c0 }
/-- java/util/HashMap -/
def k16 : Class := { plain "java/util/HashMap" (some 15) with
  accessFlags := 33
  interfaces := #[14, 11, 12]
  cf := some (fileOf pool16 40 #[.nestMembers #[180, 596, 598, 600, 602, 604, 606, 608, 610, 346, 268, 263, 243, 163]] #[{ accessFlags := 1, nameIndex := 47, descriptorIndex := 48, attributes := #[] }] 33 44 #[101, 392, 394] #[{ accessFlags := 26, nameIndex := 396, descriptorIndex := 397, attributes := #[] }, { accessFlags := 24, nameIndex := 401, descriptorIndex := 91, attributes := #[] }, { accessFlags := 24, nameIndex := 403, descriptorIndex := 91, attributes := #[] }, { accessFlags := 24, nameIndex := 404, descriptorIndex := 84, attributes := #[] }, { accessFlags := 24, nameIndex := 405, descriptorIndex := 91, attributes := #[] }, { accessFlags := 24, nameIndex := 407, descriptorIndex := 91, attributes := #[] }, { accessFlags := 24, nameIndex := 409, descriptorIndex := 91, attributes := #[] }, { accessFlags := 128, nameIndex := 107, descriptorIndex := 108, attributes := #[] }, { accessFlags := 128, nameIndex := 123, descriptorIndex := 242, attributes := #[] }, { accessFlags := 128, nameIndex := 104, descriptorIndex := 91, attributes := #[] }, { accessFlags := 128, nameIndex := 204, descriptorIndex := 91, attributes := #[] }, { accessFlags := 0, nameIndex := 90, descriptorIndex := 91, attributes := #[] }, { accessFlags := 16, nameIndex := 83, descriptorIndex := 84, attributes := #[] }])
  fields := #[{ name := "serialVersionUID", type := .long, accessFlags := 26, slot := 0, constantValue := 0 }, { name := "DEFAULT_INITIAL_CAPACITY", type := .int, accessFlags := 24, slot := 1, constantValue := 0 }, { name := "MAXIMUM_CAPACITY", type := .int, accessFlags := 24, slot := 2, constantValue := 0 }, { name := "DEFAULT_LOAD_FACTOR", type := .float, accessFlags := 24, slot := 3, constantValue := 0 }, { name := "TREEIFY_THRESHOLD", type := .int, accessFlags := 24, slot := 4, constantValue := 0 }, { name := "UNTREEIFY_THRESHOLD", type := .int, accessFlags := 24, slot := 5, constantValue := 0 }, { name := "MIN_TREEIFY_CAPACITY", type := .int, accessFlags := 24, slot := 6, constantValue := 0 }, { name := "table", type := (.array (.object "java/util/HashMap$Node")), accessFlags := 128, slot := 2, constantValue := 0 }, { name := "entrySet", type := (.object "java/util/Set"), accessFlags := 128, slot := 3, constantValue := 0 }, { name := "size", type := .int, accessFlags := 128, slot := 4, constantValue := 0 }, { name := "modCount", type := .int, accessFlags := 128, slot := 5, constantValue := 0 }, { name := "threshold", type := .int, accessFlags := 0, slot := 6, constantValue := 0 }, { name := "loadFactor", type := .float, accessFlags := 16, slot := 7, constantValue := 0 }]
  methods := #[k16m0]
  instanceTypes := #[(.object "java/util/Set"), (.object "java/util/Collection"), (.array (.object "java/util/HashMap$Node")), (.object "java/util/Set"), .int, .int, .int, .float]
  staticTypes := #[.long, .int, .int, .float, .int, .int, .int]
  resolved := Array.replicate 629 none
  statics := none }

def pool17 : Array CpInfo := pool [(1, .methodref 2 3), (0, .class_ 4), (0, .nameAndType 5 6), (0, u "java/lang/Object"), (0, u "<init>"), (0, u "()V"), (0, .class_ 8), (0, u "java/util/ArrayList"), (0, .methodref 7 3), (0, .fieldref 11 12), (0, .class_ 13), (0, .nameAndType 14 15), (0, u "com/example/twigmeter/twigmeter/xml/ArrayNumbers"), (0, u "arrays"), (0, u "Ljava/util/List;"), (0, .class_ 17), (0, u "java/util/HashMap"), (0, .methodref 16 3), (0, .fieldref 11 20), (0, .nameAndType 21 22), (0, u "numbers"), (0, u "Ljava/util/Map;"), (0, .class_ 24), (0, u "com/example/twigmeter/twigmeter/xml/ArrayNumbers$Key")] 52

def k17c0 : Code := { maxStack := 3, maxLocals := 1, code := prog_57_method_1_code, exceptionTable := #[], attributes := #[] }
def k17m0 : Method := { name := "<init>", desc := "()V", sig := { parameters := [], returnType := none }, accessFlags := 1, code := some k17c0 }
/-- com/example/twigmeter/twigmeter/xml/ArrayNumbers -/
def k17 : Class := { plain "com/example/twigmeter/twigmeter/xml/ArrayNumbers" (some 0) with
  accessFlags := 49
  interfaces := #[]
  cf := some (fileOf pool17 11 #[.nestMembers #[23]] #[{ accessFlags := 1, nameIndex := 5, descriptorIndex := 6, attributes := #[] }] 49 2 #[] #[{ accessFlags := 18, nameIndex := 14, descriptorIndex := 15, attributes := #[] }, { accessFlags := 18, nameIndex := 21, descriptorIndex := 22, attributes := #[] }])
  fields := #[{ name := "arrays", type := (.object "java/util/List"), accessFlags := 18, slot := 0, constantValue := 0 }, { name := "numbers", type := (.object "java/util/Map"), accessFlags := 18, slot := 1, constantValue := 0 }]
  methods := #[k17m0]
  instanceTypes := #[(.object "java/util/List"), (.object "java/util/Map")]
  staticTypes := #[]
  resolved := Array.replicate 77 none
  statics := none }

def pool18 : Array CpInfo := pool [(1, .methodref 2 3), (0, .class_ 4), (0, .nameAndType 5 6), (0, u "java/lang/Object"), (0, u "<init>"), (0, u "()V"), (0, .fieldref 8 9), (0, .class_ 10), (0, .nameAndType 11 12), (0, u "com/example/twigmeter/twigmeter/xml/IntList"), (0, u "values"), (0, u "[I"), (0, .fieldref 8 14), (0, .nameAndType 15 16), (0, u "size"), (0, u "I"), (8, u "add"), (0, u "(I)V"), (1, u "get"), (0, u "(I)I"), (0, u "set"), (0, u "(II)V"), (0, u "removeLast"), (0, u "()I"), (0, u "last"), (0, u "isEmpty"), (0, u "()Z")] 4

def k18c0 : Code := { maxStack := 2, maxLocals := 1, code := prog_66_method_1_code, exceptionTable := #[], attributes := #[] }
def k18m0 : Method := { name := "<init>", desc := "()V", sig := { parameters := [], returnType := none }, accessFlags := 1, code := some k18c0 }
def k18c1 : Code := { maxStack := 5, maxLocals := 2, code := prog_66_method_2_code, exceptionTable := #[], attributes := #[] }
def k18m1 : Method := { name := "add", desc := "(I)V", sig := { parameters := [.int], returnType := none }, accessFlags := 1, code := some k18c1 }
def k18c2 : Code := { maxStack := 2, maxLocals := 2, code := prog_66_method_3_code, exceptionTable := #[], attributes := #[] }
def k18m2 : Method := { name := "get", desc := "(I)I", sig := { parameters := [.int], returnType := some .int }, accessFlags := 1, code := some k18c2 }
def k18c3 : Code := { maxStack := 3, maxLocals := 3, code := prog_66_method_4_code, exceptionTable := #[], attributes := #[] }
def k18m3 : Method := { name := "set", desc := "(II)V", sig := { parameters := [.int, .int], returnType := none }, accessFlags := 1, code := some k18c3 }
def k18c4 : Code := { maxStack := 4, maxLocals := 1, code := prog_66_method_5_code, exceptionTable := #[], attributes := #[] }
def k18m4 : Method := { name := "removeLast", desc := "()I", sig := { parameters := [], returnType := some .int }, accessFlags := 1, code := some k18c4 }
def k18c5 : Code := { maxStack := 3, maxLocals := 1, code := prog_66_method_6_code, exceptionTable := #[], attributes := #[] }
def k18m5 : Method := { name := "last", desc := "()I", sig := { parameters := [], returnType := some .int }, accessFlags := 1, code := some k18c5 }
def k18c6 : Code := { maxStack := 1, maxLocals := 1, code := prog_66_method_7_code, exceptionTable := #[], attributes := #[] }
def k18m6 : Method := { name := "size", desc := "()I", sig := { parameters := [], returnType := some .int }, accessFlags := 1, code := some k18c6 }
def k18c7 : Code := { maxStack := 1, maxLocals := 1, code := prog_66_method_8_code, exceptionTable := #[], attributes := #[] }
def k18m7 : Method := { name := "isEmpty", desc := "()Z", sig := { parameters := [], returnType := some .boolean }, accessFlags := 1, code := some k18c7 }
/-- com/example/twigmeter/twigmeter/xml/IntList -/
def k18 : Class := { plain "com/example/twigmeter/twigmeter/xml/IntList" (some 0) with
  accessFlags := 49
  interfaces := #[]
  cf := some (fileOf pool18 8 #[] #[{ accessFlags := 1, nameIndex := 5, descriptorIndex := 6, attributes := #[] }, { accessFlags := 1, nameIndex := 25, descriptorIndex := 26, attributes := #[] }, { accessFlags := 1, nameIndex := 28, descriptorIndex := 29, attributes := #[] }, { accessFlags := 1, nameIndex := 30, descriptorIndex := 31, attributes := #[] }, { accessFlags := 1, nameIndex := 32, descriptorIndex := 33, attributes := #[] }, { accessFlags := 1, nameIndex := 34, descriptorIndex := 33, attributes := #[] }, { accessFlags := 1, nameIndex := 15, descriptorIndex := 33, attributes := #[] }, { accessFlags := 1, nameIndex := 35, descriptorIndex := 36, attributes := #[] }] 49 2 #[] #[{ accessFlags := 2, nameIndex := 11, descriptorIndex := 12, attributes := #[] }, { accessFlags := 2, nameIndex := 15, descriptorIndex := 16, attributes := #[] }])
  fields := #[{ name := "values", type := (.array .int), accessFlags := 2, slot := 0, constantValue := 0 }, { name := "size", type := .int, accessFlags := 2, slot := 1, constantValue := 0 }]
  methods := #[k18m0, k18m1, k18m2, k18m3, k18m4, k18m5, k18m6, k18m7]
  instanceTypes := #[(.array .int), .int]
  staticTypes := #[]
  resolved := Array.replicate 41 none
  statics := none }

def pool19 : Array CpInfo := pool [(1, .methodref 2 3), (0, .class_ 4), (0, .nameAndType 5 6), (0, u "java/lang/Object"), (0, u "<init>"), (0, u "()V"), (0, .fieldref 8 9), (0, .class_ 10), (0, .nameAndType 11 12), (0, u "com/example/twigmeter/twigmeter/workload/Reach"), (0, u "tree"), (0, u "Lcom/example/twigmeter/twigmeter/xml/ElementTree;"), (0, .fieldref 8 14), (0, .nameAndType 15 16), (0, u "descendant"), (0, u "Z"), (0, .methodref 18 19), (0, .class_ 20), (0, .nameAndType 21 22), (0, u "com/example/twigmeter/twigmeter/xml/ElementTree"), (0, u "size"), (0, u "()I"), (0, .fieldref 8 24), (0, .nameAndType 25 26), (0, u "parents"), (0, u "[I"), (0, .class_ 28), (0, u "com/example/twigmeter/twigmeter/xml/IntList"), (0, .methodref 27 3), (0, .methodref 27 31), (0, .nameAndType 32 33), (0, u "isEmpty"), (0, u "()Z"), (0, .methodref 27 35), (0, .nameAndType 36 22), (0, u "last"), (0, .methodref 18 38), (0, .nameAndType 39 40), (0, u "endOf"), (0, u "(I)I"), (0, .methodref 27 42), (0, .nameAndType 43 22), (0, u "removeLast"), (0, .methodref 27 45), (0, .nameAndType 46 47), (0, u "add"), (0, u "(I)V"), (0, .fieldref 8 49), (0, .nameAndType 50 26), (0, u "firstChild"), (0, .fieldref 8 52), (0, .nameAndType 53 26), (0, u "children"), (0, u "NONE"), (0, u "I"), (2, u "(Lcom/example/twigmeter/twigmeter/xml/ElementTree;Z)V"), (6, u "below"), (0, u "(II)I")] 2

def k19c0 : Code := { maxStack := 5, maxLocals := 8, code := prog_53_method_1_code, exceptionTable := #[], attributes := #[] }
def k19m0 : Method := { name := "<init>", desc := "(Lcom/example/twigmeter/twigmeter/xml/ElementTree;Z)V", sig := { parameters := [(.object "com/example/twigmeter/twigmeter/xml/ElementTree"), .boolean], returnType := none }, accessFlags := 0, code := some k19c0 }
def k19c1 : Code := { maxStack := 3, maxLocals := 4, code := prog_53_method_4_code, exceptionTable := #[], attributes := #[] }
def k19m1 : Method := { name := "below", desc := "(II)I", sig := { parameters := [.int, .int], returnType := some .int }, accessFlags := 0, code := some k19c1 }
/-- com/example/twigmeter/twigmeter/workload/Reach -/
def k19 : Class := { plain "com/example/twigmeter/twigmeter/workload/Reach" (some 0) with
  accessFlags := 48
  interfaces := #[]
  cf := some (fileOf pool19 8 #[] #[{ accessFlags := 0, nameIndex := 5, descriptorIndex := 58, attributes := #[] }, { accessFlags := 0, nameIndex := 65, descriptorIndex := 66, attributes := #[] }] 48 2 #[] #[{ accessFlags := 24, nameIndex := 54, descriptorIndex := 55, attributes := #[] }, { accessFlags := 18, nameIndex := 11, descriptorIndex := 12, attributes := #[] }, { accessFlags := 18, nameIndex := 15, descriptorIndex := 16, attributes := #[] }, { accessFlags := 18, nameIndex := 25, descriptorIndex := 26, attributes := #[] }, { accessFlags := 18, nameIndex := 53, descriptorIndex := 26, attributes := #[] }, { accessFlags := 18, nameIndex := 50, descriptorIndex := 26, attributes := #[] }])
  fields := #[{ name := "NONE", type := .int, accessFlags := 24, slot := 0, constantValue := 0 }, { name := "tree", type := (.object "com/example/twigmeter/twigmeter/xml/ElementTree"), accessFlags := 18, slot := 0, constantValue := 0 }, { name := "descendant", type := .boolean, accessFlags := 18, slot := 1, constantValue := 0 }, { name := "parents", type := (.array .int), accessFlags := 18, slot := 2, constantValue := 0 }, { name := "children", type := (.array .int), accessFlags := 18, slot := 3, constantValue := 0 }, { name := "firstChild", type := (.array .int), accessFlags := 18, slot := 4, constantValue := 0 }]
  methods := #[k19m0, k19m1]
  instanceTypes := #[(.object "com/example/twigmeter/twigmeter/xml/ElementTree"), .boolean, (.array .int), (.array .int), (.array .int)]
  staticTypes := #[.int]
  resolved := Array.replicate 69 none
  statics := none }

/-- the primitive boolean -/
def k20 : Class := { plain "boolean" none with kind := .primitive 'Z', accessFlags := 0x411 }
/-- [Z -/
def k21 : Class := { plain "[Z" (some 0) with kind := .array 20 .boolean, interfaces := #[11, 12], accessFlags := 1041 }

/-- the primitive byte -/
def k22 : Class := { plain "byte" none with kind := .primitive 'B', accessFlags := 0x411 }
/-- [B -/
def k23 : Class := { plain "[B" (some 0) with kind := .array 22 .byte, interfaces := #[11, 12], accessFlags := 1041 }

/-- the primitive int -/
def k24 : Class := { plain "int" none with kind := .primitive 'I', accessFlags := 0x411 }
/-- [I -/
def k25 : Class := { plain "[I" (some 0) with kind := .array 24 .int, interfaces := #[11, 12], accessFlags := 1041 }

/-- [Ljava/lang/Object; -/
def k26 : Class := { plain "[Ljava/lang/Object;" (some 0) with kind := .array 0 (.object "java/lang/Object"), interfaces := #[11, 12], accessFlags := 1041 }

def heap : Heap := #[{ cls := 13, slots := #[.long 0, .int 0, .ref 1, .ref 2], vm := .statics 13 },
  { cls := 26, slots := #[], vm := .none },
  { cls := 26, slots := #[], vm := .none }]
def classes : Array Class := #[k0, k1, k2, k3, k4, k5, k6, k7, k8, k9, k10, k11, k12, k13, k14, k15, k16, k17, k18, k19, k20, k21, k22, k23, k24, k25, k26]
def interned : List (Array UInt16 × Addr) := []
def slotsUsed : Nat := 4
def theMethod : MethodId := ⟨1, 1⟩
def args0 : Array Value := #[.int 1, .int 2, .int 3, .int 4]
def aboutOver (below : List Frame) : State where
  vm := { classes := classes, interned := interned.toArray }
  heap := heap
  slotsUsed := slotsUsed
  threads := #[{ frames := .invoking theMethod args0 :: below }]
def below0 : List Frame := [.native { method := ⟨0, 0⟩, args := #[] }]
def about1 : State := aboutOver below0
def p0 : Program := .bare "" "" ""
def e0 : Env := launch0.env 0 0 0
theorem w_frames : about1.frames = Frame.invoking theMethod args0 :: below0 := rfl
set_option maxRecDepth 65536 in
theorem w_args : argsFit about1.vm theMethod args0 = true := by decide +kernel
set_option maxRecDepth 65536 in
theorem w_heap : heapFits about1 = true := by decide +kernel
set_option maxRecDepth 65536 in
theorem w_runnable : about1.curStatus? = some .runnable := by decide +kernel
set_option maxRecDepth 65536 in
theorem w_alone : about1.alone = true := by decide +kernel
set_option maxRecDepth 65536 in
theorem w_named : about1.methodNamed? x = some theMethod := by decide +kernel
set_option maxRecDepth 65536 in
theorem w_hears : about1.hears theMethod below0 = true := by decide +kernel
set_option maxRecDepth 65536 in
theorem w_ripe : about1.ripe theMethod args0 below0 = true := by decide +kernel
theorem w_running : about1.status = .running := rfl
set_option maxRecDepth 65536 in
theorem w_room : about1.hasRoom e0.platform room_1 = true :=
  launch0.hasRoom_least _ room_1 (by decide +kernel) (by decide +kernel) (by decide +kernel) (by decide +kernel) (by decide +kernel) (by decide +kernel)
theorem allAtoms_all (ts : List Jvm.Cond) (a : Array Jvm.Value) (st : Jvm.State) : (allAtoms ts).before a st = ts.all (fun c => c.before a st) := by
  induction ts with
  | nil => rfl
  | cons c t ih =>
    show (Jvm.Cond.and c (allAtoms t)).before a st = _
    rw [Jvm.Cond.before_and, ih, List.all_cons]
def words1 : List Jvm.Cond := Jvm.Cond.code x code maxLocals ret :: tables_1
/-- a 'code' word, met by the world's own term for the bytes: nothing is compared byte by byte -/
theorem code_word {y : MethodName} {bytes : ByteArray} {mx : Nat} {rt : Option FieldType} {a : Array Value} {s : State} {m : MethodId} {meth : Method} {c : Code} (h1 : s.methodNamed? y = some m) (h2 : s.vm.method? m = some meth) (h3 : meth.code = some c) (h4 : c.code = bytes)
    (h5 : (c.maxLocals == mx && c.exceptionTable.isEmpty && decide (c.maxStack ≤ mostOperands) && decide (meth.sig.returnType = rt) && !meth.locks && decide (parseMethodDescriptor y.desc = some meth.sig)) = true) : (Jvm.Cond.code y bytes mx rt).before a s = true := by
  simp only [Bool.and_eq_true, beq_iff_eq, Bool.not_eq_true', decide_eq_true_eq] at h5
  obtain ⟨⟨⟨⟨⟨g1, g2⟩, g3⟩, g4⟩, g5⟩, g6⟩ := h5
  simp [Cond.before, Cond.holds, Cond.value, h1, h2, h3, h4, g1, g2, g3, g4, g5, g6]
def isCode : Jvm.Cond → Bool
  | .code _ _ _ _ => true
  | _ => false
theorem all_split {L : List Jvm.Cond} {P : Jvm.Cond → Bool} (h1 : L.all (fun c => isCode c || P c) = true) (h2 : ∀ c ∈ L.filter isCode, P c = true) : L.all P = true := by
  refine List.all_eq_true.mpr fun c hc => ?_
  have h := List.all_eq_true.mp h1 c hc
  rcases Bool.eq_false_or_eq_true (isCode c) with hi | hi
  · exact h2 c (List.mem_filter.mpr ⟨hc, hi⟩)
  · simpa [hi] using h
set_option maxRecDepth 65536 in
theorem w_c0 : (Jvm.Cond.code x code maxLocals ret).before args0 about1 = true := code_word (m := ⟨1, 1⟩) (meth := k1m1) (c := k1c1) (by decide +kernel) rfl rfl rfl (by decide +kernel)
set_option maxRecDepth 65536 in
theorem w_c1 : (Jvm.Cond.code ({ cls := "com/example/twigmeter/twigmeter/workload/ReachBelowPinLaw", name := "wanted", desc := "([IZII)Z" } : Jvm.MethodName) method_5_code (4 : Nat) (Option.some Jvm.ClassFile.FieldType.boolean)).before args0 about1 = true := code_word (m := ⟨1, 4⟩) (meth := k1m4) (c := k1c4) (by decide +kernel) rfl rfl rfl (by decide +kernel)
set_option maxRecDepth 65536 in
theorem w_c2 : (Jvm.Cond.code ({ cls := "com/example/twigmeter/twigmeter/workload/ReachBelowPinLaw", name := "inSub", desc := "([III)Z" } : Jvm.MethodName) method_7_code (3 : Nat) (Option.some Jvm.ClassFile.FieldType.boolean)).before args0 about1 = true := code_word (m := ⟨1, 6⟩) (meth := k1m6) (c := k1c6) (by decide +kernel) rfl rfl rfl (by decide +kernel)
set_option maxRecDepth 65536 in
theorem w_c3 : (Jvm.Cond.code ({ cls := "com/example/twigmeter/twigmeter/workload/ReachBelowPinLaw", name := "kth", desc := "([ZI)I" } : Jvm.MethodName) method_8_code (4 : Nat) (Option.some Jvm.ClassFile.FieldType.int)).before args0 about1 = true := code_word (m := ⟨1, 7⟩) (meth := k1m7) (c := k1c7) (by decide +kernel) rfl rfl rfl (by decide +kernel)
set_option maxRecDepth 65536 in
theorem w_c4 : (Jvm.Cond.code ({ cls := "com/example/twigmeter/twigmeter/xml/ElementTree", name := "<init>", desc := "()V" } : Jvm.MethodName) prog_64_method_1_code (1 : Nat) (Option.none : Option Jvm.ClassFile.FieldType)).before args0 about1 = true := code_word (m := ⟨2, 0⟩) (meth := k2m0) (c := k2c0) (by decide +kernel) rfl rfl rfl (by decide +kernel)
set_option maxRecDepth 65536 in
theorem w_c5 : (Jvm.Cond.code ({ cls := "java/lang/Object", name := "<init>", desc := "()V" } : Jvm.MethodName) object_method_1_code (1 : Nat) (Option.none : Option Jvm.ClassFile.FieldType)).before args0 about1 = true := code_word (m := ⟨0, 0⟩) (meth := k0m0) (c := k0c0) (by decide +kernel) rfl rfl rfl (by decide +kernel)
set_option maxRecDepth 65536 in
theorem w_c6 : (Jvm.Cond.code ({ cls := "com/example/twigmeter/twigmeter/xml/NameTable", name := "<init>", desc := "()V" } : Jvm.MethodName) prog_67_method_1_code (1 : Nat) (Option.none : Option Jvm.ClassFile.FieldType)).before args0 about1 = true := code_word (m := ⟨3, 0⟩) (meth := k3m0) (c := k3c0) (by decide +kernel) rfl rfl rfl (by decide +kernel)
set_option maxRecDepth 65536 in
theorem w_c7 : (Jvm.Cond.code ({ cls := "java/util/ArrayList", name := "<init>", desc := "()V" } : Jvm.MethodName) jdk_38_method_2_code (1 : Nat) (Option.none : Option Jvm.ClassFile.FieldType)).before args0 about1 = true := code_word (m := ⟨13, 0⟩) (meth := k13m0) (c := k13c0) (by decide +kernel) rfl rfl rfl (by decide +kernel)
set_option maxRecDepth 65536 in
theorem w_c8 : (Jvm.Cond.code ({ cls := "java/util/AbstractList", name := "<init>", desc := "()V" } : Jvm.MethodName) jdk_39_method_1_code (1 : Nat) (Option.none : Option Jvm.ClassFile.FieldType)).before args0 about1 = true := code_word (m := ⟨9, 0⟩) (meth := k9m0) (c := k9c0) (by decide +kernel) rfl rfl rfl (by decide +kernel)
set_option maxRecDepth 65536 in
theorem w_c9 : (Jvm.Cond.code ({ cls := "java/util/AbstractCollection", name := "<init>", desc := "()V" } : Jvm.MethodName) jdk_22_method_1_code (1 : Nat) (Option.none : Option Jvm.ClassFile.FieldType)).before args0 about1 = true := code_word (m := ⟨6, 0⟩) (meth := k6m0) (c := k6c0) (by decide +kernel) rfl rfl rfl (by decide +kernel)
set_option maxRecDepth 65536 in
theorem w_c10 : (Jvm.Cond.code ({ cls := "java/util/HashMap", name := "<init>", desc := "()V" } : Jvm.MethodName) jdk_69_method_7_code (1 : Nat) (Option.none : Option Jvm.ClassFile.FieldType)).before args0 about1 = true := code_word (m := ⟨16, 0⟩) (meth := k16m0) (c := k16c0) (by decide +kernel) rfl rfl rfl (by decide +kernel)
set_option maxRecDepth 65536 in
theorem w_c11 : (Jvm.Cond.code ({ cls := "java/util/AbstractMap", name := "<init>", desc := "()V" } : Jvm.MethodName) jdk_71_method_1_code (1 : Nat) (Option.none : Option Jvm.ClassFile.FieldType)).before args0 about1 = true := code_word (m := ⟨15, 0⟩) (meth := k15m0) (c := k15c0) (by decide +kernel) rfl rfl rfl (by decide +kernel)
set_option maxRecDepth 65536 in
theorem w_c12 : (Jvm.Cond.code ({ cls := "com/example/twigmeter/twigmeter/xml/ArrayNumbers", name := "<init>", desc := "()V" } : Jvm.MethodName) prog_57_method_1_code (1 : Nat) (Option.none : Option Jvm.ClassFile.FieldType)).before args0 about1 = true := code_word (m := ⟨17, 0⟩) (meth := k17m0) (c := k17c0) (by decide +kernel) rfl rfl rfl (by decide +kernel)
set_option maxRecDepth 65536 in
theorem w_c13 : (Jvm.Cond.code ({ cls := "com/example/twigmeter/twigmeter/xml/IntList", name := "<init>", desc := "()V" } : Jvm.MethodName) prog_66_method_1_code (1 : Nat) (Option.none : Option Jvm.ClassFile.FieldType)).before args0 about1 = true := code_word (m := ⟨18, 0⟩) (meth := k18m0) (c := k18c0) (by decide +kernel) rfl rfl rfl (by decide +kernel)
set_option maxRecDepth 65536 in
theorem w_c14 : (Jvm.Cond.code ({ cls := "com/example/twigmeter/twigmeter/xml/ElementTree", name := "open", desc := "(II)I" } : Jvm.MethodName) prog_64_method_4_code (4 : Nat) (Option.some Jvm.ClassFile.FieldType.int)).before args0 about1 = true := code_word (m := ⟨2, 1⟩) (meth := k2m1) (c := k2c1) (by decide +kernel) rfl rfl rfl (by decide +kernel)
set_option maxRecDepth 65536 in
theorem w_c15 : (Jvm.Cond.code ({ cls := "com/example/twigmeter/twigmeter/xml/IntList", name := "size", desc := "()I" } : Jvm.MethodName) prog_66_method_7_code (1 : Nat) (Option.some Jvm.ClassFile.FieldType.int)).before args0 about1 = true := code_word (m := ⟨18, 6⟩) (meth := k18m6) (c := k18c6) (by decide +kernel) rfl rfl rfl (by decide +kernel)
set_option maxRecDepth 65536 in
theorem w_c16 : (Jvm.Cond.code ({ cls := "com/example/twigmeter/twigmeter/xml/IntList", name := "add", desc := "(I)V" } : Jvm.MethodName) prog_66_method_2_code (2 : Nat) (Option.none : Option Jvm.ClassFile.FieldType)).before args0 about1 = true := code_word (m := ⟨18, 1⟩) (meth := k18m1) (c := k18c1) (by decide +kernel) rfl rfl rfl (by decide +kernel)
set_option maxRecDepth 65536 in
theorem w_c17 : (Jvm.Cond.code ({ cls := "com/example/twigmeter/twigmeter/workload/ReachBelowPinLaw", name := "step", desc := "(Lcom/example/twigmeter/twigmeter/xml/ElementTree;I)V" } : Jvm.MethodName) method_3_code (2 : Nat) (Option.none : Option Jvm.ClassFile.FieldType)).before args0 about1 = true := code_word (m := ⟨1, 2⟩) (meth := k1m2) (c := k1c2) (by decide +kernel) rfl rfl rfl (by decide +kernel)
set_option maxRecDepth 65536 in
theorem w_c18 : (Jvm.Cond.code ({ cls := "com/example/twigmeter/twigmeter/workload/ReachBelowPinLaw", name := "closeTimes", desc := "(Lcom/example/twigmeter/twigmeter/xml/ElementTree;I)V" } : Jvm.MethodName) method_4_code (2 : Nat) (Option.none : Option Jvm.ClassFile.FieldType)).before args0 about1 = true := code_word (m := ⟨1, 3⟩) (meth := k1m3) (c := k1c3) (by decide +kernel) rfl rfl rfl (by decide +kernel)
set_option maxRecDepth 65536 in
theorem w_c19 : (Jvm.Cond.code ({ cls := "com/example/twigmeter/twigmeter/xml/ElementTree", name := "close", desc := "()V" } : Jvm.MethodName) prog_64_method_5_code (2 : Nat) (Option.none : Option Jvm.ClassFile.FieldType)).before args0 about1 = true := code_word (m := ⟨2, 2⟩) (meth := k2m2) (c := k2c2) (by decide +kernel) rfl rfl rfl (by decide +kernel)
set_option maxRecDepth 65536 in
theorem w_c20 : (Jvm.Cond.code ({ cls := "com/example/twigmeter/twigmeter/xml/IntList", name := "removeLast", desc := "()I" } : Jvm.MethodName) prog_66_method_5_code (1 : Nat) (Option.some Jvm.ClassFile.FieldType.int)).before args0 about1 = true := code_word (m := ⟨18, 4⟩) (meth := k18m4) (c := k18c4) (by decide +kernel) rfl rfl rfl (by decide +kernel)
set_option maxRecDepth 65536 in
theorem w_c21 : (Jvm.Cond.code ({ cls := "com/example/twigmeter/twigmeter/xml/IntList", name := "set", desc := "(II)V" } : Jvm.MethodName) prog_66_method_4_code (3 : Nat) (Option.none : Option Jvm.ClassFile.FieldType)).before args0 about1 = true := code_word (m := ⟨18, 3⟩) (meth := k18m3) (c := k18c3) (by decide +kernel) rfl rfl rfl (by decide +kernel)
set_option maxRecDepth 65536 in
theorem w_c22 : (Jvm.Cond.code ({ cls := "com/example/twigmeter/twigmeter/workload/Reach", name := "<init>", desc := "(Lcom/example/twigmeter/twigmeter/xml/ElementTree;Z)V" } : Jvm.MethodName) prog_53_method_1_code (8 : Nat) (Option.none : Option Jvm.ClassFile.FieldType)).before args0 about1 = true := code_word (m := ⟨19, 0⟩) (meth := k19m0) (c := k19c0) (by decide +kernel) rfl rfl rfl (by decide +kernel)
set_option maxRecDepth 65536 in
theorem w_c23 : (Jvm.Cond.code ({ cls := "com/example/twigmeter/twigmeter/xml/ElementTree", name := "size", desc := "()I" } : Jvm.MethodName) prog_64_method_7_code (1 : Nat) (Option.some Jvm.ClassFile.FieldType.int)).before args0 about1 = true := code_word (m := ⟨2, 3⟩) (meth := k2m3) (c := k2c3) (by decide +kernel) rfl rfl rfl (by decide +kernel)
set_option maxRecDepth 65536 in
theorem w_c24 : (Jvm.Cond.code ({ cls := "com/example/twigmeter/twigmeter/xml/IntList", name := "isEmpty", desc := "()Z" } : Jvm.MethodName) prog_66_method_8_code (1 : Nat) (Option.some Jvm.ClassFile.FieldType.boolean)).before args0 about1 = true := code_word (m := ⟨18, 7⟩) (meth := k18m7) (c := k18c7) (by decide +kernel) rfl rfl rfl (by decide +kernel)
set_option maxRecDepth 65536 in
theorem w_c25 : (Jvm.Cond.code ({ cls := "com/example/twigmeter/twigmeter/xml/IntList", name := "last", desc := "()I" } : Jvm.MethodName) prog_66_method_6_code (1 : Nat) (Option.some Jvm.ClassFile.FieldType.int)).before args0 about1 = true := code_word (m := ⟨18, 5⟩) (meth := k18m5) (c := k18c5) (by decide +kernel) rfl rfl rfl (by decide +kernel)
set_option maxRecDepth 65536 in
theorem w_c26 : (Jvm.Cond.code ({ cls := "com/example/twigmeter/twigmeter/xml/ElementTree", name := "endOf", desc := "(I)I" } : Jvm.MethodName) prog_64_method_10_code (2 : Nat) (Option.some Jvm.ClassFile.FieldType.int)).before args0 about1 = true := code_word (m := ⟨2, 4⟩) (meth := k2m4) (c := k2c4) (by decide +kernel) rfl rfl rfl (by decide +kernel)
set_option maxRecDepth 65536 in
theorem w_c27 : (Jvm.Cond.code ({ cls := "com/example/twigmeter/twigmeter/xml/IntList", name := "get", desc := "(I)I" } : Jvm.MethodName) prog_66_method_3_code (2 : Nat) (Option.some Jvm.ClassFile.FieldType.int)).before args0 about1 = true := code_word (m := ⟨18, 2⟩) (meth := k18m2) (c := k18c2) (by decide +kernel) rfl rfl rfl (by decide +kernel)
set_option maxRecDepth 65536 in
theorem w_c28 : (Jvm.Cond.code ({ cls := "com/example/twigmeter/twigmeter/workload/Reach", name := "below", desc := "(II)I" } : Jvm.MethodName) prog_53_method_4_code (4 : Nat) (Option.some Jvm.ClassFile.FieldType.int)).before args0 about1 = true := code_word (m := ⟨19, 1⟩) (meth := k19m1) (c := k19c1) (by decide +kernel) rfl rfl rfl (by decide +kernel)
set_option maxRecDepth 65536 in
theorem w_c29 : (Jvm.Cond.code ({ cls := "com/example/twigmeter/twigmeter/workload/ReachBelowPinLaw", name := "parentOf", desc := "([II)I" } : Jvm.MethodName) method_6_code (2 : Nat) (Option.some Jvm.ClassFile.FieldType.int)).before args0 about1 = true := code_word (m := ⟨1, 5⟩) (meth := k1m5) (c := k1c5) (by decide +kernel) rfl rfl rfl (by decide +kernel)
def codes1 : List Jvm.Cond := [Jvm.Cond.code x code maxLocals ret, Jvm.Cond.code ({ cls := "com/example/twigmeter/twigmeter/workload/ReachBelowPinLaw", name := "wanted", desc := "([IZII)Z" } : Jvm.MethodName) method_5_code (4 : Nat) (Option.some Jvm.ClassFile.FieldType.boolean), Jvm.Cond.code ({ cls := "com/example/twigmeter/twigmeter/workload/ReachBelowPinLaw", name := "inSub", desc := "([III)Z" } : Jvm.MethodName) method_7_code (3 : Nat) (Option.some Jvm.ClassFile.FieldType.boolean), Jvm.Cond.code ({ cls := "com/example/twigmeter/twigmeter/workload/ReachBelowPinLaw", name := "kth", desc := "([ZI)I" } : Jvm.MethodName) method_8_code (4 : Nat) (Option.some Jvm.ClassFile.FieldType.int), Jvm.Cond.code ({ cls := "com/example/twigmeter/twigmeter/xml/ElementTree", name := "<init>", desc := "()V" } : Jvm.MethodName) prog_64_method_1_code (1 : Nat) (Option.none : Option Jvm.ClassFile.FieldType), Jvm.Cond.code ({ cls := "java/lang/Object", name := "<init>", desc := "()V" } : Jvm.MethodName) object_method_1_code (1 : Nat) (Option.none : Option Jvm.ClassFile.FieldType), Jvm.Cond.code ({ cls := "com/example/twigmeter/twigmeter/xml/NameTable", name := "<init>", desc := "()V" } : Jvm.MethodName) prog_67_method_1_code (1 : Nat) (Option.none : Option Jvm.ClassFile.FieldType), Jvm.Cond.code ({ cls := "java/util/ArrayList", name := "<init>", desc := "()V" } : Jvm.MethodName) jdk_38_method_2_code (1 : Nat) (Option.none : Option Jvm.ClassFile.FieldType), Jvm.Cond.code ({ cls := "java/util/AbstractList", name := "<init>", desc := "()V" } : Jvm.MethodName) jdk_39_method_1_code (1 : Nat) (Option.none : Option Jvm.ClassFile.FieldType), Jvm.Cond.code ({ cls := "java/util/AbstractCollection", name := "<init>", desc := "()V" } : Jvm.MethodName) jdk_22_method_1_code (1 : Nat) (Option.none : Option Jvm.ClassFile.FieldType), Jvm.Cond.code ({ cls := "java/util/HashMap", name := "<init>", desc := "()V" } : Jvm.MethodName) jdk_69_method_7_code (1 : Nat) (Option.none : Option Jvm.ClassFile.FieldType), Jvm.Cond.code ({ cls := "java/util/AbstractMap", name := "<init>", desc := "()V" } : Jvm.MethodName) jdk_71_method_1_code (1 : Nat) (Option.none : Option Jvm.ClassFile.FieldType), Jvm.Cond.code ({ cls := "com/example/twigmeter/twigmeter/xml/ArrayNumbers", name := "<init>", desc := "()V" } : Jvm.MethodName) prog_57_method_1_code (1 : Nat) (Option.none : Option Jvm.ClassFile.FieldType), Jvm.Cond.code ({ cls := "com/example/twigmeter/twigmeter/xml/IntList", name := "<init>", desc := "()V" } : Jvm.MethodName) prog_66_method_1_code (1 : Nat) (Option.none : Option Jvm.ClassFile.FieldType), Jvm.Cond.code ({ cls := "com/example/twigmeter/twigmeter/xml/ElementTree", name := "open", desc := "(II)I" } : Jvm.MethodName) prog_64_method_4_code (4 : Nat) (Option.some Jvm.ClassFile.FieldType.int), Jvm.Cond.code ({ cls := "com/example/twigmeter/twigmeter/xml/IntList", name := "size", desc := "()I" } : Jvm.MethodName) prog_66_method_7_code (1 : Nat) (Option.some Jvm.ClassFile.FieldType.int), Jvm.Cond.code ({ cls := "com/example/twigmeter/twigmeter/xml/IntList", name := "add", desc := "(I)V" } : Jvm.MethodName) prog_66_method_2_code (2 : Nat) (Option.none : Option Jvm.ClassFile.FieldType), Jvm.Cond.code ({ cls := "com/example/twigmeter/twigmeter/workload/ReachBelowPinLaw", name := "step", desc := "(Lcom/example/twigmeter/twigmeter/xml/ElementTree;I)V" } : Jvm.MethodName) method_3_code (2 : Nat) (Option.none : Option Jvm.ClassFile.FieldType), Jvm.Cond.code ({ cls := "com/example/twigmeter/twigmeter/workload/ReachBelowPinLaw", name := "closeTimes", desc := "(Lcom/example/twigmeter/twigmeter/xml/ElementTree;I)V" } : Jvm.MethodName) method_4_code (2 : Nat) (Option.none : Option Jvm.ClassFile.FieldType), Jvm.Cond.code ({ cls := "com/example/twigmeter/twigmeter/xml/ElementTree", name := "close", desc := "()V" } : Jvm.MethodName) prog_64_method_5_code (2 : Nat) (Option.none : Option Jvm.ClassFile.FieldType), Jvm.Cond.code ({ cls := "com/example/twigmeter/twigmeter/xml/IntList", name := "removeLast", desc := "()I" } : Jvm.MethodName) prog_66_method_5_code (1 : Nat) (Option.some Jvm.ClassFile.FieldType.int), Jvm.Cond.code ({ cls := "com/example/twigmeter/twigmeter/xml/IntList", name := "set", desc := "(II)V" } : Jvm.MethodName) prog_66_method_4_code (3 : Nat) (Option.none : Option Jvm.ClassFile.FieldType), Jvm.Cond.code ({ cls := "com/example/twigmeter/twigmeter/workload/Reach", name := "<init>", desc := "(Lcom/example/twigmeter/twigmeter/xml/ElementTree;Z)V" } : Jvm.MethodName) prog_53_method_1_code (8 : Nat) (Option.none : Option Jvm.ClassFile.FieldType), Jvm.Cond.code ({ cls := "com/example/twigmeter/twigmeter/xml/ElementTree", name := "size", desc := "()I" } : Jvm.MethodName) prog_64_method_7_code (1 : Nat) (Option.some Jvm.ClassFile.FieldType.int), Jvm.Cond.code ({ cls := "com/example/twigmeter/twigmeter/xml/IntList", name := "isEmpty", desc := "()Z" } : Jvm.MethodName) prog_66_method_8_code (1 : Nat) (Option.some Jvm.ClassFile.FieldType.boolean), Jvm.Cond.code ({ cls := "com/example/twigmeter/twigmeter/xml/IntList", name := "last", desc := "()I" } : Jvm.MethodName) prog_66_method_6_code (1 : Nat) (Option.some Jvm.ClassFile.FieldType.int), Jvm.Cond.code ({ cls := "com/example/twigmeter/twigmeter/xml/ElementTree", name := "endOf", desc := "(I)I" } : Jvm.MethodName) prog_64_method_10_code (2 : Nat) (Option.some Jvm.ClassFile.FieldType.int), Jvm.Cond.code ({ cls := "com/example/twigmeter/twigmeter/xml/IntList", name := "get", desc := "(I)I" } : Jvm.MethodName) prog_66_method_3_code (2 : Nat) (Option.some Jvm.ClassFile.FieldType.int), Jvm.Cond.code ({ cls := "com/example/twigmeter/twigmeter/workload/Reach", name := "below", desc := "(II)I" } : Jvm.MethodName) prog_53_method_4_code (4 : Nat) (Option.some Jvm.ClassFile.FieldType.int), Jvm.Cond.code ({ cls := "com/example/twigmeter/twigmeter/workload/ReachBelowPinLaw", name := "parentOf", desc := "([II)I" } : Jvm.MethodName) method_6_code (2 : Nat) (Option.some Jvm.ClassFile.FieldType.int)]
set_option maxRecDepth 65536 in
theorem codes_eq : words1.filter isCode = codes1 := rfl
theorem w_codes : ∀ c ∈ words1.filter isCode, c.before args0 about1 = true := by
  rw [codes_eq]
  intro c hc
  simp only [codes1, List.mem_cons, List.not_mem_nil, or_false] at hc
  rcases hc with rfl | rfl | rfl | rfl | rfl | rfl | rfl | rfl | rfl | rfl | rfl | rfl | rfl | rfl | rfl | rfl | rfl | rfl | rfl | rfl | rfl | rfl | rfl | rfl | rfl | rfl | rfl | rfl | rfl | rfl
  · exact w_c0
  · exact w_c1
  · exact w_c2
  · exact w_c3
  · exact w_c4
  · exact w_c5
  · exact w_c6
  · exact w_c7
  · exact w_c8
  · exact w_c9
  · exact w_c10
  · exact w_c11
  · exact w_c12
  · exact w_c13
  · exact w_c14
  · exact w_c15
  · exact w_c16
  · exact w_c17
  · exact w_c18
  · exact w_c19
  · exact w_c20
  · exact w_c21
  · exact w_c22
  · exact w_c23
  · exact w_c24
  · exact w_c25
  · exact w_c26
  · exact w_c27
  · exact w_c28
  · exact w_c29
set_option maxRecDepth 65536 in
theorem w_t1 : (words1.take 24).all (fun c => isCode c || c.before args0 about1) = true := by decide +kernel
set_option maxRecDepth 65536 in
theorem w_t2 : ((words1.drop 24).take 24).all (fun c => isCode c || c.before args0 about1) = true := by decide +kernel
set_option maxRecDepth 65536 in
theorem w_t3 : (((words1.drop 24).drop 24).take 24).all (fun c => isCode c || c.before args0 about1) = true := by decide +kernel
set_option maxRecDepth 65536 in
theorem w_t4 : ((((words1.drop 24).drop 24).drop 24).take 24).all (fun c => isCode c || c.before args0 about1) = true := by decide +kernel
set_option maxRecDepth 65536 in
theorem w_t5 : (((((words1.drop 24).drop 24).drop 24).drop 24).take 24).all (fun c => isCode c || c.before args0 about1) = true := by decide +kernel
set_option maxRecDepth 65536 in
theorem w_t6 : ((((((words1.drop 24).drop 24).drop 24).drop 24).drop 24).take 24).all (fun c => isCode c || c.before args0 about1) = true := by decide +kernel
set_option maxRecDepth 65536 in
theorem w_t7 : (((((((words1.drop 24).drop 24).drop 24).drop 24).drop 24).drop 24).take 24).all (fun c => isCode c || c.before args0 about1) = true := by decide +kernel
set_option maxRecDepth 65536 in
theorem w_t8 : ((((((((words1.drop 24).drop 24).drop 24).drop 24).drop 24).drop 24).drop 24).take 24).all (fun c => isCode c || c.before args0 about1) = true := by decide +kernel
set_option maxRecDepth 65536 in
theorem w_t9 : ((((((((words1.drop 24).drop 24).drop 24).drop 24).drop 24).drop 24).drop 24).drop 24).all (fun c => isCode c || c.before args0 about1) = true := by decide +kernel
theorem w_tables : (allAtoms (Jvm.Cond.code x code maxLocals ret :: tables_1)).before args0 about1 = true := by
  rw [allAtoms_all]
  show words1.all (fun c => c.before args0 about1) = true
  refine all_split ?_ w_codes
  rw [← List.take_append_drop 24 words1, List.all_append, w_t1, ← List.take_append_drop 24 (words1.drop 24), List.all_append, w_t2, ← List.take_append_drop 24 ((words1.drop 24).drop 24), List.all_append, w_t3, ← List.take_append_drop 24 (((words1.drop 24).drop 24).drop 24), List.all_append, w_t4, ← List.take_append_drop 24 ((((words1.drop 24).drop 24).drop 24).drop 24), List.all_append, w_t5, ← List.take_append_drop 24 (((((words1.drop 24).drop 24).drop 24).drop 24).drop 24), List.all_append, w_t6, ← List.take_append_drop 24 ((((((words1.drop 24).drop 24).drop 24).drop 24).drop 24).drop 24), List.all_append, w_t7, ← List.take_append_drop 24 (((((((words1.drop 24).drop 24).drop 24).drop 24).drop 24).drop 24).drop 24), List.all_append, w_t8, w_t9]
  rfl
set_option maxRecDepth 65536 in
theorem w_rest : rest_1_c.before args0 about1 = true := by decide +kernel
set_option maxRecDepth 65536 in
theorem w_case : (Jvm.Cond.and given_1 narrow_1).before args0 about1 = true := by decide +kernel
theorem w_applies : (headSpec (Jvm.Cond.code x code maxLocals ret :: tables_1) room_1).applies x e0.platform about1 = true :=
  (Spec.applies_iff w_frames).mpr ⟨w_running, w_runnable, w_alone, w_named, w_hears, w_ripe, w_room, w_tables⟩
theorem atStart : AtStart classFile x code maxLocals ret World_1 tables_1 room_1 Calls_1 rest_1 Pre_1 launch0 p0 e0 about1 theMethod args0 below0 :=
  ⟨lists_1, trivial, launch0.admits_env _ _ _, launch0.least_env, fairChoices_fair.cas, fairChoices_fair.clock, w_frames, w_args, w_heap, w_applies, trivial, w_rest, w_case⟩
end start1
theorem witness_1 : WitnessClaimed_1 := ⟨start1.p0, start1.e0, start1.about1, start1.theMethod, start1.args0, start1.below0, start1.atStart⟩
end Jvm.Pilot.@@N@@
