import JvmDerived
import JvmDerived.Pilot.@@N@@Statement
import JvmDerived.Pilot.@@N@@Code
set_option linter.unusedVariables false
set_option linter.unusedSimpArgs false
namespace Jvm.RoadKit
theorem heq_of {T : State} {h : Heap} {a : Addr} {c : Cell} (e : T.heap = h) (q : h[a]? = some c) : T.heap[a]? = some c := by rw [e]; exact q
open Sem ClassFile Op Lib Jvm.Stand Jvm.Free Jvm.LawKit
section New
variable {p : Program} {l : Launch} {e : Env} {R : Room} {s : State} {m : MethodId} {args : Array Value} {below : List Frame} {meth : Method} {c : Code} {T : State} {locs : List Loc} {cells slots : Nat}
theorem retI (X : Stand p l e R s m args below meth c T locs cells slots) (hx : p.tables.exec = Jvm.exec) {pc : Nat} {Ls : Array Slot} {z : Int32} {rest : List Value} (hret : meth.sig.returnType = some .int) (hd : decode c.code pc = .ok (.ireturn, 1)) {fs : List Frame}
    (hl : ∀ (f : JFrame) (acts : List Action), f.method = m → f.locked = none → f.entered = [] → (doReturn e (T.setTop f) acts (some (.int z))).1 = T.setFrames fs) : Steps p.tables e below (T.setTop (mkF m pc Ls (.int z :: rest))) (T.setFrames fs) := by
  have hm' : T.vm.method? m = some meth := X.method'
  have hn : narrow .int (.int z) = .int z := rfl
  show Steps p.tables e below (T.setTop { method := m, pc := pc, locals := Ls, stack := _ :: rest, locked := none }) _
  jvm_step X.here [X.here.top, hx, hd, hm', hret, hn]
  first | (intro acts; rw [hl _ acts rfl rfl rfl]) | rw [hl _ _ rfl rfl rfl]
  exact Steps.refl _
end New
end Jvm.RoadKit
namespace Jvm.Pilot.@@N@@
open Jvm Jvm.ClassFile Sem Op Lib Jvm.Free Jvm.Stand Jvm.LawKit Jvm.RoadKit Bundle Jvm.Pilot.@@N@@.Jvm.D
def own_low (w : Int32) : Nat → Int64
  | 0 => 0
  | n + 1 => own_low w n ||| ((1 : Int64) <<< (((Int32.ofNat n) * w) &&& 0x3f).toInt64)
def own_L (w : Int32) : Int64 := own_low w ((64 : Int32) / w).toNatClampNeg
def own_H (w : Int32) : Int64 := (own_L w) <<< ((w - (1 : Int32)) &&& 0x3f).toInt64
def own_nz (lo hi z : Int64) : Int64 := (((z &&& (hi - lo)) + (hi - lo)) ||| z) &&& hi
def own_mask (w : Int32) : Int64 := if w = (64 : Int32) then (-1 : Int64) else (((1 : Int64) <<< (w &&& 0x3f).toInt64) - (1 : Int64))
def own_tab (W : Nat) : Bool := (List.range 64).all fun i =>
  ((own_H (Int32.ofNat W)).toBitVec.getLsbD i == (decide (i / W < 64 / W) && decide (i % W = W - 1))) &&
  ((own_H (Int32.ofNat W) - own_L (Int32.ofNat W)).toBitVec.getLsbD i == (decide (i / W < 64 / W) && decide (i % W ≠ W - 1))) &&
  ((own_mask (Int32.ofNat W)).toBitVec.getLsbD i == decide (i < W))
theorem own_tabs : (List.range 64).all (fun W => own_tab (W + 1)) = true := by decide +kernel
theorem own_bits (W : Nat) (h1 : 1 ≤ W) (h2 : W ≤ 64) (i : Nat) (hi : i < 64) :
    (own_H (Int32.ofNat W)).toBitVec.getLsbD i = (decide (i / W < 64 / W) && decide (i % W = W - 1)) ∧
    (own_H (Int32.ofNat W) - own_L (Int32.ofNat W)).toBitVec.getLsbD i = (decide (i / W < 64 / W) && decide (i % W ≠ W - 1)) ∧
    (own_mask (Int32.ofNat W)).toBitVec.getLsbD i = decide (i < W) := by
  have h := List.all_eq_true.1 own_tabs (W - 1) (List.mem_range.2 (by omega))
  rw [show W - 1 + 1 = W by omega] at h
  have g := List.all_eq_true.1 h i (List.mem_range.2 hi)
  simp only [Bool.and_eq_true, beq_iff_eq] at g
  exact ⟨g.1.1, g.1.2, g.2⟩
theorem own_carry (x O : BitVec 64) (W s : Nat) (hO : ∀ q, q < W - 1 → O.getLsbD (s + q) = true) (h0 : BitVec.carry s (x &&& O) O false = false) :
    ∀ q, q ≤ W - 1 → BitVec.carry (s + q) (x &&& O) O false = decide (∃ r, r < q ∧ x.getLsbD (s + r) = true) := by
  intro q
  induction q with
  | zero => intro _; rw [Nat.add_zero, h0]; simp
  | succ q ih =>
    intro hq
    rw [← Nat.add_assoc, BitVec.carry_succ, ih (by omega), BitVec.getLsbD_and, hO q (by omega)]
    rw [Bool.and_true, Bool.eq_iff_iff]
    simp only [Bool.atLeastTwo, Bool.true_and, Bool.and_true, Bool.or_eq_true, Bool.and_eq_true, decide_eq_true_eq]
    constructor
    · rintro ((h | h) | h)
      · exact ⟨q, by omega, h⟩
      · obtain ⟨r, hr, hx⟩ := h.2; exact ⟨r, by omega, hx⟩
      · obtain ⟨r, hr, hx⟩ := h; exact ⟨r, by omega, hx⟩
    · rintro ⟨r, hr, hx⟩
      by_cases e : r = q
      · subst e; exact Or.inl (Or.inl hx)
      · exact Or.inr ⟨r, by omega, hx⟩
theorem own_core (x : Int64) (W : Nat) (h1 : 1 ≤ W) (h2 : W ≤ 64) (b : Nat) (hb : b < 64) :
    (own_nz (own_L (Int32.ofNat W)) (own_H (Int32.ofNat W)) x).toBitVec.getLsbD b = (decide (b / W < 64 / W) && decide (b % W = W - 1) && decide (∃ r, r < W ∧ x.toBitVec.getLsbD (b / W * W + r) = true)) := by
  have e : (own_nz (own_L (Int32.ofNat W)) (own_H (Int32.ofNat W)) x).toBitVec = (((x.toBitVec &&& (own_H (Int32.ofNat W) - own_L (Int32.ofNat W)).toBitVec) + (own_H (Int32.ofNat W) - own_L (Int32.ofNat W)).toBitVec) ||| x.toBitVec) &&& (own_H (Int32.ofNat W)).toBitVec := rfl
  rw [e]
  have hB := own_bits W h1 h2
  generalize (own_H (Int32.ofNat W) - own_L (Int32.ofNat W)).toBitVec = O at *
  generalize (own_H (Int32.ofNat W)).toBitVec = H at *
  generalize x.toBitVec = y at *
  rw [BitVec.getLsbD_and, (hB b hb).1]
  by_cases c1 : b / W < 64 / W
  · by_cases c2 : b % W = W - 1
    · have hdm := Nat.div_add_mod b W
      generalize hj : b / W = j at *
      have hs : b = j * W + (W - 1) := by rw [Nat.mul_comm]; omega
      have hjW : j * W + W ≤ 64 := by
        have h3 : (j + 1) * W ≤ 64 / W * W := Nat.mul_le_mul_right W c1
        have h4 := Nat.div_mul_le_self 64 W
        rw [Nat.add_mul] at h3; omega
      have hO : ∀ q, q < W - 1 → O.getLsbD (j * W + q) = true := by
        intro q hq
        rw [(hB (j * W + q) (by omega)).2.1]
        have d1 : (j * W + q) / W = j := by rw [Nat.mul_comm, Nat.mul_add_div (by omega), Nat.div_eq_of_lt (by omega)]; rfl
        have d2 : (j * W + q) % W = q := by rw [Nat.mul_comm, Nat.mul_add_mod, Nat.mod_eq_of_lt (by omega)]
        rw [d1, d2]; simp [c1]; omega
      have h0 : BitVec.carry (j * W) (y &&& O) O false = false := by
        cases j with
        | zero => rw [Nat.zero_mul]; simp [BitVec.carry, Nat.mod_one]
        | succ j =>
          have t : (j + 1) * W = j * W + (W - 1) + 1 := by rw [Nat.add_mul]; omega
          rw [t, BitVec.carry_succ, BitVec.getLsbD_and]
          have tO : O.getLsbD (j * W + (W - 1)) = false := by
            rw [(hB (j * W + (W - 1)) (by omega)).2.1]
            have d2 : (j * W + (W - 1)) % W = W - 1 := by rw [Nat.mul_comm, Nat.mul_add_mod, Nat.mod_eq_of_lt (by omega)]
            rw [d2]; simp
          rw [tO]; simp [Bool.atLeastTwo]
      have hc := own_carry y O W (j * W) hO h0 (W - 1) (by omega)
      have tO : O.getLsbD b = false := by rw [(hB b hb).2.1, c2]; simp
      rw [← hs] at hc
      rw [BitVec.getLsbD_or, BitVec.getLsbD_add (by omega), BitVec.getLsbD_and, tO, hc, c2]
      have : (b % W = W - 1) := c2
      rw [Bool.eq_iff_iff]
      simp only [c1, decide_true, Bool.and_true, Bool.and_false, Bool.false_xor, Bool.or_eq_true, decide_eq_true_eq, Bool.true_and]
      constructor
      · rintro (⟨r, hr, hx⟩ | hx)
        · exact ⟨r, by omega, hx⟩
        · exact ⟨W - 1, by omega, by rw [← hs]; exact hx⟩
      · rintro ⟨r, hr, hx⟩
        by_cases e : r = W - 1
        · subst e; rw [← hs] at hx; exact Or.inr hx
        · exact Or.inl ⟨r, by omega, hx⟩
    · simp [c2]
  · simp [c1]
def own_all2 (P : Nat → Nat → Bool) : Bool := (List.range 65).all fun a => (List.range 65).all fun b => P a b
theorem own_all2_at {P : Nat → Nat → Bool} (h : own_all2 P = true) (a b : Nat) (ha : a ≤ 64) (hb : b ≤ 64) : P a b = true :=
  List.all_eq_true.1 (List.all_eq_true.1 h a (List.mem_range.2 (by omega))) b (List.mem_range.2 (by omega))
theorem own_div_t : own_all2 (fun a b => decide (Int32.ofNat a / Int32.ofNat b = Int32.ofNat (a / b)) && decide (Int32.ofNat a % Int32.ofNat b = Int32.ofNat (a % b)) && (decide (Int32.ofNat a < Int32.ofNat b) == decide (a < b)) && (decide (Int32.ofNat a = Int32.ofNat b) == decide (a = b))) = true := by decide +kernel
theorem own_small (a b : Nat) (ha : a ≤ 64) (hb : b ≤ 64) : Int32.ofNat a / Int32.ofNat b = Int32.ofNat (a / b) ∧ Int32.ofNat a % Int32.ofNat b = Int32.ofNat (a % b) ∧ (Int32.ofNat a < Int32.ofNat b ↔ a < b) ∧ (Int32.ofNat a = Int32.ofNat b ↔ a = b) := by
  have h := own_all2_at own_div_t a b ha hb
  simp only [Bool.and_eq_true, beq_iff_eq, decide_eq_true_eq] at h
  exact ⟨h.1.1.1, h.1.1.2, decide_eq_decide.1 h.1.2, decide_eq_decide.1 h.2⟩
theorem own_one_t : (List.range 65).all (fun a => decide (((Int32.ofNat a &&& 0x3f).toInt64.toUInt64.toBitVec % 64#64).toNat = a % 64) && (a == 0 || decide (Int32.ofNat a - (1 : Int32) = Int32.ofNat (a - 1))) && decide (Int32.ofNat a &&& 63 = Int32.ofNat (a % 64))) = true := by decide +kernel
theorem own_shamt (a : Nat) (ha : a < 64) : ((Int32.ofNat a &&& 0x3f).toInt64.toUInt64.toBitVec % 64#64).toNat = a := by
  have h := List.all_eq_true.1 own_one_t a (List.mem_range.2 (by omega))
  simp only [Bool.and_eq_true, decide_eq_true_eq] at h
  rw [h.1.1, Nat.mod_eq_of_lt ha]
theorem own_pred (a : Nat) (h1 : 1 ≤ a) (ha : a ≤ 64) : Int32.ofNat a - (1 : Int32) = Int32.ofNat (a - 1) := by
  have h := List.all_eq_true.1 own_one_t a (List.mem_range.2 (by omega))
  simp only [Bool.and_eq_true, decide_eq_true_eq, Bool.or_eq_true, beq_iff_eq] at h
  rcases h.1.2 with q | q
  · omega
  · exact q
theorem own_mulN (a b : Nat) : Int32.ofNat a * Int32.ofNat b = Int32.ofNat (a * b) := by
  rw [Int32.ofNat_mul]
theorem own_and63 (k : Int32) : ∃ B : Nat, B < 64 ∧ (k &&& (63 : Int32)) = Int32.ofNat B := by
  have h : (k &&& (63 : Int32)).toBitVec = k.toBitVec &&& 63#32 := rfl
  have hm : (k.toBitVec &&& 63#32).toNat ≤ 63 := by rw [BitVec.toNat_and]; exact Nat.and_le_right
  refine ⟨(k.toBitVec &&& 63#32).toNat, by omega, Int32.toBitVec_inj.1 ?_⟩
  rw [h]; apply BitVec.eq_of_toNat_eq
  show _ = (BitVec.ofNat 32 _).toNat
  rw [BitVec.toNat_ofNat, Nat.mod_eq_of_lt (by omega)]
theorem own_and63s (k : Int32) : ∃ W : Nat, 1 ≤ W ∧ W ≤ 64 ∧ (k &&& (63 : Int32)) + (1 : Int32) = Int32.ofNat W := by
  obtain ⟨B, hB, e⟩ := own_and63 k
  refine ⟨B + 1, by omega, by omega, ?_⟩
  rw [e, Int32.ofNat_add]; rfl
theorem own_ush (r : Int64) (a : Nat) (ha : a < 64) : ((r.toUInt64 >>> (Int32.ofNat a &&& 0x3f).toInt64.toUInt64).toInt64).toBitVec = r.toBitVec >>> a := by
  have h := own_shamt a ha
  show r.toBitVec >>> ((Int32.ofNat a &&& 0x3f).toInt64.toUInt64.toBitVec % 64#64).toNat = _
  rw [h]
theorem own_bit (r : Int64) (a : Nat) (ha : a < 64) : (((r.toUInt64 >>> (Int32.ofNat a &&& 0x3f).toInt64.toUInt64).toInt64) &&& (1 : Int64)) = (0 : Int64) ↔ r.toBitVec.getLsbD a = false := by
  rw [← Int64.toBitVec_inj, Int64.toBitVec_and, own_ush r a ha]
  have t1 : (1 : Int64).toBitVec = 1#64 := rfl
  have t0 : (0 : Int64).toBitVec = 0#64 := rfl
  rw [t1, t0]
  constructor
  · intro h
    have := congrArg (fun z => BitVec.getLsbD z 0) h
    simpa using this
  · intro h
    apply BitVec.eq_of_getLsbD_eq
    intro i hi
    rw [BitVec.getLsbD_and, BitVec.getLsbD_ushiftRight, BitVec.getLsbD_zero]
    cases i with
    | zero => simp [h]
    | succ i => simp
theorem own_field (x : Int64) (W s : Nat) (hW : 1 ≤ W ∧ W ≤ 64) (hs : s < 64) (M : Int64) (hM : ∀ i, i < 64 → M.toBitVec.getLsbD i = decide (i < W)) :
    (((x.toUInt64 >>> (Int32.ofNat s &&& 0x3f).toInt64.toUInt64).toInt64) &&& M) = (0 : Int64) ↔ ¬ ∃ r, r < W ∧ x.toBitVec.getLsbD (s + r) = true := by
  rw [← Int64.toBitVec_inj, Int64.toBitVec_and, own_ush x s hs]
  have t0 : (0 : Int64).toBitVec = 0#64 := rfl
  rw [t0]
  constructor
  · rintro h ⟨r, hr, hx⟩
    have g := congrArg (fun z => BitVec.getLsbD z r) h
    simp only [BitVec.getLsbD_and, BitVec.getLsbD_ushiftRight, hx, hM r (by omega), BitVec.getLsbD_zero, decide_eq_true hr, Bool.and_self] at g
    cases g
  · intro h
    apply BitVec.eq_of_getLsbD_eq
    intro i hi
    rw [BitVec.getLsbD_and, BitVec.getLsbD_ushiftRight, BitVec.getLsbD_zero, hM i hi]
    by_cases hiW : i < W
    · have : x.toBitVec.getLsbD (s + i) = false := by
        cases hx : x.toBitVec.getLsbD (s + i)
        · rfl
        · exact absurd ⟨i, hiW, hx⟩ h
      rw [this]; rfl
    · rw [decide_eq_false hiW, Bool.and_false]
theorem own_div_lt (B W : Nat) (hB : B < 64) : B / W * W < 64 := Nat.lt_of_le_of_lt (Nat.div_mul_le_self B W) hB
def own_ok (w : Int32) : Prop := ∃ W : Nat, 1 ≤ W ∧ W ≤ 64 ∧ w = Int32.ofNat W
theorem own_ok_ne (w : Int32) (h : own_ok w) : ¬ (w = (0 : Int32)) := by
  obtain ⟨W, h1, h2, rfl⟩ := h
  intro q
  have := ((own_small W 0 h2 (by decide)).2.2.2).1 q
  omega
def own_inv (w cn : Int32) (k : Nat) (i : Int32) (bs : Int64) : Prop := ∃ n Cc : Nat, Cc ≤ 64 ∧ cn = Int32.ofNat Cc ∧ i = Int32.ofNat n ∧ n + k = Cc ∧ bs = own_low w n
theorem own_cn (w : Int32) (h : own_ok w) : ∃ Cc : Nat, Cc ≤ 64 ∧ (64 : Int32) / w = Int32.ofNat Cc := by
  obtain ⟨W, h1, h2, rfl⟩ := h
  exact ⟨64 / W, Nat.div_le_self _ _, (own_small 64 W (by decide) h2).1⟩
theorem own_clamp (Cc : Nat) (h : Cc ≤ 64) : (Int32.ofNat Cc).toNatClampNeg = Cc := by
  have : (Int32.ofNat Cc).toInt = Cc := Int32.toInt_ofNat_of_lt (by omega)
  show (Int32.ofNat Cc).toInt.toNat = Cc
  rw [this]; rfl
theorem own_start (w : Int32) (h : own_ok w) : own_inv w ((64 : Int32) / w) (((64 : Int32) / w).toNatClampNeg) (0 : Int32) (0 : Int64) := by
  obtain ⟨Cc, h1, h2⟩ := own_cn w h
  refine ⟨0, Cc, h1, h2, rfl, ?_, rfl⟩
  rw [h2, own_clamp Cc h1, Nat.zero_add]
theorem own_next (w cn : Int32) (k : Nat) (i : Int32) (bs : Int64) (h : own_inv w cn k i bs) (hc : i < cn) : ∃ k' : Nat, k' < k ∧ own_inv w cn k' (i + (1 : Int32)) (bs ||| ((1 : Int64) <<< ((i * w) &&& 0x3f).toInt64)) := by
  obtain ⟨n, Cc, h1, rfl, rfl, h4, rfl⟩ := h
  have hlt := ((own_small n Cc (by omega) h1).2.2.1).1 hc
  refine ⟨k - 1, by omega, n + 1, Cc, h1, rfl, ?_, by omega, rfl⟩
  rw [Int32.ofNat_add]; rfl
theorem own_end (w cn : Int32) (k : Nat) (i : Int32) (bs : Int64) (h : own_inv w cn k i bs) (hc : ¬ (i < cn)) : i = cn ∧ bs = own_low w cn.toNatClampNeg := by
  obtain ⟨n, Cc, h1, rfl, rfl, h4, rfl⟩ := h
  have hn : n = Cc := by
    have : ¬ n < Cc := fun q => hc (((own_small n Cc (by omega) h1).2.2.1).2 q)
    omega
  subst hn
  exact ⟨rfl, by rw [own_clamp _ h1]⟩
theorem own_nzbit (w b : Int32) (z : Int64) (hw : own_ok w) (hb : ∃ B : Nat, B < 64 ∧ b = Int32.ofNat B) :
    ((((own_nz (own_L w) (own_H w) z).toUInt64 >>> (b &&& 0x3f).toInt64.toUInt64).toInt64) &&& (1 : Int64)) = (0 : Int64) ↔
    ¬ (b / w < (64 : Int32) / w ∧ b % w = w - (1 : Int32) ∧ ¬ ((((z.toUInt64 >>> (((b / w) * w) &&& 0x3f).toInt64.toUInt64).toInt64) &&& own_mask w) = (0 : Int64))) := by
  obtain ⟨W, h1, h2, rfl⟩ := hw
  obtain ⟨B, hB, rfl⟩ := hb
  have h64 : (64 : Int32) = Int32.ofNat 64 := rfl
  rw [own_bit _ B hB, own_core z W h1 h2 B hB, (own_small B W (by omega) h2).1, (own_small B W (by omega) h2).2.1, h64, (own_small 64 W (by decide) h2).1, own_pred W h1 h2, own_mulN,
    own_field z W (B / W * W) ⟨h1, h2⟩ (own_div_lt B W hB) (own_mask (Int32.ofNat W)) (fun i hi => (own_bits W h1 h2 i hi).2.2),
    (own_small (B / W) (64 / W) (Nat.le_trans (Nat.div_le_self _ _) (by omega)) (Nat.div_le_self _ _)).2.2.1, (own_small (B % W) (W - 1) (by have := Nat.mod_lt B (show W > 0 by omega); omega) (by omega)).2.2.2]
  rw [Bool.eq_false_iff]
  simp only [ne_eq, Bool.and_eq_true, decide_eq_true_eq, Classical.not_not]
  rw [and_assoc]
theorem own_zbit (w b : Int32) (z : Int64) (hw : own_ok w) (hb : ∃ B : Nat, B < 64 ∧ b = Int32.ofNat B) :
    ((((own_H w &&& (own_nz (own_L w) (own_H w) z ^^^ (-1 : Int64))).toUInt64 >>> (b &&& 0x3f).toInt64.toUInt64).toInt64) &&& (1 : Int64)) = (0 : Int64) ↔
    ¬ (b / w < (64 : Int32) / w ∧ b % w = w - (1 : Int32) ∧ ((((z.toUInt64 >>> (((b / w) * w) &&& 0x3f).toInt64.toUInt64).toInt64) &&& own_mask w) = (0 : Int64))) := by
  obtain ⟨W, h1, h2, rfl⟩ := hw
  obtain ⟨B, hB, rfl⟩ := hb
  have h64 : (64 : Int32) = Int32.ofNat 64 := rfl
  have hx : (own_H (Int32.ofNat W) &&& (own_nz (own_L (Int32.ofNat W)) (own_H (Int32.ofNat W)) z ^^^ (-1 : Int64))).toBitVec.getLsbD B = ((own_H (Int32.ofNat W)).toBitVec.getLsbD B && !(own_nz (own_L (Int32.ofNat W)) (own_H (Int32.ofNat W)) z).toBitVec.getLsbD B) := by
    rw [Int64.toBitVec_and, Int64.toBitVec_xor, BitVec.getLsbD_and, BitVec.getLsbD_xor]
    have t : (-1 : Int64).toBitVec = BitVec.allOnes 64 := by decide
    rw [t, BitVec.getLsbD_allOnes, decide_eq_true hB, Bool.xor_true]
  rw [own_bit _ B hB, hx, (own_bits W h1 h2 B hB).1, own_core z W h1 h2 B hB, (own_small B W (by omega) h2).1, (own_small B W (by omega) h2).2.1, h64, (own_small 64 W (by decide) h2).1, own_pred W h1 h2, own_mulN,
    own_field z W (B / W * W) ⟨h1, h2⟩ (own_div_lt B W hB) (own_mask (Int32.ofNat W)) (fun i hi => (own_bits W h1 h2 i hi).2.2),
    (own_small (B / W) (64 / W) (Nat.le_trans (Nat.div_le_self _ _) (by omega)) (Nat.div_le_self _ _)).2.2.1, (own_small (B % W) (W - 1) (by have := Nat.mod_lt B (show W > 0 by omega); omega) (by omega)).2.2.2]
  rw [Bool.eq_false_iff]
  by_cases c1 : B / W < 64 / W <;> by_cases c2 : B % W = W - 1 <;> simp [c1, c2]
theorem d1_22 : decode prog_7_method_1_code 22 = .ok (.iload 4, 2) := by decide +kernel
theorem d1_24 : decode prog_7_method_1_code 24 = .ok (.aload_n 0, 1) := by decide +kernel
theorem d1_25 : decode prog_7_method_1_code 25 = .ok (.getfield 15, 3) := by decide +kernel
theorem d1_28 : decode prog_7_method_1_code 28 = .ok (.if_icmp .ge 18, 3) := by decide +kernel
theorem d1_31 : decode prog_7_method_1_code 31 = .ok (.lload_n 2, 1) := by decide +kernel
theorem d1_32 : decode prog_7_method_1_code 32 = .ok (.lconst 1, 1) := by decide +kernel
theorem d1_33 : decode prog_7_method_1_code 33 = .ok (.iload 4, 2) := by decide +kernel
theorem d1_35 : decode prog_7_method_1_code 35 = .ok (.iload_n 1, 1) := by decide +kernel
theorem d1_36 : decode prog_7_method_1_code 36 = .ok (.imul, 1) := by decide +kernel
theorem d1_37 : decode prog_7_method_1_code 37 = .ok (.lshl, 1) := by decide +kernel
theorem d1_38 : decode prog_7_method_1_code 38 = .ok (.lor, 1) := by decide +kernel
theorem d1_39 : decode prog_7_method_1_code 39 = .ok (.lstore_n 2, 1) := by decide +kernel
theorem d1_40 : decode prog_7_method_1_code 40 = .ok (.iinc 4 1, 3) := by decide +kernel
theorem d1_43 : decode prog_7_method_1_code 43 = .ok (.goto (-21), 3) := by decide +kernel
theorem own_back_1_22_f (w : Int32) (cn : Int32) (k : Nat) (i : Int32) (bs : Int64) (hinv : own_inv w cn k i bs) (hc28_3 : i < cn) (v39 : Int64) (hv39 : v39 = (bs ||| ((1 : Int64) <<< ((i * w) &&& 0x3f).toInt64))) (v40 : Int32) (hv40 : v40 = (i + (1 : Int32))) : ∃ k' : Nat, k' < k ∧ own_inv w cn k' v40 v39 := by subst_vars; exact own_next w cn k i bs hinv (by assumption)
theorem own_post_1_46_t (w : Int32) (cn : Int32) (k : Nat) (i : Int32) (bs : Int64) (hinv : own_inv w cn k i bs) (hc28_3 : ¬ (i < cn)) : True := trivial
theorem own_exit_1_46t_J (w : Int32) (cn : Int32) (k : Nat) (i : Int32) (bs : Int64) (hinv : own_inv w cn k i bs) (hc28_3 : ¬ (i < cn)) : bs = (own_low w cn.toNatClampNeg) := (own_end w cn k i bs hinv (by assumption)).2
theorem own_exit_1_46t_I (w : Int32) (cn : Int32) (k : Nat) (i : Int32) (bs : Int64) (hinv : own_inv w cn k i bs) (hc28_3 : ¬ (i < cn)) : i = cn := (own_end w cn k i bs hinv (by assumption)).1
set_option maxRecDepth 65536 in
set_option maxHeartbeats 40000000 in
theorem lp1_22 {p : Program} {l : Launch} {e : Env} {s : State} {m : MethodId} {args : Array Value} {below : List Frame} {meth : Method} {c : Code} {Z : State} {a0 : Array Value} (n0 : Nat) (ob : Addr) (w : Int32) (cn : Int32) (hx : p.tables.exec = Jvm.exec) (hZ : Z.Warmed39 s.vm) (hw : ∀ d ∈ tables_1, d.before a0 Z = true) (hby : c.code = prog_7_method_1_code) (hml : c.maxLocals = 5) (hown : s.vm.findClass "com/example/yuelu/yuelu/FieldLanes" = some m.cls)  :
    ∀ (k : Nat) (i : Int32) (bs : Int64) (T0 : State) (h0 : Heap) (locs : List Loc), (own_inv w cn k i bs) → Stand p l e ({ frames := 1, cells := 0, slots := 0, locals := 12 } : Room) s m args below meth c T0 locs 0 0 → T0.heap = h0 → Fr n0 locs → n0 ≤ h0.size → Fld Z h0 ob "com/example/yuelu/yuelu/FieldLanes" "count" "I" (.int cn) → 
      ∃ (T' : State) (h' : Heap) (locs' : List Loc) , Stand p l e ({ frames := 1, cells := 0, slots := 0, locals := 12 } : Room) s m args below meth c T' locs' 0 0 ∧ T'.heap = h' ∧ Fr n0 locs' ∧ Keep h0 h' [] ∧ (True) ∧
        ∀ tq, Steps p.tables e below (T'.setTop (mkF m 46 #[.val (.ref ob), .val (.int w), .val (.long (own_low w cn.toNatClampNeg)), .second, .val (.int cn)] [])) tq → Steps p.tables e below (T0.setTop (mkF m 22 #[.val (.ref ob), .val (.int w), .val (.long bs), .second, .val (.int i)] [])) tq := by
  intro k
  induction k using Nat.strongRecOn with
  | _ k ih =>
    intro i bs T0 h0 locs hinv X0 e0 N0 Z0 I0
    have K0 : Keep h0 h0 [] := Keep.refl h0 _
    have pre0 : ∀ tq, Steps p.tables e below (T0.setTop (mkF m 22 #[.val (.ref ob), .val (.int w), .val (.long bs), .second, .val (.int i)] [])) tq → Steps p.tables e below (T0.setTop (mkF m 22 #[.val (.ref ob), .val (.int w), .val (.long bs), .second, .val (.int i)] [])) tq := fun _ h => h
    obtain ⟨T1, X1, e1, st1⟩ := getF X0 hx hZ hown (host := "") (Or.inl (hw _ (List.mem_of_getElem? (i := 11) rfl))) Via.refl e0 I0 (g := (mkF m 25 #[.val (.ref ob), .val (.int w), .val (.long bs), .second, .val (.int i)] [(.ref ob), (.int i)])) rfl rfl (hb hby d1_25)
    have pre2 : ∀ tq, Steps p.tables e below (T1.setTop (mkF m 28 #[.val (.ref ob), .val (.int w), .val (.long bs), .second, .val (.int i)] [(.int cn), (.int i)])) tq → Steps p.tables e below (T0.setTop (mkF m 22 #[.val (.ref ob), .val (.int w), .val (.long bs), .second, .val (.int i)] [])) tq := by
      intro tq kt
      refine pre0 _ ?_
      show Steps p.tables e below (T0.setTop (mkF m 22 #[.val (.ref ob), .val (.int w), .val (.long bs), .second, .val (.int i)] [])) _
      refine XS.iload X0.here hx rfl (hb hby d1_22) rfl ?_
      show Steps p.tables e below (T0.setTop (mkF m 24 #[.val (.ref ob), .val (.int w), .val (.long bs), .second, .val (.int i)] [(.int i)])) _
      refine XS.aloadN X0.here hx rfl (hb hby d1_24) rfl rfl ?_
      show Steps p.tables e below (T0.setTop (mkF m 25 #[.val (.ref ob), .val (.int w), .val (.long bs), .second, .val (.int i)] [(.ref ob), (.int i)])) _
      refine st1 _ ?_
      show Steps p.tables e below (T1.setTop (mkF m 28 #[.val (.ref ob), .val (.int w), .val (.long bs), .second, .val (.int i)] [(.int cn), (.int i)])) _
      exact kt
    by_cases hc28_3 : i < cn
    · skip
      obtain ⟨v39, hv39⟩ : ∃ z_q : Int64, z_q = (bs ||| ((1 : Int64) <<< ((i * w) &&& 0x3f).toInt64)) := ⟨_, rfl⟩
      obtain ⟨v40, hv40⟩ : ∃ z_q : Int32, z_q = (i + (1 : Int32)) := ⟨_, rfl⟩
      have pre4 : ∀ tq, Steps p.tables e below (T1.setTop (mkF m 22 #[.val (.ref ob), .val (.int w), .val (.long v39), .second, .val (.int v40)] [])) tq → Steps p.tables e below (T0.setTop (mkF m 22 #[.val (.ref ob), .val (.int w), .val (.long bs), .second, .val (.int i)] [])) tq := by
        intro tq kt
        refine pre2 _ ?_
        show Steps p.tables e below (T1.setTop (mkF m 28 #[.val (.ref ob), .val (.int w), .val (.long bs), .second, .val (.int i)] [(.int cn), (.int i)])) _
        refine XS.icmpNo X1.here hx rfl (hb hby d1_28) rfl (tlt hc28_3).2.1 ?_
        show Steps p.tables e below (T1.setTop (mkF m 31 #[.val (.ref ob), .val (.int w), .val (.long bs), .second, .val (.int i)] [])) _
        refine XS.lloadN X1.here hx rfl (hb hby d1_31) rfl ?_
        show Steps p.tables e below (T1.setTop (mkF m 32 #[.val (.ref ob), .val (.int w), .val (.long bs), .second, .val (.int i)] [(.long bs)])) _
        refine XS.lconst X1.here hx rfl (hb hby d1_32) ?_
        show Steps p.tables e below (T1.setTop (mkF m 33 #[.val (.ref ob), .val (.int w), .val (.long bs), .second, .val (.int i)] [(.long (1 : Int64)), (.long bs)])) _
        refine XS.iload X1.here hx rfl (hb hby d1_33) rfl ?_
        show Steps p.tables e below (T1.setTop (mkF m 35 #[.val (.ref ob), .val (.int w), .val (.long bs), .second, .val (.int i)] [(.int i), (.long (1 : Int64)), (.long bs)])) _
        refine XS.iloadN X1.here hx rfl (hb hby d1_35) rfl ?_
        show Steps p.tables e below (T1.setTop (mkF m 36 #[.val (.ref ob), .val (.int w), .val (.long bs), .second, .val (.int i)] [(.int w), (.int i), (.long (1 : Int64)), (.long bs)])) _
        refine XS.imul X1.here hx rfl (hb hby d1_36) rfl ?_
        show Steps p.tables e below (T1.setTop (mkF m 37 #[.val (.ref ob), .val (.int w), .val (.long bs), .second, .val (.int i)] [(.int (i * w)), (.long (1 : Int64)), (.long bs)])) _
        refine XS.lshl X1.here hx rfl (hb hby d1_37) rfl ?_
        show Steps p.tables e below (T1.setTop (mkF m 38 #[.val (.ref ob), .val (.int w), .val (.long bs), .second, .val (.int i)] [(.long ((1 : Int64) <<< ((i * w) &&& 0x3f).toInt64)), (.long bs)])) _
        refine XS.lor X1.here hx rfl (hb hby d1_38) rfl ?_
        show Steps p.tables e below (T1.setTop (mkF m 39 #[.val (.ref ob), .val (.int w), .val (.long bs), .second, .val (.int i)] [(.long (bs ||| ((1 : Int64) <<< ((i * w) &&& 0x3f).toInt64)))])) _
        refine XS.lstoreN X1.here hx rfl (hb hby d1_39) rfl (l' := #[.val (.ref ob), .val (.int w), .val (.long v39), .second, .val (.int i)]) (by rw [hv39]; rfl) ?_
        show Steps p.tables e below (T1.setTop (mkF m 40 #[.val (.ref ob), .val (.int w), .val (.long v39), .second, .val (.int i)] [])) _
        refine XS.iinc X1.here hx rfl (hb hby d1_40) rfl (l' := #[.val (.ref ob), .val (.int w), .val (.long v39), .second, .val (.int v40)]) (by rw [hv40]; rfl) ?_
        show Steps p.tables e below (T1.setTop (mkF m 43 #[.val (.ref ob), .val (.int w), .val (.long v39), .second, .val (.int v40)] [])) _
        refine XS.goto X1.here hx rfl (pc0 := 43) (pc' := 22) rfl (hb hby d1_43) (by decide) (by decide) ?_
        show Steps p.tables e below (T1.setTop (mkF m 22 #[.val (.ref ob), .val (.int w), .val (.long v39), .second, .val (.int v40)] [])) _
        exact kt
      obtain ⟨k', hk', hinv'⟩ : ∃ k' : Nat, k' < k ∧ own_inv w cn k' v40 v39 := (own_back_1_22_f w cn k i bs hinv hc28_3 v39 hv39 v40 hv40)
      obtain ⟨T', h', lc', X', e', N', K', hpost', st'⟩ := ih k' hk' (v40) (v39) T1 h0 _ hinv' X1 e1 N0 Z0 I0
      exact ⟨T', h', lc', X', e', N', K0.trans K' (fun x hx => Or.inl hx), hpost', fun tq kt => pre4 tq (st' tq kt)⟩
    · skip
      have pre6 : ∀ tq, Steps p.tables e below (T1.setTop (mkF m 46 #[.val (.ref ob), .val (.int w), .val (.long bs), .second, .val (.int i)] [])) tq → Steps p.tables e below (T0.setTop (mkF m 22 #[.val (.ref ob), .val (.int w), .val (.long bs), .second, .val (.int i)] [])) tq := by
        intro tq kt
        refine pre2 _ ?_
        show Steps p.tables e below (T1.setTop (mkF m 28 #[.val (.ref ob), .val (.int w), .val (.long bs), .second, .val (.int i)] [(.int cn), (.int i)])) _
        refine XS.icmpYes X1.here hx rfl (pc0 := 28) (pc' := 46) rfl (hb hby d1_28) rfl (flt hc28_3).2.1 (by decide) (by decide) ?_
        show Steps p.tables e below (T1.setTop (mkF m 46 #[.val (.ref ob), .val (.int w), .val (.long bs), .second, .val (.int i)] [])) _
        exact kt
      have hq7 : True := (own_post_1_46_t w cn k i bs hinv hc28_3)
      have hx8 : bs = (own_low w cn.toNatClampNeg) := (own_exit_1_46t_J w cn k i bs hinv hc28_3)
      have hx9 : i = cn := (own_exit_1_46t_I w cn k i bs hinv hc28_3)
      exact ⟨T1, h0, _, X1, e1, N0, K0, hq7, fun tq kt => pre6 tq (castTop (by rw [hx8, hx9]) kt)⟩
theorem d1_0 : decode prog_7_method_1_code 0 = .ok (.aload_n 0, 1) := by decide +kernel
theorem d1_1 : decode prog_7_method_1_code 1 = .ok (.invokespecial 1, 3) := by decide +kernel
theorem d1_4 : decode prog_7_method_1_code 4 = .ok (.aload_n 0, 1) := by decide +kernel
theorem d1_5 : decode prog_7_method_1_code 5 = .ok (.iload_n 1, 1) := by decide +kernel
theorem d1_6 : decode prog_7_method_1_code 6 = .ok (.putfield 7, 3) := by decide +kernel
theorem d1_9 : decode prog_7_method_1_code 9 = .ok (.aload_n 0, 1) := by decide +kernel
theorem d1_10 : decode prog_7_method_1_code 10 = .ok (.bipush 64, 2) := by decide +kernel
theorem d1_12 : decode prog_7_method_1_code 12 = .ok (.iload_n 1, 1) := by decide +kernel
theorem d1_13 : decode prog_7_method_1_code 13 = .ok (.idiv, 1) := by decide +kernel
theorem d1_14 : decode prog_7_method_1_code 14 = .ok (.putfield 15, 3) := by decide +kernel
theorem d1_17 : decode prog_7_method_1_code 17 = .ok (.lconst 0, 1) := by decide +kernel
theorem d1_18 : decode prog_7_method_1_code 18 = .ok (.lstore_n 2, 1) := by decide +kernel
theorem d1_19 : decode prog_7_method_1_code 19 = .ok (.iconst 0, 1) := by decide +kernel
theorem d1_20 : decode prog_7_method_1_code 20 = .ok (.istore 4, 2) := by decide +kernel
theorem d1_46 : decode prog_7_method_1_code 46 = .ok (.aload_n 0, 1) := by decide +kernel
theorem d1_47 : decode prog_7_method_1_code 47 = .ok (.lload_n 2, 1) := by decide +kernel
theorem d1_48 : decode prog_7_method_1_code 48 = .ok (.putfield 18, 3) := by decide +kernel
theorem d1_51 : decode prog_7_method_1_code 51 = .ok (.aload_n 0, 1) := by decide +kernel
theorem d1_52 : decode prog_7_method_1_code 52 = .ok (.lload_n 2, 1) := by decide +kernel
theorem d1_53 : decode prog_7_method_1_code 53 = .ok (.iload_n 1, 1) := by decide +kernel
theorem d1_54 : decode prog_7_method_1_code 54 = .ok (.iconst 1, 1) := by decide +kernel
theorem d1_55 : decode prog_7_method_1_code 55 = .ok (.isub, 1) := by decide +kernel
theorem d1_56 : decode prog_7_method_1_code 56 = .ok (.lshl, 1) := by decide +kernel
theorem d1_57 : decode prog_7_method_1_code 57 = .ok (.putfield 22, 3) := by decide +kernel
theorem d1_60 : decode prog_7_method_1_code 60 = .ok (.return_, 1) := by decide +kernel
theorem pn_1 : plainName "com/example/yuelu/yuelu/FieldLanes" = true := by first | (simp [plainName, overriddenIn]; done) | decide +kernel
theorem ef_1 (m : MethodId) (x0 : Addr) (x1 : Int32) : entryFrame m #[(.ref x0), (.int x1)] 5 = mkF m 0 #[.val (.ref x0), .val (.int x1), .unset, .unset, .unset] [] := by first | (simp [entryFrame, mkF, argsToLocals, Value.category]; done) | rfl
theorem own_side_1_13 (w : Int32) (hok : own_ok w) : ¬ (w = (0 : Int32)) := own_ok_ne w hok
theorem own_inv_1_22 (w : Int32) (hok : own_ok w) : own_inv w ((64 : Int32) / w) (((64 : Int32) / w).toNatClampNeg) (0 : Int32) (0 : Int64) := own_start w hok
def Q1 (Z : State) (ob : Addr) (w : Int32) (h0 : Heap) (n0 : Nat) (v : Option Value) (h : Heap) (L : List Loc) : Prop := v = none ∧ Fr n0 L ∧ Keep h0 h [ob] ∧ Exa Z h ob "com/example/yuelu/yuelu/FieldLanes" ∧ Fld Z h ob "com/example/yuelu/yuelu/FieldLanes" "lowestBits" "J" (.long (own_L w)) ∧ Fld Z h ob "com/example/yuelu/yuelu/FieldLanes" "highestBits" "J" (.long (own_H w))
set_option maxRecDepth 65536 in
set_option maxHeartbeats 40000000 in
theorem rm1 (l : Launch) (Z : State) (a0 : Array Value) (hw : ∀ d ∈ tables_1, d.before a0 Z = true) (ws : List Jvm.Cond) (ob : Addr) (w : Int32) (h0 : Heap) (n0 : Nat) (Z0 : n0 ≤ h0.size) (I0 : Fld Z h0 ob "com/example/yuelu/yuelu/FieldLanes" "width" "I" (.int (0 : Int32))) (I1 : Fld Z h0 ob "com/example/yuelu/yuelu/FieldLanes" "count" "I" (.int (0 : Int32))) (I2 : Fld Z h0 ob "com/example/yuelu/yuelu/FieldLanes" "lowestBits" "J" (.long (0 : Int64))) (I3 : Fld Z h0 ob "com/example/yuelu/yuelu/FieldLanes" "highestBits" "J" (.long (0 : Int64))) (I4 : Exa Z h0 ob "com/example/yuelu/yuelu/FieldLanes") (g_ob : n0 ≤ ob) (hok : own_ok w) :
    MetFree l (⟨"com/example/yuelu/yuelu/FieldLanes", "<init>", "(I)V"⟩ : MethodName) (head1 (Jvm.Cond.code (⟨"com/example/yuelu/yuelu/FieldLanes", "<init>", "(I)V"⟩ : MethodName) prog_7_method_1_code 5 none :: ws) ({ frames := 1, cells := 0, slots := 0, locals := 12 } : Room)) (fun a U => a = #[(.ref ob), (.int w)] ∧ Z.Warmed39 U.vm ∧ U.heap = h0) (fun _ _ _ _ _ => True) (fun _ U o U' => ∃ v L, o = .returned v ∧ Q1 Z ob w h0 n0 v U'.heap L ∧ FrameEnd U o U' L ({ frames := 1, cells := 0, slots := 0, locals := 12 } : Room).cells ({ frames := 1, cells := 0, slots := 0, locals := 12 } : Room).slots) := by
  refine MetFree.of_bodySF (plainFor_of_name pn_1) hisR ?_
  intro p e s m args below meth c s₁ Bd hml0 hP hK
  obtain ⟨rfl, hZ, hh⟩ := hP
  have hx := Bd.exec
  have hby := Bd.bytes
  have hml : c.maxLocals = 5 := hml0
  have hown : s.vm.findClass "com/example/yuelu/yuelu/FieldLanes" = some m.cls := findClass_of_methodNamed Bd.named
  have hnm := (name_of_methodNamed Bd.named Bd.method).1
  have X0 : Stand p l e ({ frames := 1, cells := 0, slots := 0, locals := 12 } : Room) s m #[(.ref ob), (.int w)] below meth c s₁ [] 0 0 := Stand.of_body Bd
  have e0 : s₁.heap = h0 := by rw [← hh, Bd.state]; rfl
  have N0 := Fr.nil n0
  have K0 : Keep h0 h0 [ob] := Keep.refl h0 _
  have pre0 : ∀ tq, Steps p.tables e below (s₁.setTop (mkF m 0 #[.val (.ref ob), .val (.int w), .unset, .unset, .unset] [])) tq → Steps p.tables e below (s₁.setTop (entryFrame m #[(.ref ob), (.int w)] 5)) tq := fun tq kq => castTop (ef_1 m ob w) kq
  obtain ⟨T1, X1, e1, st1⟩ := initO X0 hx hZ hown (hw _ (List.mem_of_getElem? (i := 6) rfl)) (hw _ (List.mem_of_getElem? (i := 7) rfl)) (hw _ (List.mem_of_getElem? (i := 8) rfl)) e0 (g := (mkF m 1 #[.val (.ref ob), .val (.int w), .unset, .unset, .unset] [(.ref ob)])) rfl (by rw [hml]; rfl) rfl (hb hby d1_1) (by decide) (W := 0) (by show 2 * 0 + _ ≤ _; exact Nat.le_of_eq rfl) (by decide)
  obtain ⟨T2, hX2, X2, e2, W2, st2⟩ := putF X1 hx hZ hown (host := "") (Or.inl (hw _ (List.mem_of_getElem? (i := 9) rfl))) Via.refl e1 I0 I4 (Or.inr ⟨(hw _ (List.mem_of_getElem? (i := 10) rfl)), rfl, hnm⟩) (hw _ (List.mem_of_getElem? (i := 1) rfl)) (ty := .int) (by decide) rfl rfl (g := (mkF m 6 #[.val (.ref ob), .val (.int w), .unset, .unset, .unset] [(.int w), (.ref ob)])) rfl rfl (hb hby d1_6)
  have N2 := Fr.snoc X2 N0 g_ob
  have F3 : Fld Z hX2 ob "com/example/yuelu/yuelu/FieldLanes" "width" "I" (.int w) := I0.same W2
  have F4 : Fld Z hX2 ob "com/example/yuelu/yuelu/FieldLanes" "count" "I" (.int (0 : Int32)) := I1.other W2 (Or.inr (slot_ne (Or.inr (hw _ (List.mem_of_getElem? (i := 12) rfl))) (Or.inr (hw _ (List.mem_of_getElem? (i := 10) rfl))) (by decide) (t := .int) (t' := .int) (by decide) (by decide)))
  have F5 : Fld Z hX2 ob "com/example/yuelu/yuelu/FieldLanes" "lowestBits" "J" (.long (0 : Int64)) := I2.other W2 (Or.inr (slot_ne (Or.inr (hw _ (List.mem_of_getElem? (i := 14) rfl))) (Or.inr (hw _ (List.mem_of_getElem? (i := 10) rfl))) (by decide) (t := .long) (t' := .int) (by decide) (by decide)))
  have F6 : Fld Z hX2 ob "com/example/yuelu/yuelu/FieldLanes" "highestBits" "J" (.long (0 : Int64)) := I3.other W2 (Or.inr (slot_ne (Or.inr (hw _ (List.mem_of_getElem? (i := 16) rfl))) (Or.inr (hw _ (List.mem_of_getElem? (i := 10) rfl))) (by decide) (t := .long) (t' := .int) (by decide) (by decide)))
  have F7 : Exa Z hX2 ob "com/example/yuelu/yuelu/FieldLanes" := I4.wr W2
  have Z8 : n0 ≤ hX2.size := Nat.le_trans Z0 (Keep.of_wr W2).1
  have K9 : Keep h0 hX2 [ob] := K0.wr W2 (Or.inl (List.mem_of_getElem? (i := 0) rfl))
  have hnz13_10 : ¬ (w = (0 : Int32)) := (own_side_1_13 w hok)
  obtain ⟨T11, hX11, X11, e11, W11, st11⟩ := putF X2 hx hZ hown (host := "") (Or.inl (hw _ (List.mem_of_getElem? (i := 11) rfl))) Via.refl e2 F4 F7 (Or.inr ⟨(hw _ (List.mem_of_getElem? (i := 12) rfl)), rfl, hnm⟩) (hw _ (List.mem_of_getElem? (i := 1) rfl)) (ty := .int) (by decide) rfl rfl (g := (mkF m 14 #[.val (.ref ob), .val (.int w), .unset, .unset, .unset] [(.int ((64 : Int32) / w)), (.ref ob)])) rfl rfl (hb hby d1_14)
  have N11 := Fr.snoc X11 N2 g_ob
  have F12 : Fld Z hX11 ob "com/example/yuelu/yuelu/FieldLanes" "count" "I" (.int ((64 : Int32) / w)) := F4.same W11
  have F13 : Fld Z hX11 ob "com/example/yuelu/yuelu/FieldLanes" "lowestBits" "J" (.long (0 : Int64)) := F5.other W11 (Or.inr (slot_ne (Or.inr (hw _ (List.mem_of_getElem? (i := 14) rfl))) (Or.inr (hw _ (List.mem_of_getElem? (i := 12) rfl))) (by decide) (t := .long) (t' := .int) (by decide) (by decide)))
  have F14 : Fld Z hX11 ob "com/example/yuelu/yuelu/FieldLanes" "highestBits" "J" (.long (0 : Int64)) := F6.other W11 (Or.inr (slot_ne (Or.inr (hw _ (List.mem_of_getElem? (i := 16) rfl))) (Or.inr (hw _ (List.mem_of_getElem? (i := 12) rfl))) (by decide) (t := .long) (t' := .int) (by decide) (by decide)))
  have F15 : Exa Z hX11 ob "com/example/yuelu/yuelu/FieldLanes" := F7.wr W11
  have F16 : Fld Z hX11 ob "com/example/yuelu/yuelu/FieldLanes" "width" "I" (.int w) := F3.other W11 (Or.inr (slot_ne (Or.inr (hw _ (List.mem_of_getElem? (i := 10) rfl))) (Or.inr (hw _ (List.mem_of_getElem? (i := 12) rfl))) (by decide) (t := .int) (t' := .int) (by decide) (by decide)))
  have Z17 : n0 ≤ hX11.size := Nat.le_trans Z8 (Keep.of_wr W11).1
  have K18 : Keep h0 hX11 [ob] := K9.wr W11 (Or.inl (List.mem_of_getElem? (i := 0) rfl))
  have hinv19 : own_inv w ((64 : Int32) / w) (((64 : Int32) / w).toNatClampNeg) (0 : Int32) (0 : Int64) := (own_inv_1_22 w hok)
  obtain ⟨T19, hX19, lc19, X19, e19, N19, K19q, hpost19, st19⟩ := lp1_22 n0 (ob) (w) (((64 : Int32) / w)) hx hZ hw hby hml hown  (((64 : Int32) / w).toNatClampNeg) ((0 : Int32)) ((0 : Int64)) T11 hX11 _ hinv19 X11 e11 N11 Z17 F12
  have F20 : Fld Z hX19 ob "com/example/yuelu/yuelu/FieldLanes" "lowestBits" "J" (.long (0 : Int64)) := F13.keep K19q nin0
  have F21 : Fld Z hX19 ob "com/example/yuelu/yuelu/FieldLanes" "highestBits" "J" (.long (0 : Int64)) := F14.keep K19q nin0
  have F22 : Exa Z hX19 ob "com/example/yuelu/yuelu/FieldLanes" := F15.keep K19q
  have F23 : Fld Z hX19 ob "com/example/yuelu/yuelu/FieldLanes" "width" "I" (.int w) := F16.keep K19q nin0
  have F24 : Fld Z hX19 ob "com/example/yuelu/yuelu/FieldLanes" "count" "I" (.int ((64 : Int32) / w)) := F12.keep K19q nin0
  have Z25 : n0 ≤ hX19.size := Nat.le_trans Z17 K19q.1
  have K26 : Keep h0 hX19 [ob] := K18.trans K19q all0
  obtain ⟨T27, hX27, X27, e27, W27, st27⟩ := putF X19 hx hZ hown (host := "") (Or.inl (hw _ (List.mem_of_getElem? (i := 13) rfl))) Via.refl e19 F20 F22 (Or.inr ⟨(hw _ (List.mem_of_getElem? (i := 14) rfl)), rfl, hnm⟩) (hw _ (List.mem_of_getElem? (i := 1) rfl)) (ty := .long) (by decide) rfl rfl (g := (mkF m 48 #[.val (.ref ob), .val (.int w), .val (.long (own_low w ((64 : Int32) / w).toNatClampNeg)), .second, .val (.int ((64 : Int32) / w))] [(.long (own_low w ((64 : Int32) / w).toNatClampNeg)), (.ref ob)])) rfl rfl (hb hby d1_48)
  have N27 := Fr.snoc X27 N19 g_ob
  have F28 : Fld Z hX27 ob "com/example/yuelu/yuelu/FieldLanes" "lowestBits" "J" (.long (own_low w ((64 : Int32) / w).toNatClampNeg)) := F20.same W27
  have F29 : Fld Z hX27 ob "com/example/yuelu/yuelu/FieldLanes" "highestBits" "J" (.long (0 : Int64)) := F21.other W27 (Or.inr (slot_ne (Or.inr (hw _ (List.mem_of_getElem? (i := 16) rfl))) (Or.inr (hw _ (List.mem_of_getElem? (i := 14) rfl))) (by decide) (t := .long) (t' := .long) (by decide) (by decide)))
  have F30 : Exa Z hX27 ob "com/example/yuelu/yuelu/FieldLanes" := F22.wr W27
  have F31 : Fld Z hX27 ob "com/example/yuelu/yuelu/FieldLanes" "width" "I" (.int w) := F23.other W27 (Or.inr (slot_ne (Or.inr (hw _ (List.mem_of_getElem? (i := 10) rfl))) (Or.inr (hw _ (List.mem_of_getElem? (i := 14) rfl))) (by decide) (t := .int) (t' := .long) (by decide) (by decide)))
  have F32 : Fld Z hX27 ob "com/example/yuelu/yuelu/FieldLanes" "count" "I" (.int ((64 : Int32) / w)) := F24.other W27 (Or.inr (slot_ne (Or.inr (hw _ (List.mem_of_getElem? (i := 12) rfl))) (Or.inr (hw _ (List.mem_of_getElem? (i := 14) rfl))) (by decide) (t := .int) (t' := .long) (by decide) (by decide)))
  have Z33 : n0 ≤ hX27.size := Nat.le_trans Z25 (Keep.of_wr W27).1
  have K34 : Keep h0 hX27 [ob] := K26.wr W27 (Or.inl (List.mem_of_getElem? (i := 0) rfl))
  obtain ⟨T35, hX35, X35, e35, W35, st35⟩ := putF X27 hx hZ hown (host := "") (Or.inl (hw _ (List.mem_of_getElem? (i := 15) rfl))) Via.refl e27 F29 F30 (Or.inr ⟨(hw _ (List.mem_of_getElem? (i := 16) rfl)), rfl, hnm⟩) (hw _ (List.mem_of_getElem? (i := 1) rfl)) (ty := .long) (by decide) rfl rfl (g := (mkF m 57 #[.val (.ref ob), .val (.int w), .val (.long (own_low w ((64 : Int32) / w).toNatClampNeg)), .second, .val (.int ((64 : Int32) / w))] [(.long ((own_low w ((64 : Int32) / w).toNatClampNeg) <<< ((w - (1 : Int32)) &&& 0x3f).toInt64)), (.ref ob)])) rfl rfl (hb hby d1_57)
  have N35 := Fr.snoc X35 N27 g_ob
  have F36 : Fld Z hX35 ob "com/example/yuelu/yuelu/FieldLanes" "highestBits" "J" (.long ((own_low w ((64 : Int32) / w).toNatClampNeg) <<< ((w - (1 : Int32)) &&& 0x3f).toInt64)) := F29.same W35
  have F37 : Exa Z hX35 ob "com/example/yuelu/yuelu/FieldLanes" := F30.wr W35
  have F38 : Fld Z hX35 ob "com/example/yuelu/yuelu/FieldLanes" "width" "I" (.int w) := F31.other W35 (Or.inr (slot_ne (Or.inr (hw _ (List.mem_of_getElem? (i := 10) rfl))) (Or.inr (hw _ (List.mem_of_getElem? (i := 16) rfl))) (by decide) (t := .int) (t' := .long) (by decide) (by decide)))
  have F39 : Fld Z hX35 ob "com/example/yuelu/yuelu/FieldLanes" "count" "I" (.int ((64 : Int32) / w)) := F32.other W35 (Or.inr (slot_ne (Or.inr (hw _ (List.mem_of_getElem? (i := 12) rfl))) (Or.inr (hw _ (List.mem_of_getElem? (i := 16) rfl))) (by decide) (t := .int) (t' := .long) (by decide) (by decide)))
  have F40 : Fld Z hX35 ob "com/example/yuelu/yuelu/FieldLanes" "lowestBits" "J" (.long (own_low w ((64 : Int32) / w).toNatClampNeg)) := F28.other W35 (Or.inr (slot_ne (Or.inr (hw _ (List.mem_of_getElem? (i := 14) rfl))) (Or.inr (hw _ (List.mem_of_getElem? (i := 16) rfl))) (by decide) (t := .long) (t' := .long) (by decide) (by decide)))
  have Z41 : n0 ≤ hX35.size := Nat.le_trans Z33 (Keep.of_wr W35).1
  have K42 : Keep h0 hX35 [ob] := K34.wr W35 (Or.inl (List.mem_of_getElem? (i := 0) rfl))
  obtain ⟨fs, hr, hrun, hended, hW, hsame⟩ := X35.leave (v := none) (fun _ => rfl)
  refine ⟨_, _, pre0 _ ?_, hrun, hended, _, _, rfl, ?_, ⟨_, rfl⟩, hW, hsame.mono (by decide) (by decide)⟩
  · skip
    show Steps p.tables e below (s₁.setTop (mkF m 0 #[.val (.ref ob), .val (.int w), .unset, .unset, .unset] [])) _
    refine XS.aloadN X0.here hx rfl (hb hby d1_0) rfl rfl ?_
    show Steps p.tables e below (s₁.setTop (mkF m 1 #[.val (.ref ob), .val (.int w), .unset, .unset, .unset] [(.ref ob)])) _
    refine st1 _ ?_
    show Steps p.tables e below (T1.setTop (mkF m 4 #[.val (.ref ob), .val (.int w), .unset, .unset, .unset] [])) _
    refine XS.aloadN X1.here hx rfl (hb hby d1_4) rfl rfl ?_
    show Steps p.tables e below (T1.setTop (mkF m 5 #[.val (.ref ob), .val (.int w), .unset, .unset, .unset] [(.ref ob)])) _
    refine XS.iloadN X1.here hx rfl (hb hby d1_5) rfl ?_
    show Steps p.tables e below (T1.setTop (mkF m 6 #[.val (.ref ob), .val (.int w), .unset, .unset, .unset] [(.int w), (.ref ob)])) _
    refine st2 _ ?_
    show Steps p.tables e below (T2.setTop (mkF m 9 #[.val (.ref ob), .val (.int w), .unset, .unset, .unset] [])) _
    refine XS.aloadN X2.here hx rfl (hb hby d1_9) rfl rfl ?_
    show Steps p.tables e below (T2.setTop (mkF m 10 #[.val (.ref ob), .val (.int w), .unset, .unset, .unset] [(.ref ob)])) _
    refine XS.bipush X2.here hx rfl (hb hby d1_10) ?_
    show Steps p.tables e below (T2.setTop (mkF m 12 #[.val (.ref ob), .val (.int w), .unset, .unset, .unset] [(.int (64 : Int32)), (.ref ob)])) _
    refine XS.iloadN X2.here hx rfl (hb hby d1_12) rfl ?_
    show Steps p.tables e below (T2.setTop (mkF m 13 #[.val (.ref ob), .val (.int w), .unset, .unset, .unset] [(.int w), (.int (64 : Int32)), (.ref ob)])) _
    refine XS.idiv X2.here hx rfl (hb hby d1_13) rfl hnz13_10 ?_
    show Steps p.tables e below (T2.setTop (mkF m 14 #[.val (.ref ob), .val (.int w), .unset, .unset, .unset] [(.int ((64 : Int32) / w)), (.ref ob)])) _
    refine st11 _ ?_
    show Steps p.tables e below (T11.setTop (mkF m 17 #[.val (.ref ob), .val (.int w), .unset, .unset, .unset] [])) _
    refine XS.lconst X11.here hx rfl (hb hby d1_17) ?_
    show Steps p.tables e below (T11.setTop (mkF m 18 #[.val (.ref ob), .val (.int w), .unset, .unset, .unset] [(.long (0 : Int64))])) _
    refine XS.lstoreN X11.here hx rfl (hb hby d1_18) rfl (l' := #[.val (.ref ob), .val (.int w), .val (.long (0 : Int64)), .second, .unset]) rfl ?_
    show Steps p.tables e below (T11.setTop (mkF m 19 #[.val (.ref ob), .val (.int w), .val (.long (0 : Int64)), .second, .unset] [])) _
    refine XS.iconst X11.here hx rfl (hb hby d1_19) ?_
    show Steps p.tables e below (T11.setTop (mkF m 20 #[.val (.ref ob), .val (.int w), .val (.long (0 : Int64)), .second, .unset] [(.int (0 : Int32))])) _
    refine XS.istore X11.here hx rfl (hb hby d1_20) rfl (l' := #[.val (.ref ob), .val (.int w), .val (.long (0 : Int64)), .second, .val (.int (0 : Int32))]) rfl ?_
    show Steps p.tables e below (T11.setTop (mkF m 22 #[.val (.ref ob), .val (.int w), .val (.long (0 : Int64)), .second, .val (.int (0 : Int32))] [])) _
    refine st19 _ ?_
    show Steps p.tables e below (T19.setTop (mkF m 46 #[.val (.ref ob), .val (.int w), .val (.long (own_low w ((64 : Int32) / w).toNatClampNeg)), .second, .val (.int ((64 : Int32) / w))] [])) _
    refine XS.aloadN X19.here hx rfl (hb hby d1_46) rfl rfl ?_
    show Steps p.tables e below (T19.setTop (mkF m 47 #[.val (.ref ob), .val (.int w), .val (.long (own_low w ((64 : Int32) / w).toNatClampNeg)), .second, .val (.int ((64 : Int32) / w))] [(.ref ob)])) _
    refine XS.lloadN X19.here hx rfl (hb hby d1_47) rfl ?_
    show Steps p.tables e below (T19.setTop (mkF m 48 #[.val (.ref ob), .val (.int w), .val (.long (own_low w ((64 : Int32) / w).toNatClampNeg)), .second, .val (.int ((64 : Int32) / w))] [(.long (own_low w ((64 : Int32) / w).toNatClampNeg)), (.ref ob)])) _
    refine st27 _ ?_
    show Steps p.tables e below (T27.setTop (mkF m 51 #[.val (.ref ob), .val (.int w), .val (.long (own_low w ((64 : Int32) / w).toNatClampNeg)), .second, .val (.int ((64 : Int32) / w))] [])) _
    refine XS.aloadN X27.here hx rfl (hb hby d1_51) rfl rfl ?_
    show Steps p.tables e below (T27.setTop (mkF m 52 #[.val (.ref ob), .val (.int w), .val (.long (own_low w ((64 : Int32) / w).toNatClampNeg)), .second, .val (.int ((64 : Int32) / w))] [(.ref ob)])) _
    refine XS.lloadN X27.here hx rfl (hb hby d1_52) rfl ?_
    show Steps p.tables e below (T27.setTop (mkF m 53 #[.val (.ref ob), .val (.int w), .val (.long (own_low w ((64 : Int32) / w).toNatClampNeg)), .second, .val (.int ((64 : Int32) / w))] [(.long (own_low w ((64 : Int32) / w).toNatClampNeg)), (.ref ob)])) _
    refine XS.iloadN X27.here hx rfl (hb hby d1_53) rfl ?_
    show Steps p.tables e below (T27.setTop (mkF m 54 #[.val (.ref ob), .val (.int w), .val (.long (own_low w ((64 : Int32) / w).toNatClampNeg)), .second, .val (.int ((64 : Int32) / w))] [(.int w), (.long (own_low w ((64 : Int32) / w).toNatClampNeg)), (.ref ob)])) _
    refine XS.iconst X27.here hx rfl (hb hby d1_54) ?_
    show Steps p.tables e below (T27.setTop (mkF m 55 #[.val (.ref ob), .val (.int w), .val (.long (own_low w ((64 : Int32) / w).toNatClampNeg)), .second, .val (.int ((64 : Int32) / w))] [(.int (1 : Int32)), (.int w), (.long (own_low w ((64 : Int32) / w).toNatClampNeg)), (.ref ob)])) _
    refine XS.isub X27.here hx rfl (hb hby d1_55) rfl ?_
    show Steps p.tables e below (T27.setTop (mkF m 56 #[.val (.ref ob), .val (.int w), .val (.long (own_low w ((64 : Int32) / w).toNatClampNeg)), .second, .val (.int ((64 : Int32) / w))] [(.int (w - (1 : Int32))), (.long (own_low w ((64 : Int32) / w).toNatClampNeg)), (.ref ob)])) _
    refine XS.lshl X27.here hx rfl (hb hby d1_56) rfl ?_
    show Steps p.tables e below (T27.setTop (mkF m 57 #[.val (.ref ob), .val (.int w), .val (.long (own_low w ((64 : Int32) / w).toNatClampNeg)), .second, .val (.int ((64 : Int32) / w))] [(.long ((own_low w ((64 : Int32) / w).toNatClampNeg) <<< ((w - (1 : Int32)) &&& 0x3f).toInt64)), (.ref ob)])) _
    refine st35 _ ?_
    show Steps p.tables e below (T35.setTop (mkF m 60 #[.val (.ref ob), .val (.int w), .val (.long (own_low w ((64 : Int32) / w).toNatClampNeg)), .second, .val (.int ((64 : Int32) / w))] [])) _
    exact X35.returnOut hx Bd.returns (hb hby d1_60) hr
  · show Q1 Z ob w h0 n0 _ T35.heap _
    rw [e35]
    exact ⟨rfl, N35, K42, F37, F40, F36⟩
theorem d4_0 : decode prog_7_method_4_code 0 = .ok (.aload_n 0, 1) := by decide +kernel
theorem d4_1 : decode prog_7_method_4_code 1 = .ok (.getfield 22, 3) := by decide +kernel
theorem d4_4 : decode prog_7_method_4_code 4 = .ok (.aload_n 0, 1) := by decide +kernel
theorem d4_5 : decode prog_7_method_4_code 5 = .ok (.getfield 18, 3) := by decide +kernel
theorem d4_8 : decode prog_7_method_4_code 8 = .ok (.lsub, 1) := by decide +kernel
theorem d4_9 : decode prog_7_method_4_code 9 = .ok (.lstore_n 3, 1) := by decide +kernel
theorem d4_10 : decode prog_7_method_4_code 10 = .ok (.lload_n 1, 1) := by decide +kernel
theorem d4_11 : decode prog_7_method_4_code 11 = .ok (.lload_n 3, 1) := by decide +kernel
theorem d4_12 : decode prog_7_method_4_code 12 = .ok (.land, 1) := by decide +kernel
theorem d4_13 : decode prog_7_method_4_code 13 = .ok (.lload_n 3, 1) := by decide +kernel
theorem d4_14 : decode prog_7_method_4_code 14 = .ok (.ladd, 1) := by decide +kernel
theorem d4_15 : decode prog_7_method_4_code 15 = .ok (.lload_n 1, 1) := by decide +kernel
theorem d4_16 : decode prog_7_method_4_code 16 = .ok (.lor, 1) := by decide +kernel
theorem d4_17 : decode prog_7_method_4_code 17 = .ok (.aload_n 0, 1) := by decide +kernel
theorem d4_18 : decode prog_7_method_4_code 18 = .ok (.getfield 22, 3) := by decide +kernel
theorem d4_21 : decode prog_7_method_4_code 21 = .ok (.land, 1) := by decide +kernel
theorem d4_22 : decode prog_7_method_4_code 22 = .ok (.lreturn, 1) := by decide +kernel
theorem pn_4 : plainName "com/example/yuelu/yuelu/FieldLanes" = true := by first | (simp [plainName, overriddenIn]; done) | decide +kernel
theorem ef_4 (m : MethodId) (x0 : Addr) (x1 : Int64) : entryFrame m #[(.ref x0), (.long x1)] 5 = mkF m 0 #[.val (.ref x0), .val (.long x1), .second, .unset, .unset] [] := by first | (simp [entryFrame, mkF, argsToLocals, Value.category]; done) | rfl
def Q4 (Z : State) (ob : Addr) (z : Int64) (lo : Int64) (hi : Int64) (h0 : Heap) (n0 : Nat) (v : Option Value) (h : Heap) (L : List Loc) : Prop := v = some (.long (own_nz lo hi z)) ∧ Fr n0 L ∧ h = h0
set_option maxRecDepth 65536 in
set_option maxHeartbeats 40000000 in
theorem rm4 (l : Launch) (Z : State) (a0 : Array Value) (hw : ∀ d ∈ tables_1, d.before a0 Z = true) (ws : List Jvm.Cond) (ob : Addr) (z : Int64) (lo : Int64) (hi : Int64) (h0 : Heap) (n0 : Nat) (Z0 : n0 ≤ h0.size) (I0 : Fld Z h0 ob "com/example/yuelu/yuelu/FieldLanes" "lowestBits" "J" (.long lo)) (I1 : Fld Z h0 ob "com/example/yuelu/yuelu/FieldLanes" "highestBits" "J" (.long hi)) :
    MetFree l (⟨"com/example/yuelu/yuelu/FieldLanes", "nonZero", "(J)J"⟩ : MethodName) (head1 (Jvm.Cond.code (⟨"com/example/yuelu/yuelu/FieldLanes", "nonZero", "(J)J"⟩ : MethodName) prog_7_method_4_code 5 (some .long) :: ws) ({ frames := 0, cells := 0, slots := 0, locals := 0 } : Room)) (fun a U => a = #[(.ref ob), (.long z)] ∧ Z.Warmed39 U.vm ∧ U.heap = h0) (fun _ _ _ _ _ => True) (fun _ U o U' => ∃ v L, o = .returned v ∧ Q4 Z ob z lo hi h0 n0 v U'.heap L ∧ FrameEnd U o U' L ({ frames := 0, cells := 0, slots := 0, locals := 0 } : Room).cells ({ frames := 0, cells := 0, slots := 0, locals := 0 } : Room).slots) := by
  refine MetFree.of_bodySF (plainFor_of_name pn_4) hisR ?_
  intro p e s m args below meth c s₁ Bd hml0 hP hK
  obtain ⟨rfl, hZ, hh⟩ := hP
  have hx := Bd.exec
  have hby := Bd.bytes
  have hml : c.maxLocals = 5 := hml0
  have hown : s.vm.findClass "com/example/yuelu/yuelu/FieldLanes" = some m.cls := findClass_of_methodNamed Bd.named
  have hnm := (name_of_methodNamed Bd.named Bd.method).1
  have X0 : Stand p l e ({ frames := 0, cells := 0, slots := 0, locals := 0 } : Room) s m #[(.ref ob), (.long z)] below meth c s₁ [] 0 0 := Stand.of_body Bd
  have e0 : s₁.heap = h0 := by rw [← hh, Bd.state]; rfl
  have N0 := Fr.nil n0
  have K0 : Keep h0 h0 [] := Keep.refl h0 _
  have pre0 : ∀ tq, Steps p.tables e below (s₁.setTop (mkF m 0 #[.val (.ref ob), .val (.long z), .second, .unset, .unset] [])) tq → Steps p.tables e below (s₁.setTop (entryFrame m #[(.ref ob), (.long z)] 5)) tq := fun tq kq => castTop (ef_4 m ob z) kq
  obtain ⟨T1, X1, e1, st1⟩ := getF X0 hx hZ hown (host := "") (Or.inl (hw _ (List.mem_of_getElem? (i := 15) rfl))) Via.refl e0 I1 (g := (mkF m 1 #[.val (.ref ob), .val (.long z), .second, .unset, .unset] [(.ref ob)])) rfl rfl (hb hby d4_1)
  obtain ⟨T2, X2, e2, st2⟩ := getF X1 hx hZ hown (host := "") (Or.inl (hw _ (List.mem_of_getElem? (i := 13) rfl))) Via.refl e1 I0 (g := (mkF m 5 #[.val (.ref ob), .val (.long z), .second, .unset, .unset] [(.ref ob), (.long hi)])) rfl rfl (hb hby d4_5)
  obtain ⟨v9, hv9⟩ : ∃ z_q : Int64, z_q = (hi - lo) := ⟨_, rfl⟩
  obtain ⟨T3, X3, e3, st3⟩ := getF X2 hx hZ hown (host := "") (Or.inl (hw _ (List.mem_of_getElem? (i := 15) rfl))) Via.refl e2 I1 (g := (mkF m 18 #[.val (.ref ob), .val (.long z), .second, .val (.long v9), .second] [(.ref ob), (.long (((z &&& v9) + v9) ||| z))])) rfl rfl (hb hby d4_18)
  obtain ⟨fs, hr, hrun, hended, hW, hsame⟩ := X3.leave (v := some (Value.long ((((z &&& v9) + v9) ||| z) &&& hi))) (fun h => by rw [Bd.returns] at h; cases h)
  have hres4 : ((((z &&& v9) + v9) ||| z) &&& hi) = (own_nz lo hi z) := by subst_vars; rfl
  refine ⟨_, _, pre0 _ ?_, hrun, hended, _, _, rfl, ?_, ⟨_, rfl⟩, hW, hsame.mono (by decide) (by decide)⟩
  · skip
    show Steps p.tables e below (s₁.setTop (mkF m 0 #[.val (.ref ob), .val (.long z), .second, .unset, .unset] [])) _
    refine XS.aloadN X0.here hx rfl (hb hby d4_0) rfl rfl ?_
    show Steps p.tables e below (s₁.setTop (mkF m 1 #[.val (.ref ob), .val (.long z), .second, .unset, .unset] [(.ref ob)])) _
    refine st1 _ ?_
    show Steps p.tables e below (T1.setTop (mkF m 4 #[.val (.ref ob), .val (.long z), .second, .unset, .unset] [(.long hi)])) _
    refine XS.aloadN X1.here hx rfl (hb hby d4_4) rfl rfl ?_
    show Steps p.tables e below (T1.setTop (mkF m 5 #[.val (.ref ob), .val (.long z), .second, .unset, .unset] [(.ref ob), (.long hi)])) _
    refine st2 _ ?_
    show Steps p.tables e below (T2.setTop (mkF m 8 #[.val (.ref ob), .val (.long z), .second, .unset, .unset] [(.long lo), (.long hi)])) _
    refine XS.lsub X2.here hx rfl (hb hby d4_8) rfl ?_
    show Steps p.tables e below (T2.setTop (mkF m 9 #[.val (.ref ob), .val (.long z), .second, .unset, .unset] [(.long (hi - lo))])) _
    refine XS.lstoreN X2.here hx rfl (hb hby d4_9) rfl (l' := #[.val (.ref ob), .val (.long z), .second, .val (.long v9), .second]) (by rw [hv9]; rfl) ?_
    show Steps p.tables e below (T2.setTop (mkF m 10 #[.val (.ref ob), .val (.long z), .second, .val (.long v9), .second] [])) _
    refine XS.lloadN X2.here hx rfl (hb hby d4_10) rfl ?_
    show Steps p.tables e below (T2.setTop (mkF m 11 #[.val (.ref ob), .val (.long z), .second, .val (.long v9), .second] [(.long z)])) _
    refine XS.lloadN X2.here hx rfl (hb hby d4_11) rfl ?_
    show Steps p.tables e below (T2.setTop (mkF m 12 #[.val (.ref ob), .val (.long z), .second, .val (.long v9), .second] [(.long v9), (.long z)])) _
    refine XS.land X2.here hx rfl (hb hby d4_12) rfl ?_
    show Steps p.tables e below (T2.setTop (mkF m 13 #[.val (.ref ob), .val (.long z), .second, .val (.long v9), .second] [(.long (z &&& v9))])) _
    refine XS.lloadN X2.here hx rfl (hb hby d4_13) rfl ?_
    show Steps p.tables e below (T2.setTop (mkF m 14 #[.val (.ref ob), .val (.long z), .second, .val (.long v9), .second] [(.long v9), (.long (z &&& v9))])) _
    refine XS.ladd X2.here hx rfl (hb hby d4_14) rfl ?_
    show Steps p.tables e below (T2.setTop (mkF m 15 #[.val (.ref ob), .val (.long z), .second, .val (.long v9), .second] [(.long ((z &&& v9) + v9))])) _
    refine XS.lloadN X2.here hx rfl (hb hby d4_15) rfl ?_
    show Steps p.tables e below (T2.setTop (mkF m 16 #[.val (.ref ob), .val (.long z), .second, .val (.long v9), .second] [(.long z), (.long ((z &&& v9) + v9))])) _
    refine XS.lor X2.here hx rfl (hb hby d4_16) rfl ?_
    show Steps p.tables e below (T2.setTop (mkF m 17 #[.val (.ref ob), .val (.long z), .second, .val (.long v9), .second] [(.long (((z &&& v9) + v9) ||| z))])) _
    refine XS.aloadN X2.here hx rfl (hb hby d4_17) rfl rfl ?_
    show Steps p.tables e below (T2.setTop (mkF m 18 #[.val (.ref ob), .val (.long z), .second, .val (.long v9), .second] [(.ref ob), (.long (((z &&& v9) + v9) ||| z))])) _
    refine st3 _ ?_
    show Steps p.tables e below (T3.setTop (mkF m 21 #[.val (.ref ob), .val (.long z), .second, .val (.long v9), .second] [(.long hi), (.long (((z &&& v9) + v9) ||| z))])) _
    refine XS.land X3.here hx rfl (hb hby d4_21) rfl ?_
    show Steps p.tables e below (T3.setTop (mkF m 22 #[.val (.ref ob), .val (.long z), .second, .val (.long v9), .second] [(.long ((((z &&& v9) + v9) ||| z) &&& hi))])) _
    exact retOut X3 hx Bd.returns rfl (Or.inr (Or.inl ⟨rfl, rfl, _, rfl⟩)) (hb hby d4_22) hr
  · show Q4 Z ob z lo hi h0 n0 _ T3.heap _
    rw [e3]
    exact ⟨congrArg (fun z => some (Value.long z)) hres4, N0, rfl⟩
theorem d3_0 : decode prog_7_method_5_code 0 = .ok (.aload_n 0, 1) := by decide +kernel
theorem d3_1 : decode prog_7_method_5_code 1 = .ok (.getfield 22, 3) := by decide +kernel
theorem d3_4 : decode prog_7_method_5_code 4 = .ok (.aload_n 0, 1) := by decide +kernel
theorem d3_5 : decode prog_7_method_5_code 5 = .ok (.lload_n 1, 1) := by decide +kernel
theorem d3_6 : decode prog_7_method_5_code 6 = .ok (.invokevirtual 25, 3) := by decide +kernel
theorem d3_9 : decode prog_7_method_5_code 9 = .ok (.ldc2_w 29, 3) := by decide +kernel
theorem d3_12 : decode prog_7_method_5_code 12 = .ok (.lxor, 1) := by decide +kernel
theorem d3_13 : decode prog_7_method_5_code 13 = .ok (.land, 1) := by decide +kernel
theorem d3_14 : decode prog_7_method_5_code 14 = .ok (.lreturn, 1) := by decide +kernel
theorem pn_3 : plainName "com/example/yuelu/yuelu/FieldLanes" = true := by first | (simp [plainName, overriddenIn]; done) | decide +kernel
theorem pd_0 : parseMethodDescriptor "(J)J" = some ⟨[.long], some .long⟩ := by decide +kernel
theorem ef_3 (m : MethodId) (x0 : Addr) (x1 : Int64) : entryFrame m #[(.ref x0), (.long x1)] 3 = mkF m 0 #[.val (.ref x0), .val (.long x1), .second] [] := by first | (simp [entryFrame, mkF, argsToLocals, Value.category]; done) | rfl
def Q3 (Z : State) (ob : Addr) (z : Int64) (lo : Int64) (hi : Int64) (h0 : Heap) (n0 : Nat) (v : Option Value) (h : Heap) (L : List Loc) : Prop := v = some (.long (hi &&& (own_nz lo hi z ^^^ (-1 : Int64)))) ∧ Fr n0 L ∧ h = h0
set_option maxRecDepth 65536 in
set_option maxHeartbeats 40000000 in
theorem rm3 (l : Launch) (Z : State) (a0 : Array Value) (hw : ∀ d ∈ tables_1, d.before a0 Z = true) (ws : List Jvm.Cond) (ob : Addr) (z : Int64) (lo : Int64) (hi : Int64) (h0 : Heap) (n0 : Nat) (Z0 : n0 ≤ h0.size) (I0 : Fld Z h0 ob "com/example/yuelu/yuelu/FieldLanes" "lowestBits" "J" (.long lo)) (I1 : Fld Z h0 ob "com/example/yuelu/yuelu/FieldLanes" "highestBits" "J" (.long hi)) (I2 : Exa Z h0 ob "com/example/yuelu/yuelu/FieldLanes") :
    MetFree l (⟨"com/example/yuelu/yuelu/FieldLanes", "zero", "(J)J"⟩ : MethodName) (head1 (Jvm.Cond.code (⟨"com/example/yuelu/yuelu/FieldLanes", "zero", "(J)J"⟩ : MethodName) prog_7_method_5_code 3 (some .long) :: ws) ({ frames := 1, cells := 0, slots := 0, locals := 18 } : Room)) (fun a U => a = #[(.ref ob), (.long z)] ∧ Z.Warmed39 U.vm ∧ U.heap = h0) (fun _ _ _ _ _ => True) (fun _ U o U' => ∃ v L, o = .returned v ∧ Q3 Z ob z lo hi h0 n0 v U'.heap L ∧ FrameEnd U o U' L ({ frames := 1, cells := 0, slots := 0, locals := 18 } : Room).cells ({ frames := 1, cells := 0, slots := 0, locals := 18 } : Room).slots) := by
  refine MetFree.of_bodySF (plainFor_of_name pn_3) hisR ?_
  intro p e s m args below meth c s₁ Bd hml0 hP hK
  obtain ⟨rfl, hZ, hh⟩ := hP
  have hx := Bd.exec
  have hby := Bd.bytes
  have hml : c.maxLocals = 3 := hml0
  have hown : s.vm.findClass "com/example/yuelu/yuelu/FieldLanes" = some m.cls := findClass_of_methodNamed Bd.named
  have hnm := (name_of_methodNamed Bd.named Bd.method).1
  have X0 : Stand p l e ({ frames := 1, cells := 0, slots := 0, locals := 18 } : Room) s m #[(.ref ob), (.long z)] below meth c s₁ [] 0 0 := Stand.of_body Bd
  have e0 : s₁.heap = h0 := by rw [← hh, Bd.state]; rfl
  have N0 := Fr.nil n0
  have K0 : Keep h0 h0 [] := Keep.refl h0 _
  have pre0 : ∀ tq, Steps p.tables e below (s₁.setTop (mkF m 0 #[.val (.ref ob), .val (.long z), .second] [])) tq → Steps p.tables e below (s₁.setTop (entryFrame m #[(.ref ob), (.long z)] 3)) tq := fun tq kq => castTop (ef_3 m ob z) kq
  obtain ⟨T1, X1, e1, st1⟩ := getF X0 hx hZ hown (host := "") (Or.inl (hw _ (List.mem_of_getElem? (i := 15) rfl))) Via.refl e0 I1 (g := (mkF m 1 #[.val (.ref ob), .val (.long z), .second] [(.ref ob)])) rfl rfl (hb hby d3_1)
  obtain ⟨cq2, kq2, q2a, q2b, q2c⟩ := isOf hZ e1 I2
  obtain ⟨_, _, ⟨T2, L2, k2, n2⟩, -, X2, ⟨Lc2, hQ2, l2, y2, z2⟩, st2⟩ := X1.virtualBack hx (y := (⟨"com/example/yuelu/yuelu/FieldLanes", "nonZero", "(J)J"⟩ : MethodName)) (z := (⟨"com/example/yuelu/yuelu/FieldLanes", "nonZero", "(J)J"⟩ : MethodName)) hown (mvT hZ (hw _ (List.mem_of_getElem? (i := 22) rfl))) (mvT hZ (hw _ (List.mem_of_getElem? (i := 23) rfl))) (notFace_of_selects (args := #[]) (mvT hZ (hw _ (List.mem_of_getElem? (i := 25) rfl)))) (mvT hZ (hw _ (List.mem_of_getElem? (i := 25) rfl))) (mvT hZ (hw _ (List.mem_of_getElem? (i := 24) rfl))) (by decide) (backOf (W := 2) (rm4 l Z a0 hw [] ob z lo hi h0 n0 Z0 I0 I1) hZ (hw _ (List.mem_of_getElem? (i := 26) rfl)) (hw _ (List.mem_of_getElem? (i := 2) rfl)) (by decide) (by decide)) q2a q2c (g := (mkF m 6 #[.val (.ref ob), .val (.long z), .second] [(.long z), (.ref ob), (.long hi)])) rfl (by rw [hml]; rfl) (Steps.refl _) (argsL := [(.long z)]) (rest := [(.long hi)]) (lenOf pd_0 rfl) rfl (by show 2 * 0 + _ ≤ _; exact Nat.le_of_eq rfl) (hb hby d3_6) (fun _ _ => ⟨rfl, e1, (by decide : 0 + 0 ≤ _), (by decide : 0 + 0 ≤ _)⟩)
  dsimp only [Pt.U, Pt.locs, Pt.cells, Pt.slots] at X2 l2 y2 z2 st2 hQ2
  subst l2 y2 z2
  obtain ⟨rfl, N2q, e2⟩ := hQ2
  have N2 := Fr.app N0 N2q
  obtain ⟨r6, hr6⟩ : ∃ z_q : Int64, z_q = (own_nz lo hi z) := ⟨_, rfl⟩
  obtain ⟨fs, hr, hrun, hended, hW, hsame⟩ := X2.leave (v := some (Value.long (hi &&& (r6 ^^^ (-1 : Int64))))) (fun h => by rw [Bd.returns] at h; cases h)
  have hres3 : (hi &&& (r6 ^^^ (-1 : Int64))) = (hi &&& (own_nz lo hi z ^^^ (-1 : Int64))) := by subst_vars; rfl
  refine ⟨_, _, pre0 _ ?_, hrun, hended, _, _, rfl, ?_, ⟨_, rfl⟩, hW, hsame.mono (by decide) (by decide)⟩
  · skip
    show Steps p.tables e below (s₁.setTop (mkF m 0 #[.val (.ref ob), .val (.long z), .second] [])) _
    refine XS.aloadN X0.here hx rfl (hb hby d3_0) rfl rfl ?_
    show Steps p.tables e below (s₁.setTop (mkF m 1 #[.val (.ref ob), .val (.long z), .second] [(.ref ob)])) _
    refine st1 _ ?_
    show Steps p.tables e below (T1.setTop (mkF m 4 #[.val (.ref ob), .val (.long z), .second] [(.long hi)])) _
    refine XS.aloadN X1.here hx rfl (hb hby d3_4) rfl rfl ?_
    show Steps p.tables e below (T1.setTop (mkF m 5 #[.val (.ref ob), .val (.long z), .second] [(.ref ob), (.long hi)])) _
    refine XS.lloadN X1.here hx rfl (hb hby d3_5) rfl ?_
    show Steps p.tables e below (T1.setTop (mkF m 6 #[.val (.ref ob), .val (.long z), .second] [(.long z), (.ref ob), (.long hi)])) _
    refine st2.trans ?_
    show Steps p.tables e below (T2.setTop (mkF m 9 #[.val (.ref ob), .val (.long z), .second] [(.long (own_nz lo hi z)), (.long hi)])) _
    rw [← hr6]
    show Steps p.tables e below (T2.setTop (mkF m 9 #[.val (.ref ob), .val (.long z), .second] [(.long r6), (.long hi)])) _
    refine X2.ldc2Long hx hown (mvT hZ (hw _ (List.mem_of_getElem? (i := 27) rfl))) (g := (mkF m 9 #[.val (.ref ob), .val (.long z), .second] [(.long r6), (.long hi)])) rfl (hb hby d3_9) _ ?_
    show Steps p.tables e below (T2.setTop (mkF m 12 #[.val (.ref ob), .val (.long z), .second] [(.long (-1 : Int64)), (.long r6), (.long hi)])) _
    refine XS.lxor X2.here hx rfl (hb hby d3_12) rfl ?_
    show Steps p.tables e below (T2.setTop (mkF m 13 #[.val (.ref ob), .val (.long z), .second] [(.long (r6 ^^^ (-1 : Int64))), (.long hi)])) _
    refine XS.land X2.here hx rfl (hb hby d3_13) rfl ?_
    show Steps p.tables e below (T2.setTop (mkF m 14 #[.val (.ref ob), .val (.long z), .second] [(.long (hi &&& (r6 ^^^ (-1 : Int64))))])) _
    exact retOut X2 hx Bd.returns rfl (Or.inr (Or.inl ⟨rfl, rfl, _, rfl⟩)) (hb hby d3_14) hr
  · show Q3 Z ob z lo hi h0 n0 _ T2.heap _
    rw [e2]
    exact ⟨congrArg (fun z => some (Value.long z)) hres3, N2, rfl⟩
theorem pn_0 : plainName "com/example/yuelu/yuelu/FieldLanesZeroPinLaw" = true := by first | (simp [plainName, overriddenIn]; done) | decide +kernel
theorem pd_1 : parseMethodDescriptor "(I)V" = some ⟨[.int], none⟩ := by decide +kernel
theorem ef_0 (m : MethodId) (x0 : Int32) (x1 : Int32) (x2 : Int64) (x3 : Int32) : entryFrame m #[(.int x0), (.int x1), (.long x2), (.int x3)] maxLocals = mkF m 0 #[.val (.int x0), .val (.int x1), .val (.long x2), .second, .val (.int x3), .unset, .unset, .unset, .unset, .unset, .unset, .unset, .unset, .unset, .unset, .unset, .unset, .unset, .unset, .unset, .unset, .unset, .unset] [] := by first | (simp [entryFrame, mkF, argsToLocals, Value.category, maxLocals]; done) | rfl
theorem own_side_0_18 (k1 : Int32) (k2 : Int32) (z : Int64) (k3 : Int32) (v6 : Int32) (hv6 : v6 = ((k1 &&& (63 : Int32)) + (1 : Int32))) (v12 : Int32) (hv12 : v12 = (k2 &&& (63 : Int32))) : ¬ (v6 = (0 : Int32)) := own_ok_ne _ (show own_ok v6 by obtain ⟨W, q1, q2, q3⟩ := own_and63s k1; exact ⟨W, q1, q2, by rw [hv6]; exact q3⟩)
theorem own_pre_0_78_hok (k1 : Int32) (k2 : Int32) (z : Int64) (k3 : Int32) (v6 : Int32) (hv6 : v6 = ((k1 &&& (63 : Int32)) + (1 : Int32))) (v12 : Int32) (hv12 : v12 = (k2 &&& (63 : Int32))) (v19 : Int32) (hv19 : v19 = (v12 / v6)) (m40 : Int64) (hm40 : m40 = (if v6 = (64 : Int32) then (-1 : Int64) else (((1 : Int64) <<< (v6 &&& 0x3f).toInt64) - (1 : Int64)))) (v47 : Int32) (hv47 : v47 = (v19 * v6)) (m72_l11 : Int64) (hm72_l11 : m72_l11 = (if (k3 &&& (1 : Int32)) = (0 : Int32) then z else (z &&& ((m40 <<< (v47 &&& 0x3f).toInt64) ^^^ (-1 : Int64))))) : own_ok v6 := by obtain ⟨W, q1, q2, q3⟩ := own_and63s k1; exact ⟨W, q1, q2, by rw [hv6]; exact q3⟩
theorem own_side_0_115 (k1 : Int32) (k2 : Int32) (z : Int64) (k3 : Int32) (v6 : Int32) (hv6 : v6 = ((k1 &&& (63 : Int32)) + (1 : Int32))) (v12 : Int32) (hv12 : v12 = (k2 &&& (63 : Int32))) (v19 : Int32) (hv19 : v19 = (v12 / v6)) (m40 : Int64) (hm40 : m40 = (if v6 = (64 : Int32) then (-1 : Int64) else (((1 : Int64) <<< (v6 &&& 0x3f).toInt64) - (1 : Int64)))) (v47 : Int32) (hv47 : v47 = (v19 * v6)) (m72_l11 : Int64) (hm72_l11 : m72_l11 = (if (k3 &&& (1 : Int32)) = (0 : Int32) then z else (z &&& ((m40 <<< (v47 &&& 0x3f).toInt64) ^^^ (-1 : Int64))))) (hp13_hok : own_ok v6) (r87 : Int64) (hr87 : r87 = ((own_H v6) &&& (own_nz (own_L v6) (own_H v6) m72_l11 ^^^ (-1 : Int64)))) (m109 : Int32) (hm109 : m109 = (if (((r87.toUInt64 >>> (v12 &&& 0x3f).toInt64.toUInt64).toInt64) &&& (1 : Int64)) = (0 : Int64) then (0 : Int32) else (1 : Int32))) : ¬ (v6 = (0 : Int32)) := own_ok_ne _ (show own_ok v6 by obtain ⟨W, q1, q2, q3⟩ := own_and63s k1; exact ⟨W, q1, q2, by rw [hv6]; exact q3⟩)
theorem own_side_0_136 (k1 : Int32) (k2 : Int32) (z : Int64) (k3 : Int32) (v6 : Int32) (hv6 : v6 = ((k1 &&& (63 : Int32)) + (1 : Int32))) (v12 : Int32) (hv12 : v12 = (k2 &&& (63 : Int32))) (v19 : Int32) (hv19 : v19 = (v12 / v6)) (m40 : Int64) (hm40 : m40 = (if v6 = (64 : Int32) then (-1 : Int64) else (((1 : Int64) <<< (v6 &&& 0x3f).toInt64) - (1 : Int64)))) (v47 : Int32) (hv47 : v47 = (v19 * v6)) (m72_l11 : Int64) (hm72_l11 : m72_l11 = (if (k3 &&& (1 : Int32)) = (0 : Int32) then z else (z &&& ((m40 <<< (v47 &&& 0x3f).toInt64) ^^^ (-1 : Int64))))) (hp13_hok : own_ok v6) (r87 : Int64) (hr87 : r87 = ((own_H v6) &&& (own_nz (own_L v6) (own_H v6) m72_l11 ^^^ (-1 : Int64)))) (m109 : Int32) (hm109 : m109 = (if (((r87.toUInt64 >>> (v12 &&& 0x3f).toInt64.toUInt64).toInt64) &&& (1 : Int64)) = (0 : Int64) then (0 : Int32) else (1 : Int32))) (v116 : Int32) (hv116 : v116 = ((64 : Int32) / v6)) (m130 : Int32) (hm130 : m130 = (if v19 < v116 then (1 : Int32) else (0 : Int32))) : ¬ (v6 = (0 : Int32)) := own_ok_ne _ (show own_ok v6 by obtain ⟨W, q1, q2, q3⟩ := own_and63s k1; exact ⟨W, q1, q2, by rw [hv6]; exact q3⟩)
theorem own_leaf_0_197 (k1 : Int32) (k2 : Int32) (z : Int64) (k3 : Int32) (v6 : Int32) (hv6 : v6 = ((k1 &&& (63 : Int32)) + (1 : Int32))) (v12 : Int32) (hv12 : v12 = (k2 &&& (63 : Int32))) (v19 : Int32) (hv19 : v19 = (v12 / v6)) (m40 : Int64) (hm40 : m40 = (if v6 = (64 : Int32) then (-1 : Int64) else (((1 : Int64) <<< (v6 &&& 0x3f).toInt64) - (1 : Int64)))) (v47 : Int32) (hv47 : v47 = (v19 * v6)) (m72_l11 : Int64) (hm72_l11 : m72_l11 = (if (k3 &&& (1 : Int32)) = (0 : Int32) then z else (z &&& ((m40 <<< (v47 &&& 0x3f).toInt64) ^^^ (-1 : Int64))))) (hp13_hok : own_ok v6) (r87 : Int64) (hr87 : r87 = ((own_H v6) &&& (own_nz (own_L v6) (own_H v6) m72_l11 ^^^ (-1 : Int64)))) (m109 : Int32) (hm109 : m109 = (if (((r87.toUInt64 >>> (v12 &&& 0x3f).toInt64.toUInt64).toInt64) &&& (1 : Int64)) = (0 : Int64) then (0 : Int32) else (1 : Int32))) (v116 : Int32) (hv116 : v116 = ((64 : Int32) / v6)) (m130 : Int32) (hm130 : m130 = (if v19 < v116 then (1 : Int32) else (0 : Int32))) (m149 : Int32) (hm149 : m149 = (if (v12 % v6) = (v6 - (1 : Int32)) then (1 : Int32) else (0 : Int32))) (v159 : Int64) (hv159 : v159 = (((m72_l11.toUInt64 >>> (v47 &&& 0x3f).toInt64.toUInt64).toInt64) &&& m40)) (m183 : Int32) (hm183 : m183 = (if m130 = (0 : Int32) then (0 : Int32) else (if m149 = (0 : Int32) then (0 : Int32) else (if v159 = (0 : Int64) then (1 : Int32) else (0 : Int32))))) (m197 : Int32) (hm197 : m197 = (if m109 = m183 then (1 : Int32) else (0 : Int32))) : (nar .boolean m197) = (1 : Int32) := by
  have hb : ∃ B : Nat, B < 64 ∧ v12 = Int32.ofNat B := by rw [hv12]; exact own_and63 k2
  have nz := own_zbit v6 v12 m72_l11 (show own_ok v6 by obtain ⟨W, q1, q2, q3⟩ := own_and63s k1; exact ⟨W, q1, q2, by rw [hv6]; exact q3⟩) hb
  rw [← hr87, ← hv19, ← hv116, ← hv47] at nz
  have e : m40 = own_mask v6 := hm40
  rw [← e, ← hv159] at nz
  by_cases q1 : v19 < v116 <;> by_cases q2 : v12 % v6 = v6 - (1 : Int32) <;> by_cases q3 : v159 = (0 : Int64) <;> simp only [q1, q2, q3, not_true_eq_false, not_false_eq_true, true_and, false_and, and_true, and_false, iff_true, iff_false] at nz <;> simp only [hm197, hm183, hm149, hm130, hm109, q1, q2, q3, nz, if_true, if_false] <;> decide
def Q0 (Z : State) (k1 : Int32) (k2 : Int32) (z : Int64) (k3 : Int32) (h0 : Heap) (n0 : Nat) (v : Option Value) (h : Heap) (L : List Loc) : Prop := v = some (.int (1 : Int32)) ∧ Fr n0 L
set_option maxRecDepth 65536 in
set_option maxHeartbeats 40000000 in
theorem rm0 (l : Launch) (Z : State) (a0 : Array Value) (hw : ∀ d ∈ tables_1, d.before a0 Z = true) (ws : List Jvm.Cond) (k1 : Int32) (k2 : Int32) (z : Int64) (k3 : Int32) (h0 : Heap) (n0 : Nat) (Z0 : n0 ≤ h0.size)  :
    MetFree l x (head1 (Jvm.Cond.code x code maxLocals ret :: ws) room_1) (fun a U => a = #[(.int k1), (.int k2), (.long z), (.int k3)] ∧ Z.Warmed39 U.vm ∧ U.heap = h0) (fun _ _ _ _ _ => True) (fun _ U o U' => ∃ v L, o = .returned v ∧ Q0 Z k1 k2 z k3 h0 n0 v U'.heap L ∧ FrameEnd U o U' L room_1.cells room_1.slots) := by
  refine MetFree.of_bodySF (plainFor_of_name pn_0) hisR ?_
  intro p e s m args below meth c s₁ Bd hml0 hP hK
  obtain ⟨rfl, hZ, hh⟩ := hP
  have hx := Bd.exec
  have hby := Bd.bytes
  have hml : c.maxLocals = 23 := hml0
  have hown : s.vm.findClass "com/example/yuelu/yuelu/FieldLanesZeroPinLaw" = some m.cls := findClass_of_methodNamed Bd.named
  have hnm := (name_of_methodNamed Bd.named Bd.method).1
  have X0 : Stand p l e room_1 s m #[(.int k1), (.int k2), (.long z), (.int k3)] below meth c s₁ [] 0 0 := Stand.of_body Bd
  have e0 : s₁.heap = h0 := by rw [← hh, Bd.state]; rfl
  have N0 := Fr.nil n0
  have K0 : Keep h0 h0 [] := Keep.refl h0 _
  have pre0 : ∀ tq, Steps p.tables e below (s₁.setTop (mkF m 0 #[.val (.int k1), .val (.int k2), .val (.long z), .second, .val (.int k3), .unset, .unset, .unset, .unset, .unset, .unset, .unset, .unset, .unset, .unset, .unset, .unset, .unset, .unset, .unset, .unset, .unset, .unset] [])) tq → Steps p.tables e below (s₁.setTop (entryFrame m #[(.int k1), (.int k2), (.long z), (.int k3)] maxLocals)) tq := fun tq kq => castTop (ef_0 m k1 k2 z k3) kq
  obtain ⟨v6, hv6⟩ : ∃ z_q : Int32, z_q = ((k1 &&& (63 : Int32)) + (1 : Int32)) := ⟨_, rfl⟩
  obtain ⟨v12, hv12⟩ : ∃ z_q : Int32, z_q = (k2 &&& (63 : Int32)) := ⟨_, rfl⟩
  have hnz18_1 : ¬ (v6 = (0 : Int32)) := (own_side_0_18 k1 k2 z k3 v6 hv6 v12 hv12)
  obtain ⟨v19, hv19⟩ : ∃ z_q : Int32, z_q = (v12 / v6) := ⟨_, rfl⟩
  obtain ⟨m40, hm40⟩ : ∃ z_q : Int64, z_q = (if v6 = (64 : Int32) then (-1 : Int64) else (((1 : Int64) <<< (v6 &&& 0x3f).toInt64) - (1 : Int64))) := ⟨_, rfl⟩
  have pre3 : ∀ tq, Steps p.tables e below (s₁.setTop (mkF m 40 #[.val (.int k1), .val (.int k2), .val (.long z), .second, .val (.int k3), .val (.int v6), .val (.int v12), .val (.int v19), .unset, .unset, .unset, .unset, .unset, .unset, .unset, .unset, .unset, .unset, .unset, .unset, .unset, .unset, .unset] [(.long m40)])) tq → Steps p.tables e below (s₁.setTop (entryFrame m #[(.int k1), (.int k2), (.long z), (.int k3)] maxLocals)) tq := by
    intro tq kt
    refine pre0 _ ?_
    show Steps p.tables e below (s₁.setTop (mkF m 0 #[.val (.int k1), .val (.int k2), .val (.long z), .second, .val (.int k3), .unset, .unset, .unset, .unset, .unset, .unset, .unset, .unset, .unset, .unset, .unset, .unset, .unset, .unset, .unset, .unset, .unset, .unset] [])) _
    refine XS.iloadN X0.here hx rfl (hb hby at_0) rfl ?_
    show Steps p.tables e below (s₁.setTop (mkF m 1 #[.val (.int k1), .val (.int k2), .val (.long z), .second, .val (.int k3), .unset, .unset, .unset, .unset, .unset, .unset, .unset, .unset, .unset, .unset, .unset, .unset, .unset, .unset, .unset, .unset, .unset, .unset] [(.int k1)])) _
    refine XS.bipush X0.here hx rfl (hb hby at_1) ?_
    show Steps p.tables e below (s₁.setTop (mkF m 3 #[.val (.int k1), .val (.int k2), .val (.long z), .second, .val (.int k3), .unset, .unset, .unset, .unset, .unset, .unset, .unset, .unset, .unset, .unset, .unset, .unset, .unset, .unset, .unset, .unset, .unset, .unset] [(.int (63 : Int32)), (.int k1)])) _
    refine XS.iand X0.here hx rfl (hb hby at_3) rfl ?_
    show Steps p.tables e below (s₁.setTop (mkF m 4 #[.val (.int k1), .val (.int k2), .val (.long z), .second, .val (.int k3), .unset, .unset, .unset, .unset, .unset, .unset, .unset, .unset, .unset, .unset, .unset, .unset, .unset, .unset, .unset, .unset, .unset, .unset] [(.int (k1 &&& (63 : Int32)))])) _
    refine XS.iconst X0.here hx rfl (hb hby at_4) ?_
    show Steps p.tables e below (s₁.setTop (mkF m 5 #[.val (.int k1), .val (.int k2), .val (.long z), .second, .val (.int k3), .unset, .unset, .unset, .unset, .unset, .unset, .unset, .unset, .unset, .unset, .unset, .unset, .unset, .unset, .unset, .unset, .unset, .unset] [(.int (1 : Int32)), (.int (k1 &&& (63 : Int32)))])) _
    refine XS.iadd X0.here hx rfl (hb hby at_5) rfl ?_
    show Steps p.tables e below (s₁.setTop (mkF m 6 #[.val (.int k1), .val (.int k2), .val (.long z), .second, .val (.int k3), .unset, .unset, .unset, .unset, .unset, .unset, .unset, .unset, .unset, .unset, .unset, .unset, .unset, .unset, .unset, .unset, .unset, .unset] [(.int ((k1 &&& (63 : Int32)) + (1 : Int32)))])) _
    refine XS.istore X0.here hx rfl (hb hby at_6) rfl (l' := #[.val (.int k1), .val (.int k2), .val (.long z), .second, .val (.int k3), .val (.int v6), .unset, .unset, .unset, .unset, .unset, .unset, .unset, .unset, .unset, .unset, .unset, .unset, .unset, .unset, .unset, .unset, .unset]) (by rw [hv6]; rfl) ?_
    show Steps p.tables e below (s₁.setTop (mkF m 8 #[.val (.int k1), .val (.int k2), .val (.long z), .second, .val (.int k3), .val (.int v6), .unset, .unset, .unset, .unset, .unset, .unset, .unset, .unset, .unset, .unset, .unset, .unset, .unset, .unset, .unset, .unset, .unset] [])) _
    refine XS.iloadN X0.here hx rfl (hb hby at_8) rfl ?_
    show Steps p.tables e below (s₁.setTop (mkF m 9 #[.val (.int k1), .val (.int k2), .val (.long z), .second, .val (.int k3), .val (.int v6), .unset, .unset, .unset, .unset, .unset, .unset, .unset, .unset, .unset, .unset, .unset, .unset, .unset, .unset, .unset, .unset, .unset] [(.int k2)])) _
    refine XS.bipush X0.here hx rfl (hb hby at_9) ?_
    show Steps p.tables e below (s₁.setTop (mkF m 11 #[.val (.int k1), .val (.int k2), .val (.long z), .second, .val (.int k3), .val (.int v6), .unset, .unset, .unset, .unset, .unset, .unset, .unset, .unset, .unset, .unset, .unset, .unset, .unset, .unset, .unset, .unset, .unset] [(.int (63 : Int32)), (.int k2)])) _
    refine XS.iand X0.here hx rfl (hb hby at_11) rfl ?_
    show Steps p.tables e below (s₁.setTop (mkF m 12 #[.val (.int k1), .val (.int k2), .val (.long z), .second, .val (.int k3), .val (.int v6), .unset, .unset, .unset, .unset, .unset, .unset, .unset, .unset, .unset, .unset, .unset, .unset, .unset, .unset, .unset, .unset, .unset] [(.int (k2 &&& (63 : Int32)))])) _
    refine XS.istore X0.here hx rfl (hb hby at_12) rfl (l' := #[.val (.int k1), .val (.int k2), .val (.long z), .second, .val (.int k3), .val (.int v6), .val (.int v12), .unset, .unset, .unset, .unset, .unset, .unset, .unset, .unset, .unset, .unset, .unset, .unset, .unset, .unset, .unset, .unset]) (by rw [hv12]; rfl) ?_
    show Steps p.tables e below (s₁.setTop (mkF m 14 #[.val (.int k1), .val (.int k2), .val (.long z), .second, .val (.int k3), .val (.int v6), .val (.int v12), .unset, .unset, .unset, .unset, .unset, .unset, .unset, .unset, .unset, .unset, .unset, .unset, .unset, .unset, .unset, .unset] [])) _
    refine XS.iload X0.here hx rfl (hb hby at_14) rfl ?_
    show Steps p.tables e below (s₁.setTop (mkF m 16 #[.val (.int k1), .val (.int k2), .val (.long z), .second, .val (.int k3), .val (.int v6), .val (.int v12), .unset, .unset, .unset, .unset, .unset, .unset, .unset, .unset, .unset, .unset, .unset, .unset, .unset, .unset, .unset, .unset] [(.int v12)])) _
    refine XS.iload X0.here hx rfl (hb hby at_16) rfl ?_
    show Steps p.tables e below (s₁.setTop (mkF m 18 #[.val (.int k1), .val (.int k2), .val (.long z), .second, .val (.int k3), .val (.int v6), .val (.int v12), .unset, .unset, .unset, .unset, .unset, .unset, .unset, .unset, .unset, .unset, .unset, .unset, .unset, .unset, .unset, .unset] [(.int v6), (.int v12)])) _
    refine XS.idiv X0.here hx rfl (hb hby at_18) rfl hnz18_1 ?_
    show Steps p.tables e below (s₁.setTop (mkF m 19 #[.val (.int k1), .val (.int k2), .val (.long z), .second, .val (.int k3), .val (.int v6), .val (.int v12), .unset, .unset, .unset, .unset, .unset, .unset, .unset, .unset, .unset, .unset, .unset, .unset, .unset, .unset, .unset, .unset] [(.int (v12 / v6))])) _
    refine XS.istore X0.here hx rfl (hb hby at_19) rfl (l' := #[.val (.int k1), .val (.int k2), .val (.long z), .second, .val (.int k3), .val (.int v6), .val (.int v12), .val (.int v19), .unset, .unset, .unset, .unset, .unset, .unset, .unset, .unset, .unset, .unset, .unset, .unset, .unset, .unset, .unset]) (by rw [hv19]; rfl) ?_
    show Steps p.tables e below (s₁.setTop (mkF m 21 #[.val (.int k1), .val (.int k2), .val (.long z), .second, .val (.int k3), .val (.int v6), .val (.int v12), .val (.int v19), .unset, .unset, .unset, .unset, .unset, .unset, .unset, .unset, .unset, .unset, .unset, .unset, .unset, .unset, .unset] [])) _
    refine XS.iload X0.here hx rfl (hb hby at_21) rfl ?_
    show Steps p.tables e below (s₁.setTop (mkF m 23 #[.val (.int k1), .val (.int k2), .val (.long z), .second, .val (.int k3), .val (.int v6), .val (.int v12), .val (.int v19), .unset, .unset, .unset, .unset, .unset, .unset, .unset, .unset, .unset, .unset, .unset, .unset, .unset, .unset, .unset] [(.int v6)])) _
    refine XS.bipush X0.here hx rfl (hb hby at_23) ?_
    by_cases d2 : v6 = (64 : Int32)
    · skip
      show Steps p.tables e below (s₁.setTop (mkF m 25 #[.val (.int k1), .val (.int k2), .val (.long z), .second, .val (.int k3), .val (.int v6), .val (.int v12), .val (.int v19), .unset, .unset, .unset, .unset, .unset, .unset, .unset, .unset, .unset, .unset, .unset, .unset, .unset, .unset, .unset] [(.int (64 : Int32)), (.int v6)])) _
      refine XS.icmpNo X0.here hx rfl (hb hby at_25) rfl (teq d2).2 ?_
      show Steps p.tables e below (s₁.setTop (mkF m 28 #[.val (.int k1), .val (.int k2), .val (.long z), .second, .val (.int k3), .val (.int v6), .val (.int v12), .val (.int v19), .unset, .unset, .unset, .unset, .unset, .unset, .unset, .unset, .unset, .unset, .unset, .unset, .unset, .unset, .unset] [])) _
      refine X0.ldc2Long hx hown (mvT hZ (hw _ (List.mem_of_getElem? (i := 28) rfl))) (g := (mkF m 28 #[.val (.int k1), .val (.int k2), .val (.long z), .second, .val (.int k3), .val (.int v6), .val (.int v12), .val (.int v19), .unset, .unset, .unset, .unset, .unset, .unset, .unset, .unset, .unset, .unset, .unset, .unset, .unset, .unset, .unset] [])) rfl (hb hby at_28) _ ?_
      show Steps p.tables e below (s₁.setTop (mkF m 31 #[.val (.int k1), .val (.int k2), .val (.long z), .second, .val (.int k3), .val (.int v6), .val (.int v12), .val (.int v19), .unset, .unset, .unset, .unset, .unset, .unset, .unset, .unset, .unset, .unset, .unset, .unset, .unset, .unset, .unset] [(.long (-1 : Int64))])) _
      refine XS.goto X0.here hx rfl (pc0 := 31) (pc' := 40) rfl (hb hby at_31) (by decide) (by decide) ?_
      show Steps p.tables e below (s₁.setTop (mkF m 40 #[.val (.int k1), .val (.int k2), .val (.long z), .second, .val (.int k3), .val (.int v6), .val (.int v12), .val (.int v19), .unset, .unset, .unset, .unset, .unset, .unset, .unset, .unset, .unset, .unset, .unset, .unset, .unset, .unset, .unset] [(.long (-1 : Int64))])) _
      exact castTop (by simp only [hm40, if_pos d2]) kt
    · skip
      show Steps p.tables e below (s₁.setTop (mkF m 25 #[.val (.int k1), .val (.int k2), .val (.long z), .second, .val (.int k3), .val (.int v6), .val (.int v12), .val (.int v19), .unset, .unset, .unset, .unset, .unset, .unset, .unset, .unset, .unset, .unset, .unset, .unset, .unset, .unset, .unset] [(.int (64 : Int32)), (.int v6)])) _
      refine XS.icmpYes X0.here hx rfl (pc0 := 25) (pc' := 34) rfl (hb hby at_25) rfl (feq d2).2 (by decide) (by decide) ?_
      show Steps p.tables e below (s₁.setTop (mkF m 34 #[.val (.int k1), .val (.int k2), .val (.long z), .second, .val (.int k3), .val (.int v6), .val (.int v12), .val (.int v19), .unset, .unset, .unset, .unset, .unset, .unset, .unset, .unset, .unset, .unset, .unset, .unset, .unset, .unset, .unset] [])) _
      refine XS.lconst X0.here hx rfl (hb hby at_34) ?_
      show Steps p.tables e below (s₁.setTop (mkF m 35 #[.val (.int k1), .val (.int k2), .val (.long z), .second, .val (.int k3), .val (.int v6), .val (.int v12), .val (.int v19), .unset, .unset, .unset, .unset, .unset, .unset, .unset, .unset, .unset, .unset, .unset, .unset, .unset, .unset, .unset] [(.long (1 : Int64))])) _
      refine XS.iload X0.here hx rfl (hb hby at_35) rfl ?_
      show Steps p.tables e below (s₁.setTop (mkF m 37 #[.val (.int k1), .val (.int k2), .val (.long z), .second, .val (.int k3), .val (.int v6), .val (.int v12), .val (.int v19), .unset, .unset, .unset, .unset, .unset, .unset, .unset, .unset, .unset, .unset, .unset, .unset, .unset, .unset, .unset] [(.int v6), (.long (1 : Int64))])) _
      refine XS.lshl X0.here hx rfl (hb hby at_37) rfl ?_
      show Steps p.tables e below (s₁.setTop (mkF m 38 #[.val (.int k1), .val (.int k2), .val (.long z), .second, .val (.int k3), .val (.int v6), .val (.int v12), .val (.int v19), .unset, .unset, .unset, .unset, .unset, .unset, .unset, .unset, .unset, .unset, .unset, .unset, .unset, .unset, .unset] [(.long ((1 : Int64) <<< (v6 &&& 0x3f).toInt64))])) _
      refine XS.lconst X0.here hx rfl (hb hby at_38) ?_
      show Steps p.tables e below (s₁.setTop (mkF m 39 #[.val (.int k1), .val (.int k2), .val (.long z), .second, .val (.int k3), .val (.int v6), .val (.int v12), .val (.int v19), .unset, .unset, .unset, .unset, .unset, .unset, .unset, .unset, .unset, .unset, .unset, .unset, .unset, .unset, .unset] [(.long (1 : Int64)), (.long ((1 : Int64) <<< (v6 &&& 0x3f).toInt64))])) _
      refine XS.lsub X0.here hx rfl (hb hby at_39) rfl ?_
      show Steps p.tables e below (s₁.setTop (mkF m 40 #[.val (.int k1), .val (.int k2), .val (.long z), .second, .val (.int k3), .val (.int v6), .val (.int v12), .val (.int v19), .unset, .unset, .unset, .unset, .unset, .unset, .unset, .unset, .unset, .unset, .unset, .unset, .unset, .unset, .unset] [(.long (((1 : Int64) <<< (v6 &&& 0x3f).toInt64) - (1 : Int64)))])) _
      exact castTop (by simp only [hm40, if_neg d2]) kt
  obtain ⟨v47, hv47⟩ : ∃ z_q : Int32, z_q = (v19 * v6) := ⟨_, rfl⟩
  obtain ⟨m72_l11, hm72_l11⟩ : ∃ z_q : Int64, z_q = (if (k3 &&& (1 : Int32)) = (0 : Int32) then z else (z &&& ((m40 <<< (v47 &&& 0x3f).toInt64) ^^^ (-1 : Int64)))) := ⟨_, rfl⟩
  have pre5 : ∀ tq, Steps p.tables e below (s₁.setTop (mkF m 72 #[.val (.int k1), .val (.int k2), .val (.long z), .second, .val (.int k3), .val (.int v6), .val (.int v12), .val (.int v19), .val (.long m40), .second, .val (.int v47), .val (.long m72_l11), .second, .unset, .unset, .unset, .unset, .unset, .unset, .unset, .unset, .unset, .unset] [])) tq → Steps p.tables e below (s₁.setTop (entryFrame m #[(.int k1), (.int k2), (.long z), (.int k3)] maxLocals)) tq := by
    intro tq kt
    refine pre3 _ ?_
    show Steps p.tables e below (s₁.setTop (mkF m 40 #[.val (.int k1), .val (.int k2), .val (.long z), .second, .val (.int k3), .val (.int v6), .val (.int v12), .val (.int v19), .unset, .unset, .unset, .unset, .unset, .unset, .unset, .unset, .unset, .unset, .unset, .unset, .unset, .unset, .unset] [(.long m40)])) _
    refine XS.lstore X0.here hx rfl (hb hby at_40) rfl (l' := #[.val (.int k1), .val (.int k2), .val (.long z), .second, .val (.int k3), .val (.int v6), .val (.int v12), .val (.int v19), .val (.long m40), .second, .unset, .unset, .unset, .unset, .unset, .unset, .unset, .unset, .unset, .unset, .unset, .unset, .unset]) rfl ?_
    show Steps p.tables e below (s₁.setTop (mkF m 42 #[.val (.int k1), .val (.int k2), .val (.long z), .second, .val (.int k3), .val (.int v6), .val (.int v12), .val (.int v19), .val (.long m40), .second, .unset, .unset, .unset, .unset, .unset, .unset, .unset, .unset, .unset, .unset, .unset, .unset, .unset] [])) _
    refine XS.iload X0.here hx rfl (hb hby at_42) rfl ?_
    show Steps p.tables e below (s₁.setTop (mkF m 44 #[.val (.int k1), .val (.int k2), .val (.long z), .second, .val (.int k3), .val (.int v6), .val (.int v12), .val (.int v19), .val (.long m40), .second, .unset, .unset, .unset, .unset, .unset, .unset, .unset, .unset, .unset, .unset, .unset, .unset, .unset] [(.int v19)])) _
    refine XS.iload X0.here hx rfl (hb hby at_44) rfl ?_
    show Steps p.tables e below (s₁.setTop (mkF m 46 #[.val (.int k1), .val (.int k2), .val (.long z), .second, .val (.int k3), .val (.int v6), .val (.int v12), .val (.int v19), .val (.long m40), .second, .unset, .unset, .unset, .unset, .unset, .unset, .unset, .unset, .unset, .unset, .unset, .unset, .unset] [(.int v6), (.int v19)])) _
    refine XS.imul X0.here hx rfl (hb hby at_46) rfl ?_
    show Steps p.tables e below (s₁.setTop (mkF m 47 #[.val (.int k1), .val (.int k2), .val (.long z), .second, .val (.int k3), .val (.int v6), .val (.int v12), .val (.int v19), .val (.long m40), .second, .unset, .unset, .unset, .unset, .unset, .unset, .unset, .unset, .unset, .unset, .unset, .unset, .unset] [(.int (v19 * v6))])) _
    refine XS.istore X0.here hx rfl (hb hby at_47) rfl (l' := #[.val (.int k1), .val (.int k2), .val (.long z), .second, .val (.int k3), .val (.int v6), .val (.int v12), .val (.int v19), .val (.long m40), .second, .val (.int v47), .unset, .unset, .unset, .unset, .unset, .unset, .unset, .unset, .unset, .unset, .unset, .unset]) (by rw [hv47]; rfl) ?_
    show Steps p.tables e below (s₁.setTop (mkF m 49 #[.val (.int k1), .val (.int k2), .val (.long z), .second, .val (.int k3), .val (.int v6), .val (.int v12), .val (.int v19), .val (.long m40), .second, .val (.int v47), .unset, .unset, .unset, .unset, .unset, .unset, .unset, .unset, .unset, .unset, .unset, .unset] [])) _
    refine XS.lloadN X0.here hx rfl (hb hby at_49) rfl ?_
    show Steps p.tables e below (s₁.setTop (mkF m 50 #[.val (.int k1), .val (.int k2), .val (.long z), .second, .val (.int k3), .val (.int v6), .val (.int v12), .val (.int v19), .val (.long m40), .second, .val (.int v47), .unset, .unset, .unset, .unset, .unset, .unset, .unset, .unset, .unset, .unset, .unset, .unset] [(.long z)])) _
    refine XS.lstore X0.here hx rfl (hb hby at_50) rfl (l' := #[.val (.int k1), .val (.int k2), .val (.long z), .second, .val (.int k3), .val (.int v6), .val (.int v12), .val (.int v19), .val (.long m40), .second, .val (.int v47), .val (.long z), .second, .unset, .unset, .unset, .unset, .unset, .unset, .unset, .unset, .unset, .unset]) rfl ?_
    show Steps p.tables e below (s₁.setTop (mkF m 52 #[.val (.int k1), .val (.int k2), .val (.long z), .second, .val (.int k3), .val (.int v6), .val (.int v12), .val (.int v19), .val (.long m40), .second, .val (.int v47), .val (.long z), .second, .unset, .unset, .unset, .unset, .unset, .unset, .unset, .unset, .unset, .unset] [])) _
    refine XS.iload X0.here hx rfl (hb hby at_52) rfl ?_
    show Steps p.tables e below (s₁.setTop (mkF m 54 #[.val (.int k1), .val (.int k2), .val (.long z), .second, .val (.int k3), .val (.int v6), .val (.int v12), .val (.int v19), .val (.long m40), .second, .val (.int v47), .val (.long z), .second, .unset, .unset, .unset, .unset, .unset, .unset, .unset, .unset, .unset, .unset] [(.int k3)])) _
    refine XS.iconst X0.here hx rfl (hb hby at_54) ?_
    show Steps p.tables e below (s₁.setTop (mkF m 55 #[.val (.int k1), .val (.int k2), .val (.long z), .second, .val (.int k3), .val (.int v6), .val (.int v12), .val (.int v19), .val (.long m40), .second, .val (.int v47), .val (.long z), .second, .unset, .unset, .unset, .unset, .unset, .unset, .unset, .unset, .unset, .unset] [(.int (1 : Int32)), (.int k3)])) _
    refine XS.iand X0.here hx rfl (hb hby at_55) rfl ?_
    by_cases d4 : (k3 &&& (1 : Int32)) = (0 : Int32)
    · skip
      show Steps p.tables e below (s₁.setTop (mkF m 56 #[.val (.int k1), .val (.int k2), .val (.long z), .second, .val (.int k3), .val (.int v6), .val (.int v12), .val (.int v19), .val (.long m40), .second, .val (.int v47), .val (.long z), .second, .unset, .unset, .unset, .unset, .unset, .unset, .unset, .unset, .unset, .unset] [(.int (k3 &&& (1 : Int32)))])) _
      refine XS.ifYes X0.here hx rfl (pc0 := 56) (pc' := 72) rfl (hb hby at_56) rfl ((if0 _ _).trans (teq d4).1) (by decide) (by decide) ?_
      show Steps p.tables e below (s₁.setTop (mkF m 72 #[.val (.int k1), .val (.int k2), .val (.long z), .second, .val (.int k3), .val (.int v6), .val (.int v12), .val (.int v19), .val (.long m40), .second, .val (.int v47), .val (.long z), .second, .unset, .unset, .unset, .unset, .unset, .unset, .unset, .unset, .unset, .unset] [])) _
      exact castTop (by simp only [hm72_l11, if_pos d4]) kt
    · skip
      show Steps p.tables e below (s₁.setTop (mkF m 56 #[.val (.int k1), .val (.int k2), .val (.long z), .second, .val (.int k3), .val (.int v6), .val (.int v12), .val (.int v19), .val (.long m40), .second, .val (.int v47), .val (.long z), .second, .unset, .unset, .unset, .unset, .unset, .unset, .unset, .unset, .unset, .unset] [(.int (k3 &&& (1 : Int32)))])) _
      refine XS.ifNo X0.here hx rfl (hb hby at_56) rfl ((if0 _ _).trans (feq d4).1) ?_
      show Steps p.tables e below (s₁.setTop (mkF m 59 #[.val (.int k1), .val (.int k2), .val (.long z), .second, .val (.int k3), .val (.int v6), .val (.int v12), .val (.int v19), .val (.long m40), .second, .val (.int v47), .val (.long z), .second, .unset, .unset, .unset, .unset, .unset, .unset, .unset, .unset, .unset, .unset] [])) _
      refine XS.lloadN X0.here hx rfl (hb hby at_59) rfl ?_
      show Steps p.tables e below (s₁.setTop (mkF m 60 #[.val (.int k1), .val (.int k2), .val (.long z), .second, .val (.int k3), .val (.int v6), .val (.int v12), .val (.int v19), .val (.long m40), .second, .val (.int v47), .val (.long z), .second, .unset, .unset, .unset, .unset, .unset, .unset, .unset, .unset, .unset, .unset] [(.long z)])) _
      refine XS.lload X0.here hx rfl (hb hby at_60) rfl ?_
      show Steps p.tables e below (s₁.setTop (mkF m 62 #[.val (.int k1), .val (.int k2), .val (.long z), .second, .val (.int k3), .val (.int v6), .val (.int v12), .val (.int v19), .val (.long m40), .second, .val (.int v47), .val (.long z), .second, .unset, .unset, .unset, .unset, .unset, .unset, .unset, .unset, .unset, .unset] [(.long m40), (.long z)])) _
      refine XS.iload X0.here hx rfl (hb hby at_62) rfl ?_
      show Steps p.tables e below (s₁.setTop (mkF m 64 #[.val (.int k1), .val (.int k2), .val (.long z), .second, .val (.int k3), .val (.int v6), .val (.int v12), .val (.int v19), .val (.long m40), .second, .val (.int v47), .val (.long z), .second, .unset, .unset, .unset, .unset, .unset, .unset, .unset, .unset, .unset, .unset] [(.int v47), (.long m40), (.long z)])) _
      refine XS.lshl X0.here hx rfl (hb hby at_64) rfl ?_
      show Steps p.tables e below (s₁.setTop (mkF m 65 #[.val (.int k1), .val (.int k2), .val (.long z), .second, .val (.int k3), .val (.int v6), .val (.int v12), .val (.int v19), .val (.long m40), .second, .val (.int v47), .val (.long z), .second, .unset, .unset, .unset, .unset, .unset, .unset, .unset, .unset, .unset, .unset] [(.long (m40 <<< (v47 &&& 0x3f).toInt64)), (.long z)])) _
      refine X0.ldc2Long hx hown (mvT hZ (hw _ (List.mem_of_getElem? (i := 28) rfl))) (g := (mkF m 65 #[.val (.int k1), .val (.int k2), .val (.long z), .second, .val (.int k3), .val (.int v6), .val (.int v12), .val (.int v19), .val (.long m40), .second, .val (.int v47), .val (.long z), .second, .unset, .unset, .unset, .unset, .unset, .unset, .unset, .unset, .unset, .unset] [(.long (m40 <<< (v47 &&& 0x3f).toInt64)), (.long z)])) rfl (hb hby at_65) _ ?_
      show Steps p.tables e below (s₁.setTop (mkF m 68 #[.val (.int k1), .val (.int k2), .val (.long z), .second, .val (.int k3), .val (.int v6), .val (.int v12), .val (.int v19), .val (.long m40), .second, .val (.int v47), .val (.long z), .second, .unset, .unset, .unset, .unset, .unset, .unset, .unset, .unset, .unset, .unset] [(.long (-1 : Int64)), (.long (m40 <<< (v47 &&& 0x3f).toInt64)), (.long z)])) _
      refine XS.lxor X0.here hx rfl (hb hby at_68) rfl ?_
      show Steps p.tables e below (s₁.setTop (mkF m 69 #[.val (.int k1), .val (.int k2), .val (.long z), .second, .val (.int k3), .val (.int v6), .val (.int v12), .val (.int v19), .val (.long m40), .second, .val (.int v47), .val (.long z), .second, .unset, .unset, .unset, .unset, .unset, .unset, .unset, .unset, .unset, .unset] [(.long ((m40 <<< (v47 &&& 0x3f).toInt64) ^^^ (-1 : Int64))), (.long z)])) _
      refine XS.land X0.here hx rfl (hb hby at_69) rfl ?_
      show Steps p.tables e below (s₁.setTop (mkF m 70 #[.val (.int k1), .val (.int k2), .val (.long z), .second, .val (.int k3), .val (.int v6), .val (.int v12), .val (.int v19), .val (.long m40), .second, .val (.int v47), .val (.long z), .second, .unset, .unset, .unset, .unset, .unset, .unset, .unset, .unset, .unset, .unset] [(.long (z &&& ((m40 <<< (v47 &&& 0x3f).toInt64) ^^^ (-1 : Int64))))])) _
      refine XS.lstore X0.here hx rfl (hb hby at_70) rfl (l' := #[.val (.int k1), .val (.int k2), .val (.long z), .second, .val (.int k3), .val (.int v6), .val (.int v12), .val (.int v19), .val (.long m40), .second, .val (.int v47), .val (.long (z &&& ((m40 <<< (v47 &&& 0x3f).toInt64) ^^^ (-1 : Int64)))), .second, .unset, .unset, .unset, .unset, .unset, .unset, .unset, .unset, .unset, .unset]) rfl ?_
      show Steps p.tables e below (s₁.setTop (mkF m 72 #[.val (.int k1), .val (.int k2), .val (.long z), .second, .val (.int k3), .val (.int v6), .val (.int v12), .val (.int v19), .val (.long m40), .second, .val (.int v47), .val (.long (z &&& ((m40 <<< (v47 &&& 0x3f).toInt64) ^^^ (-1 : Int64)))), .second, .unset, .unset, .unset, .unset, .unset, .unset, .unset, .unset, .unset, .unset] [])) _
      exact castTop (by simp only [hm72_l11, if_neg d4]) kt
  obtain ⟨T6, hX6, X6, e6, E6, A6, D6, -, st6⟩ := newO X0 hx hZ hown (hw _ (List.mem_of_getElem? (i := 0) rfl)) (hw _ (List.mem_of_getElem? (i := 1) rfl)) (hw _ (List.mem_of_getElem? (i := 2) rfl)) e0 (g := (mkF m 72 #[.val (.int k1), .val (.int k2), .val (.long z), .second, .val (.int k3), .val (.int v6), .val (.int v12), .val (.int v19), .val (.long m40), .second, .val (.int v47), .val (.long m72_l11), .second, .unset, .unset, .unset, .unset, .unset, .unset, .unset, .unset, .unset, .unset] [])) rfl (hb hby at_72) (by decide) (by decide)
  obtain ⟨b6, g6⟩ : ∃ z_q, z_q = h0.size := ⟨_, rfl⟩
  rw [← g6] at A6 D6 st6
  have g_b6 : n0 ≤ b6 := Nat.le_trans Z0 (Nat.le_of_eq g6.symm)
  have sz_b6 : h0.size ≤ b6 := Nat.le_trans K0.1 (Nat.le_of_eq g6.symm)
  have Z7 : n0 ≤ hX6.size := Nat.le_trans Z0 E6.1
  have K8 : Keep h0 hX6 [] := K0.ext E6
  have F9 : Fld Z hX6 b6 "com/example/yuelu/yuelu/FieldLanes" "width" "I" (.int (0 : Int32)) := D6 (Or.inr (hw _ (List.mem_of_getElem? (i := 10) rfl))) (ty := .int) (by decide)
  have F10 : Fld Z hX6 b6 "com/example/yuelu/yuelu/FieldLanes" "count" "I" (.int (0 : Int32)) := D6 (Or.inr (hw _ (List.mem_of_getElem? (i := 12) rfl))) (ty := .int) (by decide)
  have F11 : Fld Z hX6 b6 "com/example/yuelu/yuelu/FieldLanes" "lowestBits" "J" (.long (0 : Int64)) := D6 (Or.inr (hw _ (List.mem_of_getElem? (i := 14) rfl))) (ty := .long) (by decide)
  have F12 : Fld Z hX6 b6 "com/example/yuelu/yuelu/FieldLanes" "highestBits" "J" (.long (0 : Int64)) := D6 (Or.inr (hw _ (List.mem_of_getElem? (i := 16) rfl))) (ty := .long) (by decide)
  have hp13_hok : own_ok v6 := (own_pre_0_78_hok k1 k2 z k3 v6 hv6 v12 hv12 v19 hv19 m40 hm40 v47 hv47 m72_l11 hm72_l11)
  obtain ⟨_, _, ⟨T13, L13, k13, n13⟩, -, X13, ⟨Lc13, hQ13, l13, y13, z13⟩, st13⟩ := X6.specialBack hx (y := (⟨"com/example/yuelu/yuelu/FieldLanes", "<init>", "(I)V"⟩ : MethodName)) rfl hown (mvT hZ (hw _ (List.mem_of_getElem? (i := 3) rfl))) (mvT hZ (hw _ (List.mem_of_getElem? (i := 4) rfl))) (mvT hZ (hw _ (List.mem_of_getElem? (i := 5) rfl))) (by decide) (backOf (W := 1) (rm1 l Z a0 hw [] b6 v6 hX6 n0 Z7 F9 F10 F11 F12 A6 g_b6 hp13_hok) hZ (hw _ (List.mem_of_getElem? (i := 5) rfl)) (hw _ (List.mem_of_getElem? (i := 2) rfl)) (by decide) (by decide)) (g := (mkF m 78 #[.val (.int k1), .val (.int k2), .val (.long z), .second, .val (.int k3), .val (.int v6), .val (.int v12), .val (.int v19), .val (.long m40), .second, .val (.int v47), .val (.long m72_l11), .second, .unset, .unset, .unset, .unset, .unset, .unset, .unset, .unset, .unset, .unset] [(.int v6), (.ref b6), (.ref b6)])) rfl (by rw [hml]; rfl) (Steps.refl _) (a := b6) (argsL := [(.int v6)]) (rest := [(.ref b6)]) (lenOf pd_1 rfl) rfl (by show 2 * 0 + _ ≤ _; exact Nat.le_of_eq rfl) (hb hby at_78) (fun _ _ => ⟨rfl, e6, (by decide : 1 + 0 ≤ _), (by decide : 4 + 0 ≤ _)⟩)
  dsimp only [Pt.U, Pt.locs, Pt.cells, Pt.slots] at X13 l13 y13 z13 st13 hQ13
  subst l13 y13 z13
  obtain ⟨rfl, N13q, K13q, F14, F15, F16⟩ := hQ13
  have N13 := Fr.app N0 N13q
  have F17 : Exa Z T13.heap b6 "com/example/yuelu/yuelu/FieldLanes" := A6.keep K13q
  have Z18 : n0 ≤ T13.heap.size := Nat.le_trans Z7 K13q.1
  have K19 : Keep h0 T13.heap [] := K8.trans K13q (allS (Or.inr sz_b6) all0)
  obtain ⟨cq20, kq20, q20a, q20b, q20c⟩ := isOf hZ rfl F14
  obtain ⟨_, _, ⟨T20, L20, k20, n20⟩, -, X20, ⟨Lc20, hQ20, l20, y20, z20⟩, st20⟩ := X13.virtualBack hx (y := (⟨"com/example/yuelu/yuelu/FieldLanes", "zero", "(J)J"⟩ : MethodName)) (z := (⟨"com/example/yuelu/yuelu/FieldLanes", "zero", "(J)J"⟩ : MethodName)) hown (mvT hZ (hw _ (List.mem_of_getElem? (i := 17) rfl))) (mvT hZ (hw _ (List.mem_of_getElem? (i := 18) rfl))) (notFace_of_selects (args := #[]) (mvT hZ (hw _ (List.mem_of_getElem? (i := 20) rfl)))) (mvT hZ (hw _ (List.mem_of_getElem? (i := 20) rfl))) (mvT hZ (hw _ (List.mem_of_getElem? (i := 19) rfl))) (by decide) (backOf (W := 0) (rm3 l Z a0 hw [] b6 m72_l11 (own_L v6) (own_H v6) T13.heap n0 Z18 F15 F16 F14) hZ (hw _ (List.mem_of_getElem? (i := 21) rfl)) (hw _ (List.mem_of_getElem? (i := 2) rfl)) (by decide) (by decide)) q20a q20c (g := (mkF m 87 #[.val (.int k1), .val (.int k2), .val (.long z), .second, .val (.int k3), .val (.int v6), .val (.int v12), .val (.int v19), .val (.long m40), .second, .val (.int v47), .val (.long m72_l11), .second, .val (.ref b6), .unset, .unset, .unset, .unset, .unset, .unset, .unset, .unset, .unset] [(.long m72_l11), (.ref b6)])) rfl (by rw [hml]; rfl) (Steps.refl _) (argsL := [(.long m72_l11)]) (rest := []) (lenOf pd_0 rfl) rfl (by show 2 * 0 + _ ≤ _; exact Nat.le_of_eq rfl) (hb hby at_87) (fun _ _ => ⟨rfl, rfl, (by decide : 1 + 0 ≤ _), (by decide : 4 + 0 ≤ _)⟩)
  dsimp only [Pt.U, Pt.locs, Pt.cells, Pt.slots] at X20 l20 y20 z20 st20 hQ20
  subst l20 y20 z20
  obtain ⟨rfl, N20q, e20⟩ := hQ20
  have N20 := Fr.app N13 N20q
  obtain ⟨r87, hr87⟩ : ∃ z_q : Int64, z_q = ((own_H v6) &&& (own_nz (own_L v6) (own_H v6) m72_l11 ^^^ (-1 : Int64))) := ⟨_, rfl⟩
  obtain ⟨m109, hm109⟩ : ∃ z_q : Int32, z_q = (if (((r87.toUInt64 >>> (v12 &&& 0x3f).toInt64.toUInt64).toInt64) &&& (1 : Int64)) = (0 : Int64) then (0 : Int32) else (1 : Int32)) := ⟨_, rfl⟩
  have pre22 : ∀ tq, Steps p.tables e below (T20.setTop (mkF m 109 #[.val (.int k1), .val (.int k2), .val (.long z), .second, .val (.int k3), .val (.int v6), .val (.int v12), .val (.int v19), .val (.long m40), .second, .val (.int v47), .val (.long m72_l11), .second, .val (.ref b6), .val (.long r87), .second, .unset, .unset, .unset, .unset, .unset, .unset, .unset] [(.int m109)])) tq → Steps p.tables e below (s₁.setTop (entryFrame m #[(.int k1), (.int k2), (.long z), (.int k3)] maxLocals)) tq := by
    intro tq kt
    refine pre5 _ ?_
    show Steps p.tables e below (s₁.setTop (mkF m 72 #[.val (.int k1), .val (.int k2), .val (.long z), .second, .val (.int k3), .val (.int v6), .val (.int v12), .val (.int v19), .val (.long m40), .second, .val (.int v47), .val (.long m72_l11), .second, .unset, .unset, .unset, .unset, .unset, .unset, .unset, .unset, .unset, .unset] [])) _
    refine st6 _ ?_
    show Steps p.tables e below (T6.setTop (mkF m 75 #[.val (.int k1), .val (.int k2), .val (.long z), .second, .val (.int k3), .val (.int v6), .val (.int v12), .val (.int v19), .val (.long m40), .second, .val (.int v47), .val (.long m72_l11), .second, .unset, .unset, .unset, .unset, .unset, .unset, .unset, .unset, .unset, .unset] [(.ref b6)])) _
    refine XS.dup X6.here hx rfl (hb hby at_75) rfl rfl ?_
    show Steps p.tables e below (T6.setTop (mkF m 76 #[.val (.int k1), .val (.int k2), .val (.long z), .second, .val (.int k3), .val (.int v6), .val (.int v12), .val (.int v19), .val (.long m40), .second, .val (.int v47), .val (.long m72_l11), .second, .unset, .unset, .unset, .unset, .unset, .unset, .unset, .unset, .unset, .unset] [(.ref b6), (.ref b6)])) _
    refine XS.iload X6.here hx rfl (hb hby at_76) rfl ?_
    show Steps p.tables e below (T6.setTop (mkF m 78 #[.val (.int k1), .val (.int k2), .val (.long z), .second, .val (.int k3), .val (.int v6), .val (.int v12), .val (.int v19), .val (.long m40), .second, .val (.int v47), .val (.long m72_l11), .second, .unset, .unset, .unset, .unset, .unset, .unset, .unset, .unset, .unset, .unset] [(.int v6), (.ref b6), (.ref b6)])) _
    refine st13.trans ?_
    show Steps p.tables e below (T13.setTop (mkF m 81 #[.val (.int k1), .val (.int k2), .val (.long z), .second, .val (.int k3), .val (.int v6), .val (.int v12), .val (.int v19), .val (.long m40), .second, .val (.int v47), .val (.long m72_l11), .second, .unset, .unset, .unset, .unset, .unset, .unset, .unset, .unset, .unset, .unset] [(.ref b6)])) _
    refine XS.astore X13.here hx rfl (hb hby at_81) rfl rfl (l' := #[.val (.int k1), .val (.int k2), .val (.long z), .second, .val (.int k3), .val (.int v6), .val (.int v12), .val (.int v19), .val (.long m40), .second, .val (.int v47), .val (.long m72_l11), .second, .val (.ref b6), .unset, .unset, .unset, .unset, .unset, .unset, .unset, .unset, .unset]) rfl ?_
    show Steps p.tables e below (T13.setTop (mkF m 83 #[.val (.int k1), .val (.int k2), .val (.long z), .second, .val (.int k3), .val (.int v6), .val (.int v12), .val (.int v19), .val (.long m40), .second, .val (.int v47), .val (.long m72_l11), .second, .val (.ref b6), .unset, .unset, .unset, .unset, .unset, .unset, .unset, .unset, .unset] [])) _
    refine XS.aload X13.here hx rfl (hb hby at_83) rfl rfl ?_
    show Steps p.tables e below (T13.setTop (mkF m 85 #[.val (.int k1), .val (.int k2), .val (.long z), .second, .val (.int k3), .val (.int v6), .val (.int v12), .val (.int v19), .val (.long m40), .second, .val (.int v47), .val (.long m72_l11), .second, .val (.ref b6), .unset, .unset, .unset, .unset, .unset, .unset, .unset, .unset, .unset] [(.ref b6)])) _
    refine XS.lload X13.here hx rfl (hb hby at_85) rfl ?_
    show Steps p.tables e below (T13.setTop (mkF m 87 #[.val (.int k1), .val (.int k2), .val (.long z), .second, .val (.int k3), .val (.int v6), .val (.int v12), .val (.int v19), .val (.long m40), .second, .val (.int v47), .val (.long m72_l11), .second, .val (.ref b6), .unset, .unset, .unset, .unset, .unset, .unset, .unset, .unset, .unset] [(.long m72_l11), (.ref b6)])) _
    refine st20.trans ?_
    show Steps p.tables e below (T20.setTop (mkF m 90 #[.val (.int k1), .val (.int k2), .val (.long z), .second, .val (.int k3), .val (.int v6), .val (.int v12), .val (.int v19), .val (.long m40), .second, .val (.int v47), .val (.long m72_l11), .second, .val (.ref b6), .unset, .unset, .unset, .unset, .unset, .unset, .unset, .unset, .unset] [(.long ((own_H v6) &&& (own_nz (own_L v6) (own_H v6) m72_l11 ^^^ (-1 : Int64))))])) _
    rw [← hr87]
    show Steps p.tables e below (T20.setTop (mkF m 90 #[.val (.int k1), .val (.int k2), .val (.long z), .second, .val (.int k3), .val (.int v6), .val (.int v12), .val (.int v19), .val (.long m40), .second, .val (.int v47), .val (.long m72_l11), .second, .val (.ref b6), .unset, .unset, .unset, .unset, .unset, .unset, .unset, .unset, .unset] [(.long r87)])) _
    refine XS.lstore X20.here hx rfl (hb hby at_90) rfl (l' := #[.val (.int k1), .val (.int k2), .val (.long z), .second, .val (.int k3), .val (.int v6), .val (.int v12), .val (.int v19), .val (.long m40), .second, .val (.int v47), .val (.long m72_l11), .second, .val (.ref b6), .val (.long r87), .second, .unset, .unset, .unset, .unset, .unset, .unset, .unset]) rfl ?_
    show Steps p.tables e below (T20.setTop (mkF m 92 #[.val (.int k1), .val (.int k2), .val (.long z), .second, .val (.int k3), .val (.int v6), .val (.int v12), .val (.int v19), .val (.long m40), .second, .val (.int v47), .val (.long m72_l11), .second, .val (.ref b6), .val (.long r87), .second, .unset, .unset, .unset, .unset, .unset, .unset, .unset] [])) _
    refine XS.lload X20.here hx rfl (hb hby at_92) rfl ?_
    show Steps p.tables e below (T20.setTop (mkF m 94 #[.val (.int k1), .val (.int k2), .val (.long z), .second, .val (.int k3), .val (.int v6), .val (.int v12), .val (.int v19), .val (.long m40), .second, .val (.int v47), .val (.long m72_l11), .second, .val (.ref b6), .val (.long r87), .second, .unset, .unset, .unset, .unset, .unset, .unset, .unset] [(.long r87)])) _
    refine XS.iload X20.here hx rfl (hb hby at_94) rfl ?_
    show Steps p.tables e below (T20.setTop (mkF m 96 #[.val (.int k1), .val (.int k2), .val (.long z), .second, .val (.int k3), .val (.int v6), .val (.int v12), .val (.int v19), .val (.long m40), .second, .val (.int v47), .val (.long m72_l11), .second, .val (.ref b6), .val (.long r87), .second, .unset, .unset, .unset, .unset, .unset, .unset, .unset] [(.int v12), (.long r87)])) _
    refine XS.lushr X20.here hx rfl (hb hby at_96) rfl ?_
    show Steps p.tables e below (T20.setTop (mkF m 97 #[.val (.int k1), .val (.int k2), .val (.long z), .second, .val (.int k3), .val (.int v6), .val (.int v12), .val (.int v19), .val (.long m40), .second, .val (.int v47), .val (.long m72_l11), .second, .val (.ref b6), .val (.long r87), .second, .unset, .unset, .unset, .unset, .unset, .unset, .unset] [(.long ((r87.toUInt64 >>> (v12 &&& 0x3f).toInt64.toUInt64).toInt64))])) _
    refine XS.lconst X20.here hx rfl (hb hby at_97) ?_
    show Steps p.tables e below (T20.setTop (mkF m 98 #[.val (.int k1), .val (.int k2), .val (.long z), .second, .val (.int k3), .val (.int v6), .val (.int v12), .val (.int v19), .val (.long m40), .second, .val (.int v47), .val (.long m72_l11), .second, .val (.ref b6), .val (.long r87), .second, .unset, .unset, .unset, .unset, .unset, .unset, .unset] [(.long (1 : Int64)), (.long ((r87.toUInt64 >>> (v12 &&& 0x3f).toInt64.toUInt64).toInt64))])) _
    refine XS.land X20.here hx rfl (hb hby at_98) rfl ?_
    show Steps p.tables e below (T20.setTop (mkF m 99 #[.val (.int k1), .val (.int k2), .val (.long z), .second, .val (.int k3), .val (.int v6), .val (.int v12), .val (.int v19), .val (.long m40), .second, .val (.int v47), .val (.long m72_l11), .second, .val (.ref b6), .val (.long r87), .second, .unset, .unset, .unset, .unset, .unset, .unset, .unset] [(.long (((r87.toUInt64 >>> (v12 &&& 0x3f).toInt64.toUInt64).toInt64) &&& (1 : Int64)))])) _
    refine XS.lconst X20.here hx rfl (hb hby at_99) ?_
    show Steps p.tables e below (T20.setTop (mkF m 100 #[.val (.int k1), .val (.int k2), .val (.long z), .second, .val (.int k3), .val (.int v6), .val (.int v12), .val (.int v19), .val (.long m40), .second, .val (.int v47), .val (.long m72_l11), .second, .val (.ref b6), .val (.long r87), .second, .unset, .unset, .unset, .unset, .unset, .unset, .unset] [(.long (0 : Int64)), (.long (((r87.toUInt64 >>> (v12 &&& 0x3f).toInt64.toUInt64).toInt64) &&& (1 : Int64)))])) _
    refine XS.lcmp X20.here hx rfl (hb hby at_100) rfl ?_
    by_cases d21 : (((r87.toUInt64 >>> (v12 &&& 0x3f).toInt64.toUInt64).toInt64) &&& (1 : Int64)) = (0 : Int64)
    · skip
      show Steps p.tables e below (T20.setTop (mkF m 101 #[.val (.int k1), .val (.int k2), .val (.long z), .second, .val (.int k3), .val (.int v6), .val (.int v12), .val (.int v19), .val (.long m40), .second, .val (.int v47), .val (.long m72_l11), .second, .val (.ref b6), .val (.long r87), .second, .unset, .unset, .unset, .unset, .unset, .unset, .unset] [(.int (lcmpW (((r87.toUInt64 >>> (v12 &&& 0x3f).toInt64.toUInt64).toInt64) &&& (1 : Int64)) (0 : Int64)))])) _
      refine XS.ifYes X20.here hx rfl (pc0 := 101) (pc' := 108) rfl (hb hby at_101) rfl ((if0 _ _).trans (teq ((lw_eq (((r87.toUInt64 >>> (v12 &&& 0x3f).toInt64.toUInt64).toInt64) &&& (1 : Int64)) (0 : Int64)).2 d21)).1) (by decide) (by decide) ?_
      show Steps p.tables e below (T20.setTop (mkF m 108 #[.val (.int k1), .val (.int k2), .val (.long z), .second, .val (.int k3), .val (.int v6), .val (.int v12), .val (.int v19), .val (.long m40), .second, .val (.int v47), .val (.long m72_l11), .second, .val (.ref b6), .val (.long r87), .second, .unset, .unset, .unset, .unset, .unset, .unset, .unset] [])) _
      refine XS.iconst X20.here hx rfl (hb hby at_108) ?_
      show Steps p.tables e below (T20.setTop (mkF m 109 #[.val (.int k1), .val (.int k2), .val (.long z), .second, .val (.int k3), .val (.int v6), .val (.int v12), .val (.int v19), .val (.long m40), .second, .val (.int v47), .val (.long m72_l11), .second, .val (.ref b6), .val (.long r87), .second, .unset, .unset, .unset, .unset, .unset, .unset, .unset] [(.int (0 : Int32))])) _
      exact castTop (by simp only [hm109, if_pos d21]) kt
    · skip
      show Steps p.tables e below (T20.setTop (mkF m 101 #[.val (.int k1), .val (.int k2), .val (.long z), .second, .val (.int k3), .val (.int v6), .val (.int v12), .val (.int v19), .val (.long m40), .second, .val (.int v47), .val (.long m72_l11), .second, .val (.ref b6), .val (.long r87), .second, .unset, .unset, .unset, .unset, .unset, .unset, .unset] [(.int (lcmpW (((r87.toUInt64 >>> (v12 &&& 0x3f).toInt64.toUInt64).toInt64) &&& (1 : Int64)) (0 : Int64)))])) _
      refine XS.ifNo X20.here hx rfl (hb hby at_101) rfl ((if0 _ _).trans (feq (mt (lw_eq (((r87.toUInt64 >>> (v12 &&& 0x3f).toInt64.toUInt64).toInt64) &&& (1 : Int64)) (0 : Int64)).1 d21)).1) ?_
      show Steps p.tables e below (T20.setTop (mkF m 104 #[.val (.int k1), .val (.int k2), .val (.long z), .second, .val (.int k3), .val (.int v6), .val (.int v12), .val (.int v19), .val (.long m40), .second, .val (.int v47), .val (.long m72_l11), .second, .val (.ref b6), .val (.long r87), .second, .unset, .unset, .unset, .unset, .unset, .unset, .unset] [])) _
      refine XS.iconst X20.here hx rfl (hb hby at_104) ?_
      show Steps p.tables e below (T20.setTop (mkF m 105 #[.val (.int k1), .val (.int k2), .val (.long z), .second, .val (.int k3), .val (.int v6), .val (.int v12), .val (.int v19), .val (.long m40), .second, .val (.int v47), .val (.long m72_l11), .second, .val (.ref b6), .val (.long r87), .second, .unset, .unset, .unset, .unset, .unset, .unset, .unset] [(.int (1 : Int32))])) _
      refine XS.goto X20.here hx rfl (pc0 := 105) (pc' := 109) rfl (hb hby at_105) (by decide) (by decide) ?_
      show Steps p.tables e below (T20.setTop (mkF m 109 #[.val (.int k1), .val (.int k2), .val (.long z), .second, .val (.int k3), .val (.int v6), .val (.int v12), .val (.int v19), .val (.long m40), .second, .val (.int v47), .val (.long m72_l11), .second, .val (.ref b6), .val (.long r87), .second, .unset, .unset, .unset, .unset, .unset, .unset, .unset] [(.int (1 : Int32))])) _
      exact castTop (by simp only [hm109, if_neg d21]) kt
  have hnz115_23 : ¬ (v6 = (0 : Int32)) := (own_side_0_115 k1 k2 z k3 v6 hv6 v12 hv12 v19 hv19 m40 hm40 v47 hv47 m72_l11 hm72_l11 hp13_hok r87 hr87 m109 hm109)
  obtain ⟨v116, hv116⟩ : ∃ z_q : Int32, z_q = ((64 : Int32) / v6) := ⟨_, rfl⟩
  obtain ⟨m130, hm130⟩ : ∃ z_q : Int32, z_q = (if v19 < v116 then (1 : Int32) else (0 : Int32)) := ⟨_, rfl⟩
  have pre25 : ∀ tq, Steps p.tables e below (T20.setTop (mkF m 130 #[.val (.int k1), .val (.int k2), .val (.long z), .second, .val (.int k3), .val (.int v6), .val (.int v12), .val (.int v19), .val (.long m40), .second, .val (.int v47), .val (.long m72_l11), .second, .val (.ref b6), .val (.long r87), .second, .val (.int m109), .val (.int v116), .unset, .unset, .unset, .unset, .unset] [(.int m130)])) tq → Steps p.tables e below (s₁.setTop (entryFrame m #[(.int k1), (.int k2), (.long z), (.int k3)] maxLocals)) tq := by
    intro tq kt
    refine pre22 _ ?_
    show Steps p.tables e below (T20.setTop (mkF m 109 #[.val (.int k1), .val (.int k2), .val (.long z), .second, .val (.int k3), .val (.int v6), .val (.int v12), .val (.int v19), .val (.long m40), .second, .val (.int v47), .val (.long m72_l11), .second, .val (.ref b6), .val (.long r87), .second, .unset, .unset, .unset, .unset, .unset, .unset, .unset] [(.int m109)])) _
    refine XS.istore X20.here hx rfl (hb hby at_109) rfl (l' := #[.val (.int k1), .val (.int k2), .val (.long z), .second, .val (.int k3), .val (.int v6), .val (.int v12), .val (.int v19), .val (.long m40), .second, .val (.int v47), .val (.long m72_l11), .second, .val (.ref b6), .val (.long r87), .second, .val (.int m109), .unset, .unset, .unset, .unset, .unset, .unset]) rfl ?_
    show Steps p.tables e below (T20.setTop (mkF m 111 #[.val (.int k1), .val (.int k2), .val (.long z), .second, .val (.int k3), .val (.int v6), .val (.int v12), .val (.int v19), .val (.long m40), .second, .val (.int v47), .val (.long m72_l11), .second, .val (.ref b6), .val (.long r87), .second, .val (.int m109), .unset, .unset, .unset, .unset, .unset, .unset] [])) _
    refine XS.bipush X20.here hx rfl (hb hby at_111) ?_
    show Steps p.tables e below (T20.setTop (mkF m 113 #[.val (.int k1), .val (.int k2), .val (.long z), .second, .val (.int k3), .val (.int v6), .val (.int v12), .val (.int v19), .val (.long m40), .second, .val (.int v47), .val (.long m72_l11), .second, .val (.ref b6), .val (.long r87), .second, .val (.int m109), .unset, .unset, .unset, .unset, .unset, .unset] [(.int (64 : Int32))])) _
    refine XS.iload X20.here hx rfl (hb hby at_113) rfl ?_
    show Steps p.tables e below (T20.setTop (mkF m 115 #[.val (.int k1), .val (.int k2), .val (.long z), .second, .val (.int k3), .val (.int v6), .val (.int v12), .val (.int v19), .val (.long m40), .second, .val (.int v47), .val (.long m72_l11), .second, .val (.ref b6), .val (.long r87), .second, .val (.int m109), .unset, .unset, .unset, .unset, .unset, .unset] [(.int v6), (.int (64 : Int32))])) _
    refine XS.idiv X20.here hx rfl (hb hby at_115) rfl hnz115_23 ?_
    show Steps p.tables e below (T20.setTop (mkF m 116 #[.val (.int k1), .val (.int k2), .val (.long z), .second, .val (.int k3), .val (.int v6), .val (.int v12), .val (.int v19), .val (.long m40), .second, .val (.int v47), .val (.long m72_l11), .second, .val (.ref b6), .val (.long r87), .second, .val (.int m109), .unset, .unset, .unset, .unset, .unset, .unset] [(.int ((64 : Int32) / v6))])) _
    refine XS.istore X20.here hx rfl (hb hby at_116) rfl (l' := #[.val (.int k1), .val (.int k2), .val (.long z), .second, .val (.int k3), .val (.int v6), .val (.int v12), .val (.int v19), .val (.long m40), .second, .val (.int v47), .val (.long m72_l11), .second, .val (.ref b6), .val (.long r87), .second, .val (.int m109), .val (.int v116), .unset, .unset, .unset, .unset, .unset]) (by rw [hv116]; rfl) ?_
    show Steps p.tables e below (T20.setTop (mkF m 118 #[.val (.int k1), .val (.int k2), .val (.long z), .second, .val (.int k3), .val (.int v6), .val (.int v12), .val (.int v19), .val (.long m40), .second, .val (.int v47), .val (.long m72_l11), .second, .val (.ref b6), .val (.long r87), .second, .val (.int m109), .val (.int v116), .unset, .unset, .unset, .unset, .unset] [])) _
    refine XS.iload X20.here hx rfl (hb hby at_118) rfl ?_
    show Steps p.tables e below (T20.setTop (mkF m 120 #[.val (.int k1), .val (.int k2), .val (.long z), .second, .val (.int k3), .val (.int v6), .val (.int v12), .val (.int v19), .val (.long m40), .second, .val (.int v47), .val (.long m72_l11), .second, .val (.ref b6), .val (.long r87), .second, .val (.int m109), .val (.int v116), .unset, .unset, .unset, .unset, .unset] [(.int v19)])) _
    refine XS.iload X20.here hx rfl (hb hby at_120) rfl ?_
    by_cases d24 : v19 < v116
    · skip
      show Steps p.tables e below (T20.setTop (mkF m 122 #[.val (.int k1), .val (.int k2), .val (.long z), .second, .val (.int k3), .val (.int v6), .val (.int v12), .val (.int v19), .val (.long m40), .second, .val (.int v47), .val (.long m72_l11), .second, .val (.ref b6), .val (.long r87), .second, .val (.int m109), .val (.int v116), .unset, .unset, .unset, .unset, .unset] [(.int v116), (.int v19)])) _
      refine XS.icmpNo X20.here hx rfl (hb hby at_122) rfl (tlt d24).2.1 ?_
      show Steps p.tables e below (T20.setTop (mkF m 125 #[.val (.int k1), .val (.int k2), .val (.long z), .second, .val (.int k3), .val (.int v6), .val (.int v12), .val (.int v19), .val (.long m40), .second, .val (.int v47), .val (.long m72_l11), .second, .val (.ref b6), .val (.long r87), .second, .val (.int m109), .val (.int v116), .unset, .unset, .unset, .unset, .unset] [])) _
      refine XS.iconst X20.here hx rfl (hb hby at_125) ?_
      show Steps p.tables e below (T20.setTop (mkF m 126 #[.val (.int k1), .val (.int k2), .val (.long z), .second, .val (.int k3), .val (.int v6), .val (.int v12), .val (.int v19), .val (.long m40), .second, .val (.int v47), .val (.long m72_l11), .second, .val (.ref b6), .val (.long r87), .second, .val (.int m109), .val (.int v116), .unset, .unset, .unset, .unset, .unset] [(.int (1 : Int32))])) _
      refine XS.goto X20.here hx rfl (pc0 := 126) (pc' := 130) rfl (hb hby at_126) (by decide) (by decide) ?_
      show Steps p.tables e below (T20.setTop (mkF m 130 #[.val (.int k1), .val (.int k2), .val (.long z), .second, .val (.int k3), .val (.int v6), .val (.int v12), .val (.int v19), .val (.long m40), .second, .val (.int v47), .val (.long m72_l11), .second, .val (.ref b6), .val (.long r87), .second, .val (.int m109), .val (.int v116), .unset, .unset, .unset, .unset, .unset] [(.int (1 : Int32))])) _
      exact castTop (by simp only [hm130, if_pos d24]) kt
    · skip
      show Steps p.tables e below (T20.setTop (mkF m 122 #[.val (.int k1), .val (.int k2), .val (.long z), .second, .val (.int k3), .val (.int v6), .val (.int v12), .val (.int v19), .val (.long m40), .second, .val (.int v47), .val (.long m72_l11), .second, .val (.ref b6), .val (.long r87), .second, .val (.int m109), .val (.int v116), .unset, .unset, .unset, .unset, .unset] [(.int v116), (.int v19)])) _
      refine XS.icmpYes X20.here hx rfl (pc0 := 122) (pc' := 129) rfl (hb hby at_122) rfl (flt d24).2.1 (by decide) (by decide) ?_
      show Steps p.tables e below (T20.setTop (mkF m 129 #[.val (.int k1), .val (.int k2), .val (.long z), .second, .val (.int k3), .val (.int v6), .val (.int v12), .val (.int v19), .val (.long m40), .second, .val (.int v47), .val (.long m72_l11), .second, .val (.ref b6), .val (.long r87), .second, .val (.int m109), .val (.int v116), .unset, .unset, .unset, .unset, .unset] [])) _
      refine XS.iconst X20.here hx rfl (hb hby at_129) ?_
      show Steps p.tables e below (T20.setTop (mkF m 130 #[.val (.int k1), .val (.int k2), .val (.long z), .second, .val (.int k3), .val (.int v6), .val (.int v12), .val (.int v19), .val (.long m40), .second, .val (.int v47), .val (.long m72_l11), .second, .val (.ref b6), .val (.long r87), .second, .val (.int m109), .val (.int v116), .unset, .unset, .unset, .unset, .unset] [(.int (0 : Int32))])) _
      exact castTop (by simp only [hm130, if_neg d24]) kt
  have hnz136_26 : ¬ (v6 = (0 : Int32)) := (own_side_0_136 k1 k2 z k3 v6 hv6 v12 hv12 v19 hv19 m40 hm40 v47 hv47 m72_l11 hm72_l11 hp13_hok r87 hr87 m109 hm109 v116 hv116 m130 hm130)
  obtain ⟨m149, hm149⟩ : ∃ z_q : Int32, z_q = (if (v12 % v6) = (v6 - (1 : Int32)) then (1 : Int32) else (0 : Int32)) := ⟨_, rfl⟩
  have pre28 : ∀ tq, Steps p.tables e below (T20.setTop (mkF m 149 #[.val (.int k1), .val (.int k2), .val (.long z), .second, .val (.int k3), .val (.int v6), .val (.int v12), .val (.int v19), .val (.long m40), .second, .val (.int v47), .val (.long m72_l11), .second, .val (.ref b6), .val (.long r87), .second, .val (.int m109), .val (.int v116), .val (.int m130), .unset, .unset, .unset, .unset] [(.int m149)])) tq → Steps p.tables e below (s₁.setTop (entryFrame m #[(.int k1), (.int k2), (.long z), (.int k3)] maxLocals)) tq := by
    intro tq kt
    refine pre25 _ ?_
    show Steps p.tables e below (T20.setTop (mkF m 130 #[.val (.int k1), .val (.int k2), .val (.long z), .second, .val (.int k3), .val (.int v6), .val (.int v12), .val (.int v19), .val (.long m40), .second, .val (.int v47), .val (.long m72_l11), .second, .val (.ref b6), .val (.long r87), .second, .val (.int m109), .val (.int v116), .unset, .unset, .unset, .unset, .unset] [(.int m130)])) _
    refine XS.istore X20.here hx rfl (hb hby at_130) rfl (l' := #[.val (.int k1), .val (.int k2), .val (.long z), .second, .val (.int k3), .val (.int v6), .val (.int v12), .val (.int v19), .val (.long m40), .second, .val (.int v47), .val (.long m72_l11), .second, .val (.ref b6), .val (.long r87), .second, .val (.int m109), .val (.int v116), .val (.int m130), .unset, .unset, .unset, .unset]) rfl ?_
    show Steps p.tables e below (T20.setTop (mkF m 132 #[.val (.int k1), .val (.int k2), .val (.long z), .second, .val (.int k3), .val (.int v6), .val (.int v12), .val (.int v19), .val (.long m40), .second, .val (.int v47), .val (.long m72_l11), .second, .val (.ref b6), .val (.long r87), .second, .val (.int m109), .val (.int v116), .val (.int m130), .unset, .unset, .unset, .unset] [])) _
    refine XS.iload X20.here hx rfl (hb hby at_132) rfl ?_
    show Steps p.tables e below (T20.setTop (mkF m 134 #[.val (.int k1), .val (.int k2), .val (.long z), .second, .val (.int k3), .val (.int v6), .val (.int v12), .val (.int v19), .val (.long m40), .second, .val (.int v47), .val (.long m72_l11), .second, .val (.ref b6), .val (.long r87), .second, .val (.int m109), .val (.int v116), .val (.int m130), .unset, .unset, .unset, .unset] [(.int v12)])) _
    refine XS.iload X20.here hx rfl (hb hby at_134) rfl ?_
    show Steps p.tables e below (T20.setTop (mkF m 136 #[.val (.int k1), .val (.int k2), .val (.long z), .second, .val (.int k3), .val (.int v6), .val (.int v12), .val (.int v19), .val (.long m40), .second, .val (.int v47), .val (.long m72_l11), .second, .val (.ref b6), .val (.long r87), .second, .val (.int m109), .val (.int v116), .val (.int m130), .unset, .unset, .unset, .unset] [(.int v6), (.int v12)])) _
    refine iremM X20 hx rfl (hb hby at_136) rfl hnz136_26 ?_
    show Steps p.tables e below (T20.setTop (mkF m 137 #[.val (.int k1), .val (.int k2), .val (.long z), .second, .val (.int k3), .val (.int v6), .val (.int v12), .val (.int v19), .val (.long m40), .second, .val (.int v47), .val (.long m72_l11), .second, .val (.ref b6), .val (.long r87), .second, .val (.int m109), .val (.int v116), .val (.int m130), .unset, .unset, .unset, .unset] [(.int (v12 % v6))])) _
    refine XS.iload X20.here hx rfl (hb hby at_137) rfl ?_
    show Steps p.tables e below (T20.setTop (mkF m 139 #[.val (.int k1), .val (.int k2), .val (.long z), .second, .val (.int k3), .val (.int v6), .val (.int v12), .val (.int v19), .val (.long m40), .second, .val (.int v47), .val (.long m72_l11), .second, .val (.ref b6), .val (.long r87), .second, .val (.int m109), .val (.int v116), .val (.int m130), .unset, .unset, .unset, .unset] [(.int v6), (.int (v12 % v6))])) _
    refine XS.iconst X20.here hx rfl (hb hby at_139) ?_
    show Steps p.tables e below (T20.setTop (mkF m 140 #[.val (.int k1), .val (.int k2), .val (.long z), .second, .val (.int k3), .val (.int v6), .val (.int v12), .val (.int v19), .val (.long m40), .second, .val (.int v47), .val (.long m72_l11), .second, .val (.ref b6), .val (.long r87), .second, .val (.int m109), .val (.int v116), .val (.int m130), .unset, .unset, .unset, .unset] [(.int (1 : Int32)), (.int v6), (.int (v12 % v6))])) _
    refine XS.isub X20.here hx rfl (hb hby at_140) rfl ?_
    by_cases d27 : (v12 % v6) = (v6 - (1 : Int32))
    · skip
      show Steps p.tables e below (T20.setTop (mkF m 141 #[.val (.int k1), .val (.int k2), .val (.long z), .second, .val (.int k3), .val (.int v6), .val (.int v12), .val (.int v19), .val (.long m40), .second, .val (.int v47), .val (.long m72_l11), .second, .val (.ref b6), .val (.long r87), .second, .val (.int m109), .val (.int v116), .val (.int m130), .unset, .unset, .unset, .unset] [(.int (v6 - (1 : Int32))), (.int (v12 % v6))])) _
      refine XS.icmpNo X20.here hx rfl (hb hby at_141) rfl (teq d27).2 ?_
      show Steps p.tables e below (T20.setTop (mkF m 144 #[.val (.int k1), .val (.int k2), .val (.long z), .second, .val (.int k3), .val (.int v6), .val (.int v12), .val (.int v19), .val (.long m40), .second, .val (.int v47), .val (.long m72_l11), .second, .val (.ref b6), .val (.long r87), .second, .val (.int m109), .val (.int v116), .val (.int m130), .unset, .unset, .unset, .unset] [])) _
      refine XS.iconst X20.here hx rfl (hb hby at_144) ?_
      show Steps p.tables e below (T20.setTop (mkF m 145 #[.val (.int k1), .val (.int k2), .val (.long z), .second, .val (.int k3), .val (.int v6), .val (.int v12), .val (.int v19), .val (.long m40), .second, .val (.int v47), .val (.long m72_l11), .second, .val (.ref b6), .val (.long r87), .second, .val (.int m109), .val (.int v116), .val (.int m130), .unset, .unset, .unset, .unset] [(.int (1 : Int32))])) _
      refine XS.goto X20.here hx rfl (pc0 := 145) (pc' := 149) rfl (hb hby at_145) (by decide) (by decide) ?_
      show Steps p.tables e below (T20.setTop (mkF m 149 #[.val (.int k1), .val (.int k2), .val (.long z), .second, .val (.int k3), .val (.int v6), .val (.int v12), .val (.int v19), .val (.long m40), .second, .val (.int v47), .val (.long m72_l11), .second, .val (.ref b6), .val (.long r87), .second, .val (.int m109), .val (.int v116), .val (.int m130), .unset, .unset, .unset, .unset] [(.int (1 : Int32))])) _
      exact castTop (by simp only [hm149, if_pos d27]) kt
    · skip
      show Steps p.tables e below (T20.setTop (mkF m 141 #[.val (.int k1), .val (.int k2), .val (.long z), .second, .val (.int k3), .val (.int v6), .val (.int v12), .val (.int v19), .val (.long m40), .second, .val (.int v47), .val (.long m72_l11), .second, .val (.ref b6), .val (.long r87), .second, .val (.int m109), .val (.int v116), .val (.int m130), .unset, .unset, .unset, .unset] [(.int (v6 - (1 : Int32))), (.int (v12 % v6))])) _
      refine XS.icmpYes X20.here hx rfl (pc0 := 141) (pc' := 148) rfl (hb hby at_141) rfl (feq d27).2 (by decide) (by decide) ?_
      show Steps p.tables e below (T20.setTop (mkF m 148 #[.val (.int k1), .val (.int k2), .val (.long z), .second, .val (.int k3), .val (.int v6), .val (.int v12), .val (.int v19), .val (.long m40), .second, .val (.int v47), .val (.long m72_l11), .second, .val (.ref b6), .val (.long r87), .second, .val (.int m109), .val (.int v116), .val (.int m130), .unset, .unset, .unset, .unset] [])) _
      refine XS.iconst X20.here hx rfl (hb hby at_148) ?_
      show Steps p.tables e below (T20.setTop (mkF m 149 #[.val (.int k1), .val (.int k2), .val (.long z), .second, .val (.int k3), .val (.int v6), .val (.int v12), .val (.int v19), .val (.long m40), .second, .val (.int v47), .val (.long m72_l11), .second, .val (.ref b6), .val (.long r87), .second, .val (.int m109), .val (.int v116), .val (.int m130), .unset, .unset, .unset, .unset] [(.int (0 : Int32))])) _
      exact castTop (by simp only [hm149, if_neg d27]) kt
  obtain ⟨v159, hv159⟩ : ∃ z_q : Int64, z_q = (((m72_l11.toUInt64 >>> (v47 &&& 0x3f).toInt64.toUInt64).toInt64) &&& m40) := ⟨_, rfl⟩
  obtain ⟨m183, hm183⟩ : ∃ z_q : Int32, z_q = (if m130 = (0 : Int32) then (0 : Int32) else (if m149 = (0 : Int32) then (0 : Int32) else (if v159 = (0 : Int64) then (1 : Int32) else (0 : Int32)))) := ⟨_, rfl⟩
  have pre32 : ∀ tq, Steps p.tables e below (T20.setTop (mkF m 183 #[.val (.int k1), .val (.int k2), .val (.long z), .second, .val (.int k3), .val (.int v6), .val (.int v12), .val (.int v19), .val (.long m40), .second, .val (.int v47), .val (.long m72_l11), .second, .val (.ref b6), .val (.long r87), .second, .val (.int m109), .val (.int v116), .val (.int m130), .val (.int m149), .val (.long v159), .second, .unset] [(.int m183)])) tq → Steps p.tables e below (s₁.setTop (entryFrame m #[(.int k1), (.int k2), (.long z), (.int k3)] maxLocals)) tq := by
    intro tq kt
    refine pre28 _ ?_
    show Steps p.tables e below (T20.setTop (mkF m 149 #[.val (.int k1), .val (.int k2), .val (.long z), .second, .val (.int k3), .val (.int v6), .val (.int v12), .val (.int v19), .val (.long m40), .second, .val (.int v47), .val (.long m72_l11), .second, .val (.ref b6), .val (.long r87), .second, .val (.int m109), .val (.int v116), .val (.int m130), .unset, .unset, .unset, .unset] [(.int m149)])) _
    refine XS.istore X20.here hx rfl (hb hby at_149) rfl (l' := #[.val (.int k1), .val (.int k2), .val (.long z), .second, .val (.int k3), .val (.int v6), .val (.int v12), .val (.int v19), .val (.long m40), .second, .val (.int v47), .val (.long m72_l11), .second, .val (.ref b6), .val (.long r87), .second, .val (.int m109), .val (.int v116), .val (.int m130), .val (.int m149), .unset, .unset, .unset]) rfl ?_
    show Steps p.tables e below (T20.setTop (mkF m 151 #[.val (.int k1), .val (.int k2), .val (.long z), .second, .val (.int k3), .val (.int v6), .val (.int v12), .val (.int v19), .val (.long m40), .second, .val (.int v47), .val (.long m72_l11), .second, .val (.ref b6), .val (.long r87), .second, .val (.int m109), .val (.int v116), .val (.int m130), .val (.int m149), .unset, .unset, .unset] [])) _
    refine XS.lload X20.here hx rfl (hb hby at_151) rfl ?_
    show Steps p.tables e below (T20.setTop (mkF m 153 #[.val (.int k1), .val (.int k2), .val (.long z), .second, .val (.int k3), .val (.int v6), .val (.int v12), .val (.int v19), .val (.long m40), .second, .val (.int v47), .val (.long m72_l11), .second, .val (.ref b6), .val (.long r87), .second, .val (.int m109), .val (.int v116), .val (.int m130), .val (.int m149), .unset, .unset, .unset] [(.long m72_l11)])) _
    refine XS.iload X20.here hx rfl (hb hby at_153) rfl ?_
    show Steps p.tables e below (T20.setTop (mkF m 155 #[.val (.int k1), .val (.int k2), .val (.long z), .second, .val (.int k3), .val (.int v6), .val (.int v12), .val (.int v19), .val (.long m40), .second, .val (.int v47), .val (.long m72_l11), .second, .val (.ref b6), .val (.long r87), .second, .val (.int m109), .val (.int v116), .val (.int m130), .val (.int m149), .unset, .unset, .unset] [(.int v47), (.long m72_l11)])) _
    refine XS.lushr X20.here hx rfl (hb hby at_155) rfl ?_
    show Steps p.tables e below (T20.setTop (mkF m 156 #[.val (.int k1), .val (.int k2), .val (.long z), .second, .val (.int k3), .val (.int v6), .val (.int v12), .val (.int v19), .val (.long m40), .second, .val (.int v47), .val (.long m72_l11), .second, .val (.ref b6), .val (.long r87), .second, .val (.int m109), .val (.int v116), .val (.int m130), .val (.int m149), .unset, .unset, .unset] [(.long ((m72_l11.toUInt64 >>> (v47 &&& 0x3f).toInt64.toUInt64).toInt64))])) _
    refine XS.lload X20.here hx rfl (hb hby at_156) rfl ?_
    show Steps p.tables e below (T20.setTop (mkF m 158 #[.val (.int k1), .val (.int k2), .val (.long z), .second, .val (.int k3), .val (.int v6), .val (.int v12), .val (.int v19), .val (.long m40), .second, .val (.int v47), .val (.long m72_l11), .second, .val (.ref b6), .val (.long r87), .second, .val (.int m109), .val (.int v116), .val (.int m130), .val (.int m149), .unset, .unset, .unset] [(.long m40), (.long ((m72_l11.toUInt64 >>> (v47 &&& 0x3f).toInt64.toUInt64).toInt64))])) _
    refine XS.land X20.here hx rfl (hb hby at_158) rfl ?_
    show Steps p.tables e below (T20.setTop (mkF m 159 #[.val (.int k1), .val (.int k2), .val (.long z), .second, .val (.int k3), .val (.int v6), .val (.int v12), .val (.int v19), .val (.long m40), .second, .val (.int v47), .val (.long m72_l11), .second, .val (.ref b6), .val (.long r87), .second, .val (.int m109), .val (.int v116), .val (.int m130), .val (.int m149), .unset, .unset, .unset] [(.long (((m72_l11.toUInt64 >>> (v47 &&& 0x3f).toInt64.toUInt64).toInt64) &&& m40))])) _
    refine XS.lstore X20.here hx rfl (hb hby at_159) rfl (l' := #[.val (.int k1), .val (.int k2), .val (.long z), .second, .val (.int k3), .val (.int v6), .val (.int v12), .val (.int v19), .val (.long m40), .second, .val (.int v47), .val (.long m72_l11), .second, .val (.ref b6), .val (.long r87), .second, .val (.int m109), .val (.int v116), .val (.int m130), .val (.int m149), .val (.long v159), .second, .unset]) (by rw [hv159]; rfl) ?_
    show Steps p.tables e below (T20.setTop (mkF m 161 #[.val (.int k1), .val (.int k2), .val (.long z), .second, .val (.int k3), .val (.int v6), .val (.int v12), .val (.int v19), .val (.long m40), .second, .val (.int v47), .val (.long m72_l11), .second, .val (.ref b6), .val (.long r87), .second, .val (.int m109), .val (.int v116), .val (.int m130), .val (.int m149), .val (.long v159), .second, .unset] [])) _
    refine XS.iload X20.here hx rfl (hb hby at_161) rfl ?_
    by_cases d29 : m130 = (0 : Int32)
    · skip
      show Steps p.tables e below (T20.setTop (mkF m 163 #[.val (.int k1), .val (.int k2), .val (.long z), .second, .val (.int k3), .val (.int v6), .val (.int v12), .val (.int v19), .val (.long m40), .second, .val (.int v47), .val (.long m72_l11), .second, .val (.ref b6), .val (.long r87), .second, .val (.int m109), .val (.int v116), .val (.int m130), .val (.int m149), .val (.long v159), .second, .unset] [(.int m130)])) _
      refine XS.ifYes X20.here hx rfl (pc0 := 163) (pc' := 182) rfl (hb hby at_163) rfl ((if0 _ _).trans (teq d29).1) (by decide) (by decide) ?_
      show Steps p.tables e below (T20.setTop (mkF m 182 #[.val (.int k1), .val (.int k2), .val (.long z), .second, .val (.int k3), .val (.int v6), .val (.int v12), .val (.int v19), .val (.long m40), .second, .val (.int v47), .val (.long m72_l11), .second, .val (.ref b6), .val (.long r87), .second, .val (.int m109), .val (.int v116), .val (.int m130), .val (.int m149), .val (.long v159), .second, .unset] [])) _
      refine XS.iconst X20.here hx rfl (hb hby at_182) ?_
      show Steps p.tables e below (T20.setTop (mkF m 183 #[.val (.int k1), .val (.int k2), .val (.long z), .second, .val (.int k3), .val (.int v6), .val (.int v12), .val (.int v19), .val (.long m40), .second, .val (.int v47), .val (.long m72_l11), .second, .val (.ref b6), .val (.long r87), .second, .val (.int m109), .val (.int v116), .val (.int m130), .val (.int m149), .val (.long v159), .second, .unset] [(.int (0 : Int32))])) _
      exact castTop (by simp only [hm183, if_pos d29]) kt
    · skip
      show Steps p.tables e below (T20.setTop (mkF m 163 #[.val (.int k1), .val (.int k2), .val (.long z), .second, .val (.int k3), .val (.int v6), .val (.int v12), .val (.int v19), .val (.long m40), .second, .val (.int v47), .val (.long m72_l11), .second, .val (.ref b6), .val (.long r87), .second, .val (.int m109), .val (.int v116), .val (.int m130), .val (.int m149), .val (.long v159), .second, .unset] [(.int m130)])) _
      refine XS.ifNo X20.here hx rfl (hb hby at_163) rfl ((if0 _ _).trans (feq d29).1) ?_
      show Steps p.tables e below (T20.setTop (mkF m 166 #[.val (.int k1), .val (.int k2), .val (.long z), .second, .val (.int k3), .val (.int v6), .val (.int v12), .val (.int v19), .val (.long m40), .second, .val (.int v47), .val (.long m72_l11), .second, .val (.ref b6), .val (.long r87), .second, .val (.int m109), .val (.int v116), .val (.int m130), .val (.int m149), .val (.long v159), .second, .unset] [])) _
      refine XS.iload X20.here hx rfl (hb hby at_166) rfl ?_
      by_cases d30 : m149 = (0 : Int32)
      · skip
        show Steps p.tables e below (T20.setTop (mkF m 168 #[.val (.int k1), .val (.int k2), .val (.long z), .second, .val (.int k3), .val (.int v6), .val (.int v12), .val (.int v19), .val (.long m40), .second, .val (.int v47), .val (.long m72_l11), .second, .val (.ref b6), .val (.long r87), .second, .val (.int m109), .val (.int v116), .val (.int m130), .val (.int m149), .val (.long v159), .second, .unset] [(.int m149)])) _
        refine XS.ifYes X20.here hx rfl (pc0 := 168) (pc' := 182) rfl (hb hby at_168) rfl ((if0 _ _).trans (teq d30).1) (by decide) (by decide) ?_
        show Steps p.tables e below (T20.setTop (mkF m 182 #[.val (.int k1), .val (.int k2), .val (.long z), .second, .val (.int k3), .val (.int v6), .val (.int v12), .val (.int v19), .val (.long m40), .second, .val (.int v47), .val (.long m72_l11), .second, .val (.ref b6), .val (.long r87), .second, .val (.int m109), .val (.int v116), .val (.int m130), .val (.int m149), .val (.long v159), .second, .unset] [])) _
        refine XS.iconst X20.here hx rfl (hb hby at_182) ?_
        show Steps p.tables e below (T20.setTop (mkF m 183 #[.val (.int k1), .val (.int k2), .val (.long z), .second, .val (.int k3), .val (.int v6), .val (.int v12), .val (.int v19), .val (.long m40), .second, .val (.int v47), .val (.long m72_l11), .second, .val (.ref b6), .val (.long r87), .second, .val (.int m109), .val (.int v116), .val (.int m130), .val (.int m149), .val (.long v159), .second, .unset] [(.int (0 : Int32))])) _
        exact castTop (by simp only [hm183, if_neg d29, if_pos d30]) kt
      · skip
        show Steps p.tables e below (T20.setTop (mkF m 168 #[.val (.int k1), .val (.int k2), .val (.long z), .second, .val (.int k3), .val (.int v6), .val (.int v12), .val (.int v19), .val (.long m40), .second, .val (.int v47), .val (.long m72_l11), .second, .val (.ref b6), .val (.long r87), .second, .val (.int m109), .val (.int v116), .val (.int m130), .val (.int m149), .val (.long v159), .second, .unset] [(.int m149)])) _
        refine XS.ifNo X20.here hx rfl (hb hby at_168) rfl ((if0 _ _).trans (feq d30).1) ?_
        show Steps p.tables e below (T20.setTop (mkF m 171 #[.val (.int k1), .val (.int k2), .val (.long z), .second, .val (.int k3), .val (.int v6), .val (.int v12), .val (.int v19), .val (.long m40), .second, .val (.int v47), .val (.long m72_l11), .second, .val (.ref b6), .val (.long r87), .second, .val (.int m109), .val (.int v116), .val (.int m130), .val (.int m149), .val (.long v159), .second, .unset] [])) _
        refine XS.lload X20.here hx rfl (hb hby at_171) rfl ?_
        show Steps p.tables e below (T20.setTop (mkF m 173 #[.val (.int k1), .val (.int k2), .val (.long z), .second, .val (.int k3), .val (.int v6), .val (.int v12), .val (.int v19), .val (.long m40), .second, .val (.int v47), .val (.long m72_l11), .second, .val (.ref b6), .val (.long r87), .second, .val (.int m109), .val (.int v116), .val (.int m130), .val (.int m149), .val (.long v159), .second, .unset] [(.long v159)])) _
        refine XS.lconst X20.here hx rfl (hb hby at_173) ?_
        show Steps p.tables e below (T20.setTop (mkF m 174 #[.val (.int k1), .val (.int k2), .val (.long z), .second, .val (.int k3), .val (.int v6), .val (.int v12), .val (.int v19), .val (.long m40), .second, .val (.int v47), .val (.long m72_l11), .second, .val (.ref b6), .val (.long r87), .second, .val (.int m109), .val (.int v116), .val (.int m130), .val (.int m149), .val (.long v159), .second, .unset] [(.long (0 : Int64)), (.long v159)])) _
        refine XS.lcmp X20.here hx rfl (hb hby at_174) rfl ?_
        by_cases d31 : v159 = (0 : Int64)
        · skip
          show Steps p.tables e below (T20.setTop (mkF m 175 #[.val (.int k1), .val (.int k2), .val (.long z), .second, .val (.int k3), .val (.int v6), .val (.int v12), .val (.int v19), .val (.long m40), .second, .val (.int v47), .val (.long m72_l11), .second, .val (.ref b6), .val (.long r87), .second, .val (.int m109), .val (.int v116), .val (.int m130), .val (.int m149), .val (.long v159), .second, .unset] [(.int (lcmpW v159 (0 : Int64)))])) _
          refine XS.ifNo X20.here hx rfl (hb hby at_175) rfl ((if0 _ _).trans (teq ((lw_eq v159 (0 : Int64)).2 d31)).2) ?_
          show Steps p.tables e below (T20.setTop (mkF m 178 #[.val (.int k1), .val (.int k2), .val (.long z), .second, .val (.int k3), .val (.int v6), .val (.int v12), .val (.int v19), .val (.long m40), .second, .val (.int v47), .val (.long m72_l11), .second, .val (.ref b6), .val (.long r87), .second, .val (.int m109), .val (.int v116), .val (.int m130), .val (.int m149), .val (.long v159), .second, .unset] [])) _
          refine XS.iconst X20.here hx rfl (hb hby at_178) ?_
          show Steps p.tables e below (T20.setTop (mkF m 179 #[.val (.int k1), .val (.int k2), .val (.long z), .second, .val (.int k3), .val (.int v6), .val (.int v12), .val (.int v19), .val (.long m40), .second, .val (.int v47), .val (.long m72_l11), .second, .val (.ref b6), .val (.long r87), .second, .val (.int m109), .val (.int v116), .val (.int m130), .val (.int m149), .val (.long v159), .second, .unset] [(.int (1 : Int32))])) _
          refine XS.goto X20.here hx rfl (pc0 := 179) (pc' := 183) rfl (hb hby at_179) (by decide) (by decide) ?_
          show Steps p.tables e below (T20.setTop (mkF m 183 #[.val (.int k1), .val (.int k2), .val (.long z), .second, .val (.int k3), .val (.int v6), .val (.int v12), .val (.int v19), .val (.long m40), .second, .val (.int v47), .val (.long m72_l11), .second, .val (.ref b6), .val (.long r87), .second, .val (.int m109), .val (.int v116), .val (.int m130), .val (.int m149), .val (.long v159), .second, .unset] [(.int (1 : Int32))])) _
          exact castTop (by simp only [hm183, if_neg d29, if_neg d30, if_pos d31]) kt
        · skip
          show Steps p.tables e below (T20.setTop (mkF m 175 #[.val (.int k1), .val (.int k2), .val (.long z), .second, .val (.int k3), .val (.int v6), .val (.int v12), .val (.int v19), .val (.long m40), .second, .val (.int v47), .val (.long m72_l11), .second, .val (.ref b6), .val (.long r87), .second, .val (.int m109), .val (.int v116), .val (.int m130), .val (.int m149), .val (.long v159), .second, .unset] [(.int (lcmpW v159 (0 : Int64)))])) _
          refine XS.ifYes X20.here hx rfl (pc0 := 175) (pc' := 182) rfl (hb hby at_175) rfl ((if0 _ _).trans (feq (mt (lw_eq v159 (0 : Int64)).1 d31)).2) (by decide) (by decide) ?_
          show Steps p.tables e below (T20.setTop (mkF m 182 #[.val (.int k1), .val (.int k2), .val (.long z), .second, .val (.int k3), .val (.int v6), .val (.int v12), .val (.int v19), .val (.long m40), .second, .val (.int v47), .val (.long m72_l11), .second, .val (.ref b6), .val (.long r87), .second, .val (.int m109), .val (.int v116), .val (.int m130), .val (.int m149), .val (.long v159), .second, .unset] [])) _
          refine XS.iconst X20.here hx rfl (hb hby at_182) ?_
          show Steps p.tables e below (T20.setTop (mkF m 183 #[.val (.int k1), .val (.int k2), .val (.long z), .second, .val (.int k3), .val (.int v6), .val (.int v12), .val (.int v19), .val (.long m40), .second, .val (.int v47), .val (.long m72_l11), .second, .val (.ref b6), .val (.long r87), .second, .val (.int m109), .val (.int v116), .val (.int m130), .val (.int m149), .val (.long v159), .second, .unset] [(.int (0 : Int32))])) _
          exact castTop (by simp only [hm183, if_neg d29, if_neg d30, if_neg d31]) kt
  obtain ⟨m197, hm197⟩ : ∃ z_q : Int32, z_q = (if m109 = m183 then (1 : Int32) else (0 : Int32)) := ⟨_, rfl⟩
  have pre34 : ∀ tq, Steps p.tables e below (T20.setTop (mkF m 197 #[.val (.int k1), .val (.int k2), .val (.long z), .second, .val (.int k3), .val (.int v6), .val (.int v12), .val (.int v19), .val (.long m40), .second, .val (.int v47), .val (.long m72_l11), .second, .val (.ref b6), .val (.long r87), .second, .val (.int m109), .val (.int v116), .val (.int m130), .val (.int m149), .val (.long v159), .second, .val (.int m183)] [(.int m197)])) tq → Steps p.tables e below (s₁.setTop (entryFrame m #[(.int k1), (.int k2), (.long z), (.int k3)] maxLocals)) tq := by
    intro tq kt
    refine pre32 _ ?_
    show Steps p.tables e below (T20.setTop (mkF m 183 #[.val (.int k1), .val (.int k2), .val (.long z), .second, .val (.int k3), .val (.int v6), .val (.int v12), .val (.int v19), .val (.long m40), .second, .val (.int v47), .val (.long m72_l11), .second, .val (.ref b6), .val (.long r87), .second, .val (.int m109), .val (.int v116), .val (.int m130), .val (.int m149), .val (.long v159), .second, .unset] [(.int m183)])) _
    refine XS.istore X20.here hx rfl (hb hby at_183) rfl (l' := #[.val (.int k1), .val (.int k2), .val (.long z), .second, .val (.int k3), .val (.int v6), .val (.int v12), .val (.int v19), .val (.long m40), .second, .val (.int v47), .val (.long m72_l11), .second, .val (.ref b6), .val (.long r87), .second, .val (.int m109), .val (.int v116), .val (.int m130), .val (.int m149), .val (.long v159), .second, .val (.int m183)]) rfl ?_
    show Steps p.tables e below (T20.setTop (mkF m 185 #[.val (.int k1), .val (.int k2), .val (.long z), .second, .val (.int k3), .val (.int v6), .val (.int v12), .val (.int v19), .val (.long m40), .second, .val (.int v47), .val (.long m72_l11), .second, .val (.ref b6), .val (.long r87), .second, .val (.int m109), .val (.int v116), .val (.int m130), .val (.int m149), .val (.long v159), .second, .val (.int m183)] [])) _
    refine XS.iload X20.here hx rfl (hb hby at_185) rfl ?_
    show Steps p.tables e below (T20.setTop (mkF m 187 #[.val (.int k1), .val (.int k2), .val (.long z), .second, .val (.int k3), .val (.int v6), .val (.int v12), .val (.int v19), .val (.long m40), .second, .val (.int v47), .val (.long m72_l11), .second, .val (.ref b6), .val (.long r87), .second, .val (.int m109), .val (.int v116), .val (.int m130), .val (.int m149), .val (.long v159), .second, .val (.int m183)] [(.int m109)])) _
    refine XS.iload X20.here hx rfl (hb hby at_187) rfl ?_
    by_cases d33 : m109 = m183
    · skip
      show Steps p.tables e below (T20.setTop (mkF m 189 #[.val (.int k1), .val (.int k2), .val (.long z), .second, .val (.int k3), .val (.int v6), .val (.int v12), .val (.int v19), .val (.long m40), .second, .val (.int v47), .val (.long m72_l11), .second, .val (.ref b6), .val (.long r87), .second, .val (.int m109), .val (.int v116), .val (.int m130), .val (.int m149), .val (.long v159), .second, .val (.int m183)] [(.int m183), (.int m109)])) _
      refine XS.icmpNo X20.here hx rfl (hb hby at_189) rfl (teq d33).2 ?_
      show Steps p.tables e below (T20.setTop (mkF m 192 #[.val (.int k1), .val (.int k2), .val (.long z), .second, .val (.int k3), .val (.int v6), .val (.int v12), .val (.int v19), .val (.long m40), .second, .val (.int v47), .val (.long m72_l11), .second, .val (.ref b6), .val (.long r87), .second, .val (.int m109), .val (.int v116), .val (.int m130), .val (.int m149), .val (.long v159), .second, .val (.int m183)] [])) _
      refine XS.iconst X20.here hx rfl (hb hby at_192) ?_
      show Steps p.tables e below (T20.setTop (mkF m 193 #[.val (.int k1), .val (.int k2), .val (.long z), .second, .val (.int k3), .val (.int v6), .val (.int v12), .val (.int v19), .val (.long m40), .second, .val (.int v47), .val (.long m72_l11), .second, .val (.ref b6), .val (.long r87), .second, .val (.int m109), .val (.int v116), .val (.int m130), .val (.int m149), .val (.long v159), .second, .val (.int m183)] [(.int (1 : Int32))])) _
      refine XS.goto X20.here hx rfl (pc0 := 193) (pc' := 197) rfl (hb hby at_193) (by decide) (by decide) ?_
      show Steps p.tables e below (T20.setTop (mkF m 197 #[.val (.int k1), .val (.int k2), .val (.long z), .second, .val (.int k3), .val (.int v6), .val (.int v12), .val (.int v19), .val (.long m40), .second, .val (.int v47), .val (.long m72_l11), .second, .val (.ref b6), .val (.long r87), .second, .val (.int m109), .val (.int v116), .val (.int m130), .val (.int m149), .val (.long v159), .second, .val (.int m183)] [(.int (1 : Int32))])) _
      exact castTop (by simp only [hm197, if_pos d33]) kt
    · skip
      show Steps p.tables e below (T20.setTop (mkF m 189 #[.val (.int k1), .val (.int k2), .val (.long z), .second, .val (.int k3), .val (.int v6), .val (.int v12), .val (.int v19), .val (.long m40), .second, .val (.int v47), .val (.long m72_l11), .second, .val (.ref b6), .val (.long r87), .second, .val (.int m109), .val (.int v116), .val (.int m130), .val (.int m149), .val (.long v159), .second, .val (.int m183)] [(.int m183), (.int m109)])) _
      refine XS.icmpYes X20.here hx rfl (pc0 := 189) (pc' := 196) rfl (hb hby at_189) rfl (feq d33).2 (by decide) (by decide) ?_
      show Steps p.tables e below (T20.setTop (mkF m 196 #[.val (.int k1), .val (.int k2), .val (.long z), .second, .val (.int k3), .val (.int v6), .val (.int v12), .val (.int v19), .val (.long m40), .second, .val (.int v47), .val (.long m72_l11), .second, .val (.ref b6), .val (.long r87), .second, .val (.int m109), .val (.int v116), .val (.int m130), .val (.int m149), .val (.long v159), .second, .val (.int m183)] [])) _
      refine XS.iconst X20.here hx rfl (hb hby at_196) ?_
      show Steps p.tables e below (T20.setTop (mkF m 197 #[.val (.int k1), .val (.int k2), .val (.long z), .second, .val (.int k3), .val (.int v6), .val (.int v12), .val (.int v19), .val (.long m40), .second, .val (.int v47), .val (.long m72_l11), .second, .val (.ref b6), .val (.long r87), .second, .val (.int m109), .val (.int v116), .val (.int m130), .val (.int m149), .val (.long v159), .second, .val (.int m183)] [(.int (0 : Int32))])) _
      exact castTop (by simp only [hm197, if_neg d33]) kt
  obtain ⟨fs, hr, hrun, hended, hW, hsame⟩ := X20.leave (v := some (Value.int (nar .boolean m197))) (fun h => by rw [Bd.returns] at h; cases h)
  have hres35 : (nar .boolean m197) = (1 : Int32) := (own_leaf_0_197 k1 k2 z k3 v6 hv6 v12 hv12 v19 hv19 m40 hm40 v47 hv47 m72_l11 hm72_l11 hp13_hok r87 hr87 m109 hm109 v116 hv116 m130 hm130 m149 hm149 v159 hv159 m183 hm183 m197 hm197)
  refine ⟨_, _, pre34 _ ?_, hrun, hended, _, _, rfl, ?_, ⟨_, rfl⟩, hW, hsame.mono (by decide) (by decide)⟩
  · skip
    show Steps p.tables e below (T20.setTop (mkF m 197 #[.val (.int k1), .val (.int k2), .val (.long z), .second, .val (.int k3), .val (.int v6), .val (.int v12), .val (.int v19), .val (.long m40), .second, .val (.int v47), .val (.long m72_l11), .second, .val (.ref b6), .val (.long r87), .second, .val (.int m109), .val (.int v116), .val (.int m130), .val (.int m149), .val (.long v159), .second, .val (.int m183)] [(.int m197)])) _
    exact retN X20 hx (t := .boolean) Bd.returns (by simp) (hb hby at_197) hr
  · show Q0 Z k1 k2 z k3 h0 n0 _ T20.heap _
    rw [e20]
    exact ⟨congrArg (fun z => some (Value.int z)) hres35, N20⟩
set_option maxRecDepth 65536 in
set_option maxHeartbeats 40000000 in
theorem comes_1 {Post : Tables → Env → Array Value → State → Outcome → State → Prop} (hpost : ∀ tb e args s v u, (limb_1_1.after args s (.returned v) u = true ∧ limb_1_2.after args s (.returned v) u = true ∧ True) → FrameEnd s (.returned v) u (Jvm.fieldLocs frame_1_writes args s ++ Jvm.arrayLocs frame_1_arrays args s ++ Jvm.staticLocs frame_1_statics s) 16 128 → Post tb e args s (.returned v) u) :
    ArmFor flags0 classFile x code maxLocals ret World_1 tables_1 room_1 Calls_1 rest_1 Pre_1 Post := by
  intro l hfl _ _ p e ha hc hk s m args below hf hA hF happ hP
  obtain ⟨hcalls, hrest, hpre⟩ := hP
  obtain ⟨-, -, -, hnamed, -, -, -, hat⟩ := (Spec.applies_iff hf).mp happ
  obtain ⟨hg, hn⟩ := and_e (Cond.before_iff.mp (show (Jvm.Cond.and given_1 narrow_1).before args s = true from hpre))
  obtain ⟨gv1, gv2⟩ := and_e hg
  obtain ⟨gv3, gv4⟩ := and_e gv2
  obtain ⟨gv5, gv6⟩ := and_e gv4
  obtain ⟨gv7, gv8⟩ := and_e gv6
  obtain ⟨w0, w1, w2, w3, rfl⟩ : ∃ w0 w1 w2 w3 : Value, args = #[w0, w1, w2, w3] := by
    have hs : args.size = 4 := by simpa [Cond.value, given_1] using gv1
    obtain ⟨L⟩ := args
    match L, hs with
    | [w0, w1, w2, w3], _ => exact ⟨w0, w1, w2, w3, rfl⟩
  have hw := fun d (hd : d ∈ tables_1) => atoms_spec (ws := Jvm.Cond.code x code maxLocals ret :: tables_1) hat d (List.mem_cons_of_mem _ hd)
  obtain ⟨i0, ei0⟩ := is_v gv3
  obtain rfl : w0 = (.int i0) := Option.some.inj ei0
  obtain ⟨i1, ei1⟩ := is_v gv5
  obtain rfl : w1 = (.int i1) := Option.some.inj ei1
  obtain ⟨i2, ei2⟩ := isL_v gv7
  obtain rfl : w2 = (.long i2) := Option.some.inj ei2
  obtain ⟨i3, ei3⟩ := is_v gv8
  obtain rfl : w3 = (.int i3) := Option.some.inj ei3
  obtain ⟨n, o, h1, h2, h3, _, L, rfl, ⟨rfl, N⟩, hq⟩ := rm0 l s _ hw tables_1 i0 i1 i2 i3  s.heap s.heap.size (Nat.le_refl _)  p e ha hc hk s m _ below hf ((Spec.applies_iff_loose hf).mp happ).1 ⟨rfl, State.Warmed39.refl s, rfl⟩ trivial
  refine ⟨n, _, h1, h2, h3, hpost _ _ _ _ _ _ ⟨Cond.after_iff.mpr rfl, Cond.after_iff.mpr (eq_i res_at (Term.int_eval (1)) rfl), trivial⟩ ⟨hq.1, hq.2.1, (hq.2.2.sift fun y hy => Or.inr (N y hy)).mono (by decide) (by decide)⟩⟩
theorem main_1_1 : Claimed_1_1 := comes_1 fun _ _ _ _ _ _ h hF => ⟨h.1, hF⟩
theorem main_1_2 : Claimed_1_2 := comes_1 fun _ _ _ _ _ _ h hF => ⟨h.2.1, hF⟩
end Jvm.Pilot.@@N@@
namespace Jvm.Pilot.@@N@@
open Jvm Jvm.ClassFile Sem Op Lib Jvm.Free Jvm.Stand Jvm.Pilot.@@N@@.Jvm.D
/-! MADE BY PROGRAM (witnessworld.py) out of the Statement's table words and the real class files: 9 classes; the members and pool entries that the words name. The judged class is class 1, her method 1. -/
namespace start1
open Jvm.ClassFile
def u (s : String) : CpInfo := .utf8 (stringToUtf16 s)
/-- a pool by its gaps: so many unusable entries, then the entry; so many at the end -/
def gap : Nat → List CpInfo → List CpInfo
  | 0, r => r
  | n + 1, r => .unusable :: gap n r
def poolList (es : List (Nat × CpInfo)) (last : Nat) : List CpInfo := es.foldr (fun e r => gap e.1 (e.2 :: r)) (gap last [])
def pool (es : List (Nat × CpInfo)) (last : Nat) : Array CpInfo := ⟨poolList es last⟩
def fileOf (pool : Array CpInfo) (this : Nat) (attrs : Array Attribute := #[]) (ms : Array MethodInfo := #[]) (fl : Nat := 33) (sup : Nat := 0) (ifs : Array Nat := #[]) (fds : Array FieldInfo := #[]) : ClassFile where
  minorVersion := 0
  majorVersion := 65
  constantPool := pool
  accessFlags := fl
  thisClass := this
  superClass := sup
  interfaces := ifs
  fields := fds
  methods := ms
  attributes := attrs
def plain (name : String) (sup : Option ClassId) : Class where
  name := name
  kind := .ordinary
  loader := none
  accessFlags := 33
  super := sup
  interfaces := #[]
  cf := none
  fields := #[]
  methods := #[]
  instanceTypes := #[]
  staticTypes := #[]
  resolved := #[]
  callSites := []
  init := .initialized
  statics := none
  mirror := none

def pool0 : Array CpInfo := pool [(5, u "<init>"), (0, u "()V"), (1, .class_ 10), (1, u "java/lang/Object")] 113

def k0c0 : Code := { maxStack := 0, maxLocals := 1, code := object_method_1_code, exceptionTable := #[], attributes := #[] }
def k0m0 : Method := { name := "<init>", desc := "()V", sig := { parameters := [], returnType := none }, accessFlags := 1, code := some k0c0 }
/-- java/lang/Object -/
def k0 : Class := { plain "java/lang/Object" none with
  accessFlags := 33
  interfaces := #[]
  cf := some (fileOf pool0 8 #[] #[{ accessFlags := 1, nameIndex := 5, descriptorIndex := 6, attributes := #[] }] 33 0 #[] #[])
  fields := #[]
  methods := #[k0m0]
  instanceTypes := #[]
  staticTypes := #[]
  resolved := Array.replicate 124 none
  statics := none }

def pool1 : Array CpInfo := pool [(2, .class_ 4), (1, u "java/lang/Object"), (0, u "<init>"), (0, u "()V"), (0, .long 18446744073709551615), (1, .class_ 10), (0, u "com/example/yuelu/yuelu/FieldLanes"), (0, .methodref 9 12), (0, .nameAndType 5 13), (0, u "(I)V"), (0, .methodref 9 15), (0, .nameAndType 16 17), (0, u "zero"), (0, u "(J)J"), (0, .class_ 19), (0, u "com/example/yuelu/yuelu/FieldLanesZeroPinLaw"), (2, u "law"), (0, u "(IIJI)Z")] 3

def k1m0 : Method := { name := "<init>", desc := "()V", sig := { parameters := [], returnType := none }, accessFlags := 1, code := none }
def k1c1 : Code := { maxStack := 6, maxLocals := 23, code := code, exceptionTable := #[], attributes := #[] }
def k1m1 : Method := { name := "law", desc := "(IIJI)Z", sig := { parameters := [.int, .int, .long, .int], returnType := some .boolean }, accessFlags := 9, code := some k1c1 }
/-- com/example/yuelu/yuelu/FieldLanesZeroPinLaw -/
def k1 : Class := { plain "com/example/yuelu/yuelu/FieldLanesZeroPinLaw" (some 0) with
  accessFlags := 49
  interfaces := #[]
  cf := some (fileOf pool1 18 #[] #[{ accessFlags := 1, nameIndex := 5, descriptorIndex := 6, attributes := #[] }, { accessFlags := 9, nameIndex := 22, descriptorIndex := 23, attributes := #[] }] 49 2 #[] #[])
  fields := #[]
  methods := #[k1m0, k1m1]
  instanceTypes := #[]
  staticTypes := #[]
  resolved := Array.replicate 27 none
  statics := none }

def pool2 : Array CpInfo := pool [(1, .methodref 2 3), (0, .class_ 4), (0, .nameAndType 5 6), (0, u "java/lang/Object"), (0, u "<init>"), (0, u "()V"), (0, .fieldref 8 9), (0, .class_ 10), (0, .nameAndType 11 12), (0, u "com/example/yuelu/yuelu/FieldLanes"), (0, u "width"), (0, u "I"), (2, .fieldref 8 16), (0, .nameAndType 17 12), (0, u "count"), (0, .fieldref 8 19), (0, .nameAndType 20 21), (0, u "lowestBits"), (0, u "J"), (0, .fieldref 8 23), (0, .nameAndType 24 21), (0, u "highestBits"), (0, .methodref 8 26), (0, .nameAndType 27 28), (0, u "nonZero"), (0, u "(J)J"), (0, .long 18446744073709551615), (5, u "(I)V"), (5, u "zero")] 3

def k2c0 : Code := { maxStack := 6, maxLocals := 5, code := prog_7_method_1_code, exceptionTable := #[], attributes := #[] }
def k2m0 : Method := { name := "<init>", desc := "(I)V", sig := { parameters := [.int], returnType := none }, accessFlags := 0, code := some k2c0 }
def k2c1 : Code := { maxStack := 4, maxLocals := 5, code := prog_7_method_4_code, exceptionTable := #[], attributes := #[] }
def k2m1 : Method := { name := "nonZero", desc := "(J)J", sig := { parameters := [.long], returnType := some .long }, accessFlags := 0, code := some k2c1 }
def k2c2 : Code := { maxStack := 6, maxLocals := 3, code := prog_7_method_5_code, exceptionTable := #[], attributes := #[] }
def k2m2 : Method := { name := "zero", desc := "(J)J", sig := { parameters := [.long], returnType := some .long }, accessFlags := 0, code := some k2c2 }
/-- com/example/yuelu/yuelu/FieldLanes -/
def k2 : Class := { plain "com/example/yuelu/yuelu/FieldLanes" (some 0) with
  accessFlags := 48
  interfaces := #[]
  cf := some (fileOf pool2 8 #[] #[{ accessFlags := 0, nameIndex := 5, descriptorIndex := 35, attributes := #[] }, { accessFlags := 0, nameIndex := 27, descriptorIndex := 28, attributes := #[] }, { accessFlags := 0, nameIndex := 41, descriptorIndex := 28, attributes := #[] }] 48 2 #[] #[{ accessFlags := 18, nameIndex := 11, descriptorIndex := 12, attributes := #[] }, { accessFlags := 18, nameIndex := 17, descriptorIndex := 12, attributes := #[] }, { accessFlags := 18, nameIndex := 20, descriptorIndex := 21, attributes := #[] }, { accessFlags := 18, nameIndex := 24, descriptorIndex := 21, attributes := #[] }])
  fields := #[{ name := "width", type := .int, accessFlags := 18, slot := 0, constantValue := 0 }, { name := "count", type := .int, accessFlags := 18, slot := 1, constantValue := 0 }, { name := "lowestBits", type := .long, accessFlags := 18, slot := 2, constantValue := 0 }, { name := "highestBits", type := .long, accessFlags := 18, slot := 3, constantValue := 0 }]
  methods := #[k2m0, k2m1, k2m2]
  instanceTypes := #[.int, .int, .long, .long]
  staticTypes := #[]
  resolved := Array.replicate 45 none
  statics := none }

def pool3 : Array CpInfo := pool [(1, u "java/lang/Cloneable"), (0, .class_ 1), (0, u "java/lang/Object"), (0, .class_ 3)] 3

/-- java/lang/Cloneable -/
def k3 : Class := { plain "java/lang/Cloneable" (some 0) with
  accessFlags := 1537
  interfaces := #[]
  cf := some (fileOf pool3 2 #[] #[] 1537 4 #[] #[])
  fields := #[]
  methods := #[]
  instanceTypes := #[]
  staticTypes := #[]
  resolved := Array.replicate 8 none
  statics := none }

def pool4 : Array CpInfo := pool [(1, u "java/io/Serializable"), (0, .class_ 1), (0, u "java/lang/Object"), (0, .class_ 3)] 3

/-- java/io/Serializable -/
def k4 : Class := { plain "java/io/Serializable" (some 0) with
  accessFlags := 1537
  interfaces := #[]
  cf := some (fileOf pool4 2 #[] #[] 1537 4 #[] #[])
  fields := #[]
  methods := #[]
  instanceTypes := #[]
  staticTypes := #[]
  resolved := Array.replicate 8 none
  statics := none }

/-- the primitive byte -/
def k5 : Class := { plain "byte" none with kind := .primitive 'B', accessFlags := 0x411 }
/-- [B -/
def k6 : Class := { plain "[B" (some 0) with kind := .array 5 .byte, interfaces := #[3, 4], accessFlags := 1041 }

/-- the primitive int -/
def k7 : Class := { plain "int" none with kind := .primitive 'I', accessFlags := 0x411 }
/-- [I -/
def k8 : Class := { plain "[I" (some 0) with kind := .array 7 .int, interfaces := #[3, 4], accessFlags := 1041 }

def heap : Heap := #[]
def classes : Array Class := #[k0, k1, k2, k3, k4, k5, k6, k7, k8]
def interned : List (Array UInt16 × Addr) := []
def slotsUsed : Nat := 0
def theMethod : MethodId := ⟨1, 1⟩
def args0 : Array Value := #[.int 5, .int 6, .long 7, .int 1]
def aboutOver (below : List Frame) : State where
  vm := { classes := classes, interned := interned.toArray }
  heap := heap
  slotsUsed := slotsUsed
  threads := #[{ frames := .invoking theMethod args0 :: below }]
def below0 : List Frame := [.native { method := ⟨0, 0⟩, args := #[] }]
def about1 : State := aboutOver below0
def p0 : Program := .bare "" "" ""
def e0 : Env := launch0.env 0 0 0
theorem w_frames : about1.frames = Frame.invoking theMethod args0 :: below0 := rfl
set_option maxRecDepth 65536 in
theorem w_args : argsFit about1.vm theMethod args0 = true := by decide +kernel
set_option maxRecDepth 65536 in
theorem w_heap : heapFits about1 = true := by decide +kernel
set_option maxRecDepth 65536 in
theorem w_runnable : about1.curStatus? = some .runnable := by decide +kernel
set_option maxRecDepth 65536 in
theorem w_alone : about1.alone = true := by decide +kernel
set_option maxRecDepth 65536 in
theorem w_named : about1.methodNamed? x = some theMethod := by decide +kernel
set_option maxRecDepth 65536 in
theorem w_hears : about1.hears theMethod below0 = true := by decide +kernel
set_option maxRecDepth 65536 in
theorem w_ripe : about1.ripe theMethod args0 below0 = true := by decide +kernel
theorem w_running : about1.status = .running := rfl
set_option maxRecDepth 65536 in
theorem w_room : about1.hasRoom e0.platform room_1 = true :=
  launch0.hasRoom_least _ room_1 (by decide +kernel) (by decide +kernel) (by decide +kernel) (by decide +kernel) (by decide +kernel) (by decide +kernel)
theorem allAtoms_all (ts : List Jvm.Cond) (a : Array Jvm.Value) (st : Jvm.State) : (allAtoms ts).before a st = ts.all (fun c => c.before a st) := by
  induction ts with
  | nil => rfl
  | cons c t ih =>
    show (Jvm.Cond.and c (allAtoms t)).before a st = _
    rw [Jvm.Cond.before_and, ih, List.all_cons]
def words1 : List Jvm.Cond := Jvm.Cond.code x code maxLocals ret :: tables_1
/-- a 'code' word, met by the world's own term for the bytes: nothing is compared byte by byte -/
theorem code_word {y : MethodName} {bytes : ByteArray} {mx : Nat} {rt : Option FieldType} {a : Array Value} {s : State} {m : MethodId} {meth : Method} {c : Code} (h1 : s.methodNamed? y = some m) (h2 : s.vm.method? m = some meth) (h3 : meth.code = some c) (h4 : c.code = bytes)
    (h5 : (c.maxLocals == mx && c.exceptionTable.isEmpty && decide (c.maxStack ≤ mostOperands) && decide (meth.sig.returnType = rt) && !meth.locks && decide (parseMethodDescriptor y.desc = some meth.sig)) = true) : (Jvm.Cond.code y bytes mx rt).before a s = true := by
  simp only [Bool.and_eq_true, beq_iff_eq, Bool.not_eq_true', decide_eq_true_eq] at h5
  obtain ⟨⟨⟨⟨⟨g1, g2⟩, g3⟩, g4⟩, g5⟩, g6⟩ := h5
  simp [Cond.before, Cond.holds, Cond.value, h1, h2, h3, h4, g1, g2, g3, g4, g5, g6]
def isCode : Jvm.Cond → Bool
  | .code _ _ _ _ => true
  | _ => false
theorem all_split {L : List Jvm.Cond} {P : Jvm.Cond → Bool} (h1 : L.all (fun c => isCode c || P c) = true) (h2 : ∀ c ∈ L.filter isCode, P c = true) : L.all P = true := by
  refine List.all_eq_true.mpr fun c hc => ?_
  have h := List.all_eq_true.mp h1 c hc
  rcases Bool.eq_false_or_eq_true (isCode c) with hi | hi
  · exact h2 c (List.mem_filter.mpr ⟨hc, hi⟩)
  · simpa [hi] using h
set_option maxRecDepth 65536 in
theorem w_c0 : (Jvm.Cond.code x code maxLocals ret).before args0 about1 = true := code_word (m := ⟨1, 1⟩) (meth := k1m1) (c := k1c1) (by decide +kernel) rfl rfl rfl (by decide +kernel)
set_option maxRecDepth 65536 in
theorem w_c1 : (Jvm.Cond.code ({ cls := "com/example/yuelu/yuelu/FieldLanes", name := "<init>", desc := "(I)V" } : Jvm.MethodName) prog_7_method_1_code (5 : Nat) (Option.none : Option Jvm.ClassFile.FieldType)).before args0 about1 = true := code_word (m := ⟨2, 0⟩) (meth := k2m0) (c := k2c0) (by decide +kernel) rfl rfl rfl (by decide +kernel)
set_option maxRecDepth 65536 in
theorem w_c2 : (Jvm.Cond.code ({ cls := "java/lang/Object", name := "<init>", desc := "()V" } : Jvm.MethodName) object_method_1_code (1 : Nat) (Option.none : Option Jvm.ClassFile.FieldType)).before args0 about1 = true := code_word (m := ⟨0, 0⟩) (meth := k0m0) (c := k0c0) (by decide +kernel) rfl rfl rfl (by decide +kernel)
set_option maxRecDepth 65536 in
theorem w_c3 : (Jvm.Cond.code ({ cls := "com/example/yuelu/yuelu/FieldLanes", name := "zero", desc := "(J)J" } : Jvm.MethodName) prog_7_method_5_code (3 : Nat) (Option.some Jvm.ClassFile.FieldType.long)).before args0 about1 = true := code_word (m := ⟨2, 2⟩) (meth := k2m2) (c := k2c2) (by decide +kernel) rfl rfl rfl (by decide +kernel)
set_option maxRecDepth 65536 in
theorem w_c4 : (Jvm.Cond.code ({ cls := "com/example/yuelu/yuelu/FieldLanes", name := "nonZero", desc := "(J)J" } : Jvm.MethodName) prog_7_method_4_code (5 : Nat) (Option.some Jvm.ClassFile.FieldType.long)).before args0 about1 = true := code_word (m := ⟨2, 1⟩) (meth := k2m1) (c := k2c1) (by decide +kernel) rfl rfl rfl (by decide +kernel)
def codes1 : List Jvm.Cond := [Jvm.Cond.code x code maxLocals ret, Jvm.Cond.code ({ cls := "com/example/yuelu/yuelu/FieldLanes", name := "<init>", desc := "(I)V" } : Jvm.MethodName) prog_7_method_1_code (5 : Nat) (Option.none : Option Jvm.ClassFile.FieldType), Jvm.Cond.code ({ cls := "java/lang/Object", name := "<init>", desc := "()V" } : Jvm.MethodName) object_method_1_code (1 : Nat) (Option.none : Option Jvm.ClassFile.FieldType), Jvm.Cond.code ({ cls := "com/example/yuelu/yuelu/FieldLanes", name := "zero", desc := "(J)J" } : Jvm.MethodName) prog_7_method_5_code (3 : Nat) (Option.some Jvm.ClassFile.FieldType.long), Jvm.Cond.code ({ cls := "com/example/yuelu/yuelu/FieldLanes", name := "nonZero", desc := "(J)J" } : Jvm.MethodName) prog_7_method_4_code (5 : Nat) (Option.some Jvm.ClassFile.FieldType.long)]
set_option maxRecDepth 65536 in
theorem codes_eq : words1.filter isCode = codes1 := rfl
theorem w_codes : ∀ c ∈ words1.filter isCode, c.before args0 about1 = true := by
  rw [codes_eq]
  intro c hc
  simp only [codes1, List.mem_cons, List.not_mem_nil, or_false] at hc
  rcases hc with rfl | rfl | rfl | rfl | rfl
  · exact w_c0
  · exact w_c1
  · exact w_c2
  · exact w_c3
  · exact w_c4
set_option maxRecDepth 65536 in
theorem w_t1 : (words1.take 24).all (fun c => isCode c || c.before args0 about1) = true := by decide +kernel
set_option maxRecDepth 65536 in
theorem w_t2 : (words1.drop 24).all (fun c => isCode c || c.before args0 about1) = true := by decide +kernel
theorem w_tables : (allAtoms (Jvm.Cond.code x code maxLocals ret :: tables_1)).before args0 about1 = true := by
  rw [allAtoms_all]
  show words1.all (fun c => c.before args0 about1) = true
  refine all_split ?_ w_codes
  rw [← List.take_append_drop 24 words1, List.all_append, w_t1, w_t2]
  rfl
set_option maxRecDepth 65536 in
theorem w_case : (Jvm.Cond.and given_1 narrow_1).before args0 about1 = true := by decide +kernel
theorem w_applies : (headSpec (Jvm.Cond.code x code maxLocals ret :: tables_1) room_1).applies x e0.platform about1 = true :=
  (Spec.applies_iff w_frames).mpr ⟨w_running, w_runnable, w_alone, w_named, w_hears, w_ripe, w_room, w_tables⟩
theorem atStart : AtStart classFile x code maxLocals ret World_1 tables_1 room_1 Calls_1 rest_1 Pre_1 launch0 p0 e0 about1 theMethod args0 below0 :=
  ⟨lists_1, trivial, launch0.admits_env _ _ _, launch0.least_env, fairChoices_fair.cas, fairChoices_fair.clock, w_frames, w_args, w_heap, w_applies, trivial, trivial, w_case⟩
end start1
theorem witness_1 : WitnessClaimed_1 := ⟨start1.p0, start1.e0, start1.about1, start1.theMethod, start1.args0, start1.below0, start1.atStart⟩
end Jvm.Pilot.@@N@@
