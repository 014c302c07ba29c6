import JvmDerived
import JvmDerived.Pilot.@@N@@Statement
import JvmDerived.Pilot.@@N@@Code
set_option linter.unusedVariables false
set_option linter.unusedSimpArgs false
@@BLOCK:NumsL.lean.txt@@
namespace Jvm.Pilot.@@N@@
namespace OwnF
open Jvm.FP.Core
/-- the datum times 2^K -/
def sc (K : Nat) : Datum → Datum
  | .fin s c q => .fin s c (q + K)
  | d => d
/-- the datum's value is i / 2^K -/
def Fv (K : Nat) (i : Int) (d : Datum) : Prop := Whole i (sc K d)
theorem fv_fin {K : Nat} {i : Int} {d : Datum} (h : Fv K i d) : ∃ s c q, d = .fin s c q ∧ Whole i (.fin s c (q + K)) := by
  cases d with
  | nan => exact h.elim
  | inf => exact h.elim
  | fin s c q => exact ⟨s, c, q, rfl, h⟩
theorem sum_sc {K : Nat} (x y : Datum) (hx : ∃ s c q, x = .fin s c q) (hy : ∃ s c q, y = .fin s c q) : exactSum (sc K x) (sc K y) = sc K (exactSum x y) := by
  obtain ⟨s, c, q, rfl⟩ := hx
  obtain ⟨t, d, r, rfl⟩ := hy
  have e1 : min (q + (K : Int)) (r + K) = min q r + K := by omega
  have e2 : inUnits c (q + K) (min q r + K) = inUnits c q (min q r) := by unfold inUnits; rw [show q + (K : Int) - (min q r + K) = q - min q r by omega]
  have e3 : inUnits d (r + K) (min q r + K) = inUnits d r (min q r) := by unfold inUnits; rw [show r + (K : Int) - (min q r + K) = r - min q r by omega]
  have e4 : sumUnits s c (q + K) t d (r + K) (min (q + (K : Int)) (r + K)) = sumUnits s c q t d r (min q r) := by
    rw [e1]; unfold sumUnits; rw [e2, e3]
  show Datum.fin (sumSign s t (sumUnits s c (q + K) t d (r + K) (min (q + (K : Int)) (r + K)))) (sumUnits s c (q + K) t d (r + K) (min (q + (K : Int)) (r + K))).natAbs (min (q + (K : Int)) (r + K)) = Datum.fin _ _ _
  rw [e4, e1]
theorem fv_sum {K : Nat} {i j : Int} {x y : Datum} (hx : Fv K i x) (hy : Fv K j y) : Fv K (i + j) (exactSum x y) := by
  obtain ⟨s, c, q, ex, -⟩ := fv_fin hx
  obtain ⟨t, d, r, ey, -⟩ := fv_fin hy
  show Whole _ _
  rw [← sum_sc x y ⟨s, c, q, ex⟩ ⟨t, d, r, ey⟩]
  exact whole_sum hx hy
theorem fv_neg {K : Nat} {i : Int} {x : Datum} (hx : Fv K i x) : Fv K (-i) (negate x) := by
  obtain ⟨s, c, q, rfl, h⟩ := fv_fin hx
  exact whole_negate h
theorem fv_mul {K M : Nat} {i j : Int} {x y : Datum} (hx : Fv K i x) (hy : Fv M j y) : Fv (K + M) (i * j) (exactProduct x y) := by
  obtain ⟨s, c, q, rfl, h1⟩ := fv_fin hx
  obtain ⟨t, d, r, rfl, h2⟩ := fv_fin hy
  have h := whole_product h1 h2
  show Whole (i * j) (.fin (s != t) (c * d) (q + r + ((K + M : Nat) : Int)))
  have e : q + r + ((K + M : Nat) : Int) = q + K + (r + M) := by omega
  rw [e]
  exact h
theorem whole_up {i : Int} {s : Bool} {c : Nat} {A : Int} (n : Nat) (h : Whole i (.fin s c A)) : Whole (i * ((2 ^ n : Nat) : Int)) (.fin s c (A + n)) := by
  have h2 : Whole ((2 ^ n : Nat) : Int) (.fin false 1 (n : Int)) := by
    show signed false (1 * 2 ^ ((n : Int)).toNat) = ((2 ^ n : Nat) : Int) * ((2 ^ (-(n : Int)).toNat : Nat) : Int)
    rw [show ((n : Int)).toNat = n by omega, show (-(n : Int)).toNat = 0 by omega]
    simp [signed]
  have h3 := whole_product h h2
  have e : exactProduct (.fin s c A) (.fin false 1 (n : Int)) = .fin s c (A + n) := by
    show Datum.fin (s != false) (c * 1) (A + n) = _
    cases s <;> simp
  rw [e] at h3
  exact h3
theorem fv_up {K : Nat} {i : Int} {x : Datum} (n : Nat) (hx : Fv K i x) : Fv (K + n) (i * ((2 ^ n : Nat) : Int)) x := by
  obtain ⟨s, c, q, rfl, h⟩ := fv_fin hx
  have := whole_up n h
  show Whole _ (.fin s c (q + ((K + n : Nat) : Int)))
  rw [show q + ((K + n : Nat) : Int) = q + K + n by omega]
  exact this
theorem fit_scaled {K n : Nat} {s : Bool} (hn0 : n ≠ 0) (hn : n ≤ 2 ^ 53) (hK : K ≤ 1000) : ∃ (c : Nat) (q : Int), FP.Core.fits b64 (.fin s c (q - K)) ∧ n * 2 ^ (-q).toNat = c * 2 ^ q.toNat := by
  obtain ⟨c, q, ⟨f1, f2, f3, f4⟩, hv⟩ := natFit good_b64 wide_b64 s (n := n) hn
  rw [show (0 - q).toNat = (-q).toNat by omega, show (q - 0).toNat = q.toNat by omega, Nat.mul_one] at hv
  have eq1 : b64.qmin = -1074 := by decide
  have eq2 : b64.qmax = 971 := by decide
  have ep : b64.p = 53 := rfl
  rw [eq1] at f2 f4
  rw [eq2] at f3
  rw [ep] at f1
  have hq : -53 < q := by
    rcases Int.lt_or_le (-53) q with h | h
    · exact h
    · exfalso
      rw [show q.toNat = 0 by omega, Nat.pow_zero, Nat.mul_one] at hv
      have h1 : 2 ^ 53 ≤ 2 ^ (-q).toNat := Nat.pow_le_pow_right (by decide) (by omega)
      have h2 : 2 ^ (-q).toNat ≤ n * 2 ^ (-q).toNat := Nat.le_mul_of_pos_left _ (Nat.pos_of_ne_zero hn0)
      omega
  refine ⟨c, q, ⟨f1, by rw [eq1]; omega, by rw [eq2]; omega, Or.inr ?_⟩, hv⟩
  rcases f4 with h | h
  · omega
  · exact h
theorem whole_of {i : Int} {s : Bool} {c : Nat} {q : Int} (hs : i ≠ 0 → s = decide (i < 0)) (hv : i.natAbs * 2 ^ (-q).toNat = c * 2 ^ q.toNat) : Whole i (.fin s c q) := by
  show signed s (c * 2 ^ q.toNat) = i * ((2 ^ (-q).toNat : Nat) : Int)
  rw [← hv, signed_mul]
  congr 1
  by_cases hi0 : i = 0
  · rw [hi0]; exact signed_zero s
  · rw [hs hi0]
    unfold signed
    by_cases h : i < 0 <;> simp [h] <;> omega
theorem fv_ratio {K : Nat} {i : Int} {s : Bool} (hs : i ≠ 0 → s = decide (i < 0)) (hi : i.natAbs ≤ 2 ^ 53) (hK : K ≤ 1000) : Fv K i (roundRatio b64 s i.natAbs 1 (-(K : Int))) := by
  by_cases h0 : i = 0
  · subst h0
    show Whole 0 (sc K (roundRatio b64 s 0 1 (-(K : Int))))
    unfold roundRatio
    rw [if_pos rfl]
    show signed s (0 * _) = 0 * _
    rw [Nat.zero_mul, signed_zero, Int.zero_mul]
  · obtain ⟨c, q, hf, hv⟩ := fit_scaled (K := K) (s := s) (n := i.natAbs) (by omega) hi hK
    rw [roundRatio_exact good_b64 (by decide) hf (by
      rw [show (-(K : Int) - (q - K)).toNat = (-q).toNat by omega, show (q - (K : Int) - -(K : Int)).toNat = q.toNat by omega, Nat.mul_one]; exact hv)]
    show Whole i (.fin s c (q - K + K))
    rw [show q - (K : Int) + K = q by omega]
    exact whole_of hs hv
theorem fv_round {K : Nat} {i : Int} {d : Datum} (h : Fv K i d) (hi : i.natAbs ≤ 2 ^ 53) (hK : K ≤ 1000) : Fv K i (round b64 d) := by
  obtain ⟨s, c, q, rfl, hw⟩ := fv_fin h
  have e : round b64 (.fin s c q) = roundRatio b64 s i.natAbs 1 (-(K : Int)) := by
    refine roundRatio_congr (by decide) (by decide) ?_
    have := whole_natAbs hw
    rw [show (q - -(K : Int)).toNat = (q + K).toNat by omega, show (-(K : Int) - q).toNat = (-(q + K)).toNat by omega, Nat.mul_one, Nat.mul_one]
    exact this
  rw [e]
  exact fv_ratio (fun h0 => whole_sign hw h0) hi hK
theorem cancel {c d m : Nat} {A r : Int} {j : Nat} (h1 : c * 2 ^ A.toNat = m * j * 2 ^ (-A).toNat) (h2 : d * 2 ^ r.toNat = j * 2 ^ (-r).toNat) : c * 2 ^ (A - r).toNat = m * d * 2 ^ (r - A).toNat := by
  have h3 : c * 2 ^ (A.toNat + (-r).toNat) = m * d * 2 ^ ((-A).toNat + r.toNat) := by
    rw [Nat.pow_add, ← Nat.mul_assoc, h1, Nat.pow_add]
    calc m * j * 2 ^ (-A).toNat * 2 ^ (-r).toNat = m * (j * 2 ^ (-r).toNat) * 2 ^ (-A).toNat := by ac_rfl
      _ = m * (d * 2 ^ r.toNat) * 2 ^ (-A).toNat := by rw [h2]
      _ = m * d * (2 ^ (-A).toNat * 2 ^ r.toNat) := by ac_rfl
  obtain ⟨k, e1, e2⟩ : ∃ k, A.toNat + (-r).toNat = (A - r).toNat + k ∧ (-A).toNat + r.toNat = (r - A).toNat + k := ⟨min (A.toNat + (-r).toNat) ((-A).toNat + r.toNat), by omega, by omega⟩
  rw [e1, e2, Nat.pow_add, Nat.pow_add, ← Nat.mul_assoc, ← Nat.mul_assoc] at h3
  exact Nat.mul_right_cancel (Nat.two_pow_pos k) h3
theorem fv_quot {K : Nat} {m j : Int} {x y : Datum} (hx : Fv K (m * j) x) (hy : Whole j y) (hj : 0 < j) (hm : m.natAbs ≤ 2 ^ 53) (hK : K ≤ 1000) : Fv K m (quotient b64 x y) := by
  obtain ⟨s, c, q, rfl, h1⟩ := fv_fin hx
  cases y with
  | nan => exact hy.elim
  | inf => exact hy.elim
  | fin t d r =>
    have hd : d ≠ 0 := fun z => by have := (whole_zero hy).mp z; omega
    have ht : t = false := by rw [whole_sign hy (by omega)]; simp; omega
    show Fv K m (if d = 0 then _ else roundRatio b64 (s != t) c d (q - r))
    rw [if_neg hd]
    have n1 := whole_natAbs h1
    have n2 := whole_natAbs hy
    rw [Int.natAbs_mul] at n1
    have h3 := cancel n1 n2
    rw [roundRatio_congr (A' := m.natAbs) (B' := 1) (e' := -(K : Int)) (Nat.pos_of_ne_zero hd) (by decide) (by
      rw [show (q - r - -(K : Int)).toNat = (q + K - r).toNat by omega, show (-(K : Int) - (q - r)).toNat = (r - (q + K)).toNat by omega, Nat.mul_one]; exact h3)]
    refine fv_ratio (fun h0 => ?_) hm hK
    have hne : m * j ≠ 0 := Int.mul_ne_zero h0 (by omega)
    rw [ht, whole_sign h1 hne]
    by_cases hm0 : m < 0
    · have : m * j < 0 := Int.mul_neg_of_neg_of_pos hm0 hj
      simp [hm0, this]
    · have : ¬ m * j < 0 := Int.not_lt.mpr (Int.mul_nonneg (by omega) (by omega))
      simp [hm0, this]
theorem fv_zval {K : Nat} {i : Int} {d : Datum} (hd : FP.Core.fits b64 d) (h : Fv K i d) (hK : K ≤ 1000) : zval b64 d = i * ((2 ^ (1074 - K) : Nat) : Int) := by
  obtain ⟨s, c, q, rfl, hw⟩ := fv_fin h
  have eq1 : b64.qmin = -1074 := by decide
  have hq := hd.2.1
  rw [eq1] at hq
  have := whole_units hw (e := -1074 + (K : Int)) (by omega)
  rw [show (-1074 + (K : Int)).toNat = 0 by omega, show (-(-1074 + (K : Int))).toNat = 1074 - K by omega, Nat.pow_zero] at this
  have e2 : inUnits c (q + K) (-1074 + K) = inUnits c q b64.qmin := by unfold inUnits; rw [eq1, show q + (K : Int) - (-1074 + K) = q - -1074 by omega]
  rw [e2] at this
  show signed s (inUnits c q b64.qmin) = _
  rw [← this]; exact (Int.mul_one _).symm
/-- the double x is i / 2^K, and i is at most B -/
def Fr (K : Nat) (i : Int) (B : Nat) (x : UInt64) : Prop := Fv K i (val64 x) ∧ i.natAbs ≤ B
theorem Fr.ne {K B : Nat} {i : Int} {x : UInt64} (h : Fr K i B x) : val64 x ≠ .nan := fun e => by
  have := h.1
  rw [e] at this
  exact this.elim
theorem Fr.dadd {K B C : Nat} {i j : Int} {x y : UInt64} (hx : Fr K i B x) (hy : Fr K j C y) (hB : (decide (B + C ≤ 9007199254740992) && decide (K ≤ 1000)) = true) : Fr K (i + j) (B + C) (dadd x y) := by
  simp only [Bool.and_eq_true, decide_eq_true_eq] at hB
  have hb : (i + j).natAbs ≤ B + C := by have := hx.2; have := hy.2; omega
  refine ⟨?_, hb⟩
  rw [val64_dadd]
  exact fv_round (fv_sum hx.1 hy.1) (by have : 2 ^ 53 = 9007199254740992 := by decide
                                        omega) hB.2
theorem Fr.dsub {K B C : Nat} {i j : Int} {x y : UInt64} (hx : Fr K i B x) (hy : Fr K j C y) (hB : (decide (B + C ≤ 9007199254740992) && decide (K ≤ 1000)) = true) : Fr K (i - j) (B + C) (dsub x y) := by
  simp only [Bool.and_eq_true, decide_eq_true_eq] at hB
  have hb : (i - j).natAbs ≤ B + C := by have := hx.2; have := hy.2; omega
  refine ⟨?_, hb⟩
  rw [val64_dsub, Int.sub_eq_add_neg]
  exact fv_round (fv_sum hx.1 (fv_neg hy.1)) (by rw [← Int.sub_eq_add_neg]; have : 2 ^ 53 = 9007199254740992 := by decide
                                                 omega) hB.2
theorem Fr.dmul {K M B C : Nat} {i j : Int} {x y : UInt64} (hx : Fr K i B x) (hy : Fr M j C y) (hB : (decide (B * C ≤ 9007199254740992) && decide (K + M ≤ 1000)) = true) : Fr (K + M) (i * j) (B * C) (dmul x y) := by
  simp only [Bool.and_eq_true, decide_eq_true_eq] at hB
  have hb : (i * j).natAbs ≤ B * C := by rw [Int.natAbs_mul]; exact Nat.mul_le_mul hx.2 hy.2
  refine ⟨?_, hb⟩
  rw [val64_dmul]
  exact fv_round (fv_mul hx.1 hy.1) (by have : 2 ^ 53 = 9007199254740992 := by decide
                                        omega) hB.2
theorem Fr.ddiv {K B C D : Nat} {i m j : Int} {x y : UInt64} (hx : Fr K i B x) (hy : Fr 0 j C y) (hj : 0 < j) (e : i = m * j) (hm : m.natAbs ≤ D) (hB : (decide (D ≤ 9007199254740992) && decide (K ≤ 1000)) = true) : Fr K m D (ddiv x y) := by
  simp only [Bool.and_eq_true, decide_eq_true_eq] at hB
  refine ⟨?_, hm⟩
  rw [val64_ddiv]
  obtain ⟨s, c, q, ey, hw⟩ := fv_fin hy.1
  refine fv_quot (e ▸ hx.1) ?_ hj (by have : 2 ^ 53 = 9007199254740992 := by decide
                                      omega) hB.2
  rw [ey]
  rw [show q + ((0 : Nat) : Int) = q by omega] at hw
  exact hw
theorem Fr.up {K B : Nat} {i : Int} {x : UInt64} (n : Nat) (h : Fr K i B x) : Fr (K + n) (i * ((2 ^ n : Nat) : Int)) (B * 2 ^ n) x :=
  ⟨fv_up n h.1, by rw [Int.natAbs_mul, Int.natAbs_natCast]; exact Nat.mul_le_mul_right _ h.2⟩
theorem Fr.of_eq {K B C : Nat} {i j : Int} {x : UInt64} (h : Fr K i B x) (e : i = j) (hB : j.natAbs ≤ C) : Fr K j C x := ⟨e ▸ h.1, hB⟩
theorem Fr.l2d {a : Int64} {B : Nat} (h : a.toInt.natAbs ≤ B) (hB : decide (B ≤ 9007199254740992) = true) : Fr 0 a.toInt B (l2d a) := by
  simp only [decide_eq_true_eq] at hB
  refine ⟨?_, h⟩
  rw [val64_l2d]
  have w := whole_ofInt a.toInt
  refine fv_round (K := 0) ?_ (by have : 2 ^ 53 = 9007199254740992 := by decide
                                  omega) (by decide)
  show Whole a.toInt (.fin _ _ (0 + ((0 : Nat) : Int)))
  exact w
theorem Fr.i2d (a : Int32) : Fr 0 a.toInt 2147483648 (i2d a) := by
  have h1 := a.toInt_lt
  have h2 := a.le_toInt
  refine ⟨?_, by omega⟩
  rw [val64_i2d]
  have w := whole_ofInt a.toInt
  refine fv_round (K := 0) ?_ (by have : 2 ^ 53 = 9007199254740992 := by decide
                                  omega) (by decide)
  show Whole a.toInt (.fin _ _ (0 + ((0 : Nat) : Int)))
  exact w
theorem Fr.dcmp {K B C : Nat} {i j : Int} {x y : UInt64} (hx : Fr K i B x) (hy : Fr K j C y) (hK : K ≤ 1000) : dcmp x y = some (compare i j) := by
  rw [dcmp_zval hx.ne hy.ne, fv_zval (val64_fits x) hx.1 hK, fv_zval (val64_fits y) hy.1 hK]
  have p : (0 : Int) < ((2 ^ (1074 - K) : Nat) : Int) := by have := Nat.two_pow_pos (1074 - K); omega
  generalize ((2 ^ (1074 - K) : Nat) : Int) = P at p
  congr 1
  simp only [compare, compareOfLessAndEq]
  have a1 : i * P < j * P ↔ i < j := Int.mul_lt_mul_right p
  have a2 : i * P = j * P ↔ i = j := Int.mul_eq_mul_right_iff (by omega)
  simp only [a1, a2]
end OwnF
end Jvm.Pilot.@@N@@
namespace Jvm.Pilot.@@N@@
open Jvm Jvm.ClassFile Sem Op Lib Jvm.Free Jvm.Stand Jvm.LawKit Jvm.RoadKit Bundle Jvm.Pilot.@@N@@.Jvm.D
section Own
variable {p : Program} {l : Launch} {e : Env} {R : Room} {s : State} {m : MethodId} {args : Array Value} {below : List Frame} {meth : Method} {c : Code} {T : State} {locs : List Loc} {cells slots cl sl : Nat} {Q : Option Value → Heap → List Loc → Prop}
/-- from the state S the invocation comes to its end, returns, and Q holds of what it returned and left -/
def Goes (p : Program) (e : Env) (below : List Frame) (s : State) (cl sl : Nat) (Q : Option Value → Heap → List Loc → Prop) (S : State) : Prop :=
  ∃ s₂ o, Steps p.tables e below S s₂ ∧ s₂.status = .running ∧ Ended s₂ below o ∧ ∃ v L, o = .returned v ∧ Q v s₂.heap L ∧ FrameEnd s o s₂ L cl sl
theorem Goes.step {S S' : State} (h : ∀ t, Steps p.tables e below S' t → Steps p.tables e below S t) (k : Goes p e below s cl sl Q S') : Goes p e below s cl sl Q S := by
  obtain ⟨s₂, o, a, b⟩ := k
  exact ⟨s₂, o, h _ a, b⟩
theorem Goes.back {S S' : State} (h : Steps p.tables e below S S') (k : Goes p e below s cl sl Q S') : Goes p e below s cl sl Q S := Goes.step (fun _ q => h.trans q) k
theorem Goes.ret (X : Stand p l e R s m args below meth c T locs cells slots) (hx : p.tables.exec = Jvm.exec) (hlk : meth.locks = false) {pc : Nat} {Ls : Array Slot} {w : Value} {t : FieldType} {i : Instr} {rest : List Value} (hret : meth.sig.returnType = some t) (hn : narrow t w = w)
    (hi : (i = .ireturn ∧ (t = .int ∨ t = .boolean ∨ t = .byte ∨ t = .char ∨ t = .short) ∧ ∃ z, w = .int z) ∨ (i = .lreturn ∧ t = .long ∧ ∃ z, w = .long z) ∨ (i = .dreturn ∧ t = .double ∧ ∃ z, w = .double z) ∨ (i = .freturn ∧ t = .float ∧ ∃ z, w = .float z) ∨ (i = .areturn ∧ t.isReference = true ∧ w.isRef = true))
    (hd : decode c.code pc = .ok (i, 1)) (hQ : Q (some w) T.heap locs) (hc : cells ≤ cl) (hs : slots ≤ sl) : Goes p e below s cl sl Q (T.setTop (mkF m pc Ls (w :: rest))) := by
  obtain ⟨fs, hr, hrun, hended, hW, hsame⟩ := X.leave (v := some w) (fun h => by rw [hret] at h; cases h) hlk
  exact ⟨_, _, retOut X hx hret hn hi hd hr, hrun, hended, _, _, rfl, hQ, ⟨_, rfl⟩, hW, hsame.mono hc hs⟩
theorem Goes.retV (X : Stand p l e R s m args below meth c T locs cells slots) (hx : p.tables.exec = Jvm.exec) (hlk : meth.locks = false) {pc : Nat} {Ls : Array Slot} (hret : meth.sig.returnType = none)
    (hd : decode c.code pc = .ok (.return_, 1)) (hQ : Q none T.heap locs) (hc : cells ≤ cl) (hs : slots ≤ sl) : Goes p e below s cl sl Q (T.setTop (mkF m pc Ls [])) := by
  obtain ⟨fs, hr, hrun, hended, hW, hsame⟩ := X.leave (v := none) (fun _ => rfl) hlk
  exact ⟨_, _, X.returnOut hx hret hd hr, hrun, hended, _, _, rfl, hQ, ⟨_, rfl⟩, hW, hsame.mono hc hs⟩
theorem own_eqInt {args : Array Value} {s : State} {t : Term} {k : Int32} (h : (Cond.eq t (.int k)).value args s none s [] = some true) : t.eval args s none [] s = some (.int k) := by
  obtain ⟨x, y, hx, hy, -, k2⟩ := cmp_v (Or.inl h)
  obtain rfl : y = .int k := (Option.some.inj hy).symm
  obtain ⟨z, rfl⟩ := k2
  have e : (Cond.eq t (.int k)).value args s none s [] = some (decide (z = k)) := by simp [Cond.value, hx, hy]
  rw [hx, gotT e h]
theorem own_eqLong {args : Array Value} {s : State} {t : Term} {k : Int64} (h : (Cond.eq t (.long k)).value args s none s [] = some true) : t.eval args s none [] s = some (.long k) := by
  obtain ⟨x, y, hx, hy, -, k2⟩ := cmp_v (Or.inl h)
  obtain rfl : y = .long k := (Option.some.inj hy).symm
  obtain ⟨z, rfl⟩ := k2
  rw [hx, gotT (eq_L hx hy) h]
theorem own_neFld {Z : State} {h : Heap} {a b : Addr} {C n d : String} {x y : Int32} (F : Fld Z h a C n d (.int x)) (G : Fld Z h b C n d (.int y)) (q : x ≠ y) : a ≠ b := fun e => by
  subst e
  obtain ⟨cell, cf, k, i, f, h1, h2, -, -, -, -, h7⟩ := F
  obtain ⟨cell', cf', k', i', f', g1, g2, -, -, -, -, g7⟩ := G
  cases h1.symm.trans g1
  cases h2.symm.trans g2
  rw [h7] at g7
  injection g7 with g8
  injection g8 with g9
  exact q g9
theorem own_miss1 {k : Int32} {a : Int} (b : Int32) (hb : b.toInt = a) (h : ¬ k = b) : a ≠ k.toInt := fun q => h (Int32.toInt_inj.mp (by rw [hb, q]))
theorem own_find3 {k : Int32} {a b c' o1 o2 o3 : Int} {a' b' d' : Int32} (ha : ¬ k = a') (hb : ¬ k = b') (hc : ¬ k = d') (ea : a'.toInt = a := by rfl) (eb : b'.toInt = b := by rfl) (ec : d'.toInt = c' := by rfl) : (#[(a, o1), (b, o2), (c', o3)] : Array (Int × Int)).find? (·.1 == k.toInt) = none :=
  find_miss fun p hp => by
    simp only [List.mem_cons, List.not_mem_nil, or_false] at hp
    rcases hp with rfl | rfl | rfl
    · exact own_miss1 _ ea ha
    · exact own_miss1 _ eb hb
    · exact own_miss1 _ ec hc
theorem own_insKeep {Z : State} {h h' : Heap} {a : Addr} {C : String} {b : Bool} {ws : List Addr} (F : Ins Z h a C b) (K : Keep h h' ws) : Ins Z h' a C b := by
  obtain ⟨cell, cT, h1, h2, h3⟩ := F
  obtain ⟨c', q, r1, r2, r3⟩ := K.2.2 a cell h1
  exact ⟨c', cT, q, h2, by rw [r1, r2]; exact h3⟩
theorem own_insLt {Z : State} {h : Heap} {a : Addr} {C : String} {b : Bool} (F : Ins Z h a C b) : a < h.size := by
  obtain ⟨cell, cT, h1, -⟩ := F
  exact (Array.getElem?_eq_some_iff.mp h1).1
theorem own_cat {v : Value} (h : v.isRef = true) : v.category = 1 := by cases v <;> first | rfl | (simp [Value.isRef] at h)
theorem own_nar {ty : FieldType} {v : Value} (h : v.isRef = true) : narrow ty v = v := by cases v <;> first | (simp [Value.isRef] at h; done) | (cases ty <;> rfl)
theorem own_fit {C : String} {v : Value} (h : v.isRef = true) : fits (.object C) v = true := by cases v <;> first | rfl | (simp [Value.isRef] at h)
/-- a private method is selected by its own type, which is no interface since another method of it is selected -/
theorem own_selPriv {s : State} {args : Array Value} {C : String} {x z y : MethodName} (w : (Cond.selects C x z).before args s = true) (hc : z.cls = y.cls) (hp : (Cond.privateMethod y).before args s = true) (hi : (Cond.instanceMethod y).before args s = true)
    (hy : y.cls ≠ "java/lang/invoke/MethodHandle" ∧ y.cls ≠ "java/lang/invoke/VarHandle") : (Cond.selects y.cls y y).before args s = true := by
  obtain ⟨c2, r2, m2, -, -, q3, -, kP, hkP, hkPi⟩ := Cond.selects_spec w
  have hf := findClass_of_methodNamed q3
  rw [hc] at hf
  exact selects_self_of_private hf hkP hkPi (Cond.privateMethod_at hp) hi hy
/-- an array whose contents aren't told -/
def Arx (Z : State) (h : Heap) (a : Addr) (k : ClassId) (ty : FieldType) (n : Int32) : Prop :=
  ∃ cl : Cell, Arr Z h a cl ty ∧ cl.cls = k ∧ cl.slots.size = n.toNatClampNeg ∧ ¬ n < 0 ∧ ∀ i, i < cl.slots.size → ∃ v, cl.slots[i]? = some v ∧ fits ty v = true
theorem Arx.lt {Z : State} {h : Heap} {a : Addr} {k : ClassId} {ty : FieldType} {n : Int32} (F : Arx Z h a k ty n) : a < h.size := by obtain ⟨cl, A, -⟩ := F; exact A.lt
theorem Arx.ext {Z : State} {h h' : Heap} {a : Addr} {k : ClassId} {ty : FieldType} {n : Int32} (F : Arx Z h a k ty n) (E : Ext h h') : Arx Z h' a k ty n := by obtain ⟨cl, A, r⟩ := F; exact ⟨cl, A.ext E, r⟩
theorem Arx.other {Z : State} {h h' : Heap} {a b : Addr} {k : ClassId} {ty : FieldType} {n : Int32} {sl : Nat} {v : Value} (F : Arx Z h b k ty n) (W : Wr h h' a sl v) (q : b ≠ a) : Arx Z h' b k ty n := by obtain ⟨cl, A, r⟩ := F; exact ⟨cl, A.other W q, r⟩
theorem Arx.keep {Z : State} {h h' : Heap} {a : Addr} {k : ClassId} {ty : FieldType} {n : Int32} {ws : List Addr} (F : Arx Z h a k ty n) (K : Keep h h' ws) (q : a ∉ ws) : Arx Z h' a k ty n := by obtain ⟨cl, A, r⟩ := F; exact ⟨cl, ⟨K.2.1 a cl A.1 q, A.2⟩, r⟩
theorem Arx.set {Z : State} {h h' : Heap} {a : Addr} {k : ClassId} {ty : FieldType} {n : Int32} {cl : Cell} {sl : Nat} {v : Value} (A : Arr Z h a cl ty) (q1 : cl.cls = k) (S : cl.slots.size = n.toNatClampNeg) (P : ¬ n < 0) (G : ∀ i, i < cl.slots.size → ∃ v, cl.slots[i]? = some v ∧ fits ty v = true) (hv : fits ty v = true) (W : Wr h h' a sl v) : Arx Z h' a k ty n := by
  refine ⟨_, A.same W, q1, by rw [sz_set]; exact S, P, fun i hi => ?_⟩
  rw [sz_set] at hi
  by_cases u : sl = i
  · subst u
    exact ⟨v, by simp [Cell.setSlot, hi], hv⟩
  · obtain ⟨w, e1, e2⟩ := G i hi
    refine ⟨w, ?_, e2⟩
    show (cl.slots.setIfInBounds sl v)[i]? = some w
    rw [Array.getElem?_setIfInBounds_ne u]
    exact e1
theorem own_arx {Z : State} {h : Heap} {a : Addr} {k : ClassId} {ty : FieldType} {n : Int32} {vs : List Value} {d : Value} (F : Arv Z h a k ty n vs d) : Arx Z h a k ty n := by
  obtain ⟨cl, A, r1, r2, r3, H, G⟩ := F
  exact ⟨cl, A, r1, r2, r3, fun i hi => ⟨_, H i hi, G i hi⟩⟩
theorem own_arI {cl : Cell} {j : Int32} (G : ∀ i, i < cl.slots.size → ∃ v, cl.slots[i]? = some v ∧ fits .int v = true) (hin : ¬ (j < 0 ∨ cl.slots.size ≤ j.toNatClampNeg)) : ∃ x : Int32, cl.slots[j.toNatClampNeg]? = some (.int x) := by
  obtain ⟨v, e1, e2⟩ := G _ (Nat.lt_of_not_le fun q => hin (Or.inr q))
  obtain ⟨x, rfl⟩ := fit_I e2 (Or.inl rfl)
  exact ⟨x, e1⟩
theorem own_arD {cl : Cell} {j : Int32} (G : ∀ i, i < cl.slots.size → ∃ v, cl.slots[i]? = some v ∧ fits .double v = true) (hin : ¬ (j < 0 ∨ cl.slots.size ≤ j.toNatClampNeg)) : ∃ x, cl.slots[j.toNatClampNeg]? = some (.double x) := by
  obtain ⟨v, e1, e2⟩ := G _ (Nat.lt_of_not_le fun q => hin (Or.inr q))
  obtain ⟨x, rfl⟩ := fit_D e2
  exact ⟨x, e1⟩
end Own
theorem G1 {p : Program} {e : Env} {below : List Frame} {s : State} {cl sl : Nat} {Q : Option Value → Heap → List Loc → Prop} {S S' : State} (h : ∀ t, Steps p.tables e below S' t → Steps p.tables e below S t) (k : Goes p e below s cl sl Q S') : Goes p e below s cl sl Q S := Goes.step h k
theorem G2 {p : Program} {e : Env} {below : List Frame} {s : State} {cl sl : Nat} {Q : Option Value → Heap → List Loc → Prop} {S S' : State} (h : Steps p.tables e below S S') (k : Goes p e below s cl sl Q S') : Goes p e below s cl sl Q S := Goes.back h k
abbrev nD (x : UInt64) : Slot := .val (.double x)
abbrev nS : Slot := .second
abbrev nU : Slot := .unset
theorem own_arx0 {s : State} {args : Array Value} {t : Term} {a : Addr} {cl : Cell} {ty : FieldType} {n : Int32} (hfit : Fit s) (et : t.eval args s none [] s = some (.ref a)) (A : Arr s s.heap a cl ty) (hl : (Term.length t).eval args s none [] s = some (.int n)) (hn : ¬ n < 0) : Arx s s.heap a cl.cls ty n := by
  obtain ⟨x, c2, e1, e2, e4, e3⟩ := Jvm.Free.SB.Term.length_small hl
  cases et.symm.trans e1
  cases (A.fin (Vm.Alike.refl _)).symm.trans e2
  injection e4 with e5
  have hs : cl.slots.size = n.toNatClampNeg := by
    rw [e5]
    simp only [Int32.toNatClampNeg, len_toInt e3]
    rfl
  refine ⟨cl, A, rfl, hs, hn, fun i hi => ?_⟩
  have hq : ¬ (i.toInt32 < 0 ∨ cl.slots.size ≤ i.toInt32.toNatClampNeg) := idx_in hi e3
  obtain ⟨v, r1, r2⟩ := elem_fit hfit A hq
  refine ⟨v, ?_, r2⟩
  have hi2 : i.toInt32.toNatClampNeg = i := by simp only [Int32.toNatClampNeg, len_toInt (Nat.lt_trans hi e3)]; rfl
  rw [hi2] at r1
  exact r1
section OwnFr
open OwnF
open Jvm.Native.java_lang_Math.nans
theorem own_nn {K B : Nat} {i : Int} {x : UInt64} (h : Fr K i B x) : Jvm.Free.Fl.NoNaN64 x := Jvm.Free.Fl.val64_no.mpr h.ne
theorem own_pmax {K B C : Nat} {i j : Int} {x y : UInt64} (hx : Fr K i B x) (hy : Fr K j C y) (hK : K ≤ 1000) : Fr K (max i j) (max B C) (pick64 true x y) := by
  have hb : (max i j).natAbs ≤ max B C := by have := hx.2; have := hy.2; omega
  have e : FP.dcmp x y = some (compare i j) := hx.dcmp hy hK
  unfold pick64
  rw [e]
  rcases Int.lt_trichotomy i j with h | h | h
  · rw [show compare i j = .lt by simp [compare, compareOfLessAndEq, h]]
    exact hy.of_eq (by omega) hb
  · rw [show compare i j = .eq by simp [compare, compareOfLessAndEq, h]]
    dsimp only
    split
    · exact hy.of_eq (by omega) hb
    · exact hx.of_eq (by omega) hb
  · rw [(FP.Core.compare_gt_iff i j).mpr h]
    exact hx.of_eq (by omega) hb
theorem own_pmin {K B C : Nat} {i j : Int} {x y : UInt64} (hx : Fr K i B x) (hy : Fr K j C y) (hK : K ≤ 1000) : Fr K (min i j) (max B C) (pick64 false x y) := by
  have hb : (min i j).natAbs ≤ max B C := by have := hx.2; have := hy.2; omega
  have e : FP.dcmp x y = some (compare i j) := hx.dcmp hy hK
  unfold pick64
  rw [e]
  rcases Int.lt_trichotomy i j with h | h | h
  · rw [show compare i j = .lt by simp [compare, compareOfLessAndEq, h]]
    exact hx.of_eq (by omega) hb
  · rw [show compare i j = .eq by simp [compare, compareOfLessAndEq, h]]
    dsimp only
    split
    · exact hy.of_eq (by omega) hb
    · exact hx.of_eq (by omega) hb
  · rw [(FP.Core.compare_gt_iff i j).mpr h]
    exact hy.of_eq (by omega) hb
theorem own_eq0 {K B C : Nat} {i j : Int} {x y : UInt64} (hx : Fr K i B x) (hy : Fr K j C y) (hK : decide (K ≤ 1000) = true) (e : i = j) (o : CmpOp) : cmpValue (FP.dcmp x y) o = (0 : Int32) := by
  rw [show FP.dcmp x y = some (compare i j) from hx.dcmp hy (of_decide_eq_true hK), e]
  rw [show compare j j = .eq by simp [compare, compareOfLessAndEq]]
  rfl
theorem own_gt0 {B C : Nat} {i j : Int} {x y : UInt64} (hx : Fr 0 i B x) (hy : Fr 0 j C y) (h : j < i) (o : CmpOp) : (0 : Int32) < cmpValue (FP.dcmp x y) o := by
  rw [show FP.dcmp x y = some (compare i j) from hx.dcmp hy (by decide)]
  rw [(FP.Core.compare_gt_iff i j).mpr h]
  show (0 : Int32) < 1
  decide
theorem own_d2i {B : Nat} {i : Int} {x : UInt64} (hx : Fr 3 i B x) (h0 : 0 ≤ i) (h1 : i ≤ 16) : FP.d2i x = Int32.ofInt (i / 8) := by
  obtain ⟨s, c, q, ev, hw⟩ := fv_fin hx.1
  have hf := FP.Core.val64_fits x
  have hz := fv_zval hf hx.1 (by decide)
  have hm : FP.Core.zmag FP.Core.b64 (FP.Core.val64 x) = i.natAbs * 2 ^ (1074 - 3) := by
    rw [ev] at hz ⊢
    have h2 := congrArg Int.natAbs (show FP.Core.signed s (FP.Core.inUnits c q FP.Core.b64.qmin) = i * ((2 ^ (1074 - 3) : Nat) : Int) from hz)
    rw [FP.Core.natAbs_signed, Int.natAbs_mul, Int.natAbs_natCast] at h2
    exact h2
  obtain ⟨P, hP, h31⟩ : ∃ P : Nat, 2 ^ (FP.Core.b64.emax + 1) = P ∧ 2147483648 ≤ P := ⟨_, rfl, Nat.le_trans (show 2147483648 ≤ 2 ^ 31 by decide) (Nat.pow_le_pow_right (by decide) (show 31 ≤ FP.Core.b64.emax + 1 by decide))⟩
  have ht := FP.Core.toInt_zmag FP.Core.good_b64 hf hx.ne (lo := -2 ^ 31) (hi := 2 ^ 31 - 1) (by rw [hP]; omega) (by rw [hP]; omega) (by decide)
  have hq : FP.Core.zmag FP.Core.b64 (FP.Core.val64 x) / 2 ^ (-FP.Core.b64.qmin).toNat = i.natAbs / 8 := by
    rw [hm, show (2 : Nat) ^ (-FP.Core.b64.qmin).toNat = 8 * 2 ^ (1074 - 3) by decide +kernel]
    exact Nat.mul_div_mul_right _ _ (Nat.two_pow_pos _)
  rw [hq] at ht
  have hs : FP.Core.signed (FP.Core.sgn (FP.Core.val64 x)) (i.natAbs / 8) = i / 8 := by
    by_cases hi : i = 0
    · subst hi
      exact FP.Core.signed_zero _
    · rw [ev]
      show FP.Core.signed s (i.natAbs / 8) = i / 8
      rw [FP.Core.whole_sign hw hi, show decide (i < 0) = false by simp; omega]
      show ((i.natAbs / 8 : Nat) : Int) = i / 8
      omega
  rw [hs] at ht
  show Int32.ofInt (FP.Core.toInt (-2 ^ 31) (2 ^ 31 - 1) (FP.Core.val64 x)) = _
  rw [ht]
  have e8 : max (-2 ^ 31 : Int) (min (2 ^ 31 - 1) (i / 8)) = i / 8 := by
    have : 0 ≤ i / 8 := by omega
    have : i / 8 ≤ 2 := by omega
    omega
  rw [e8]
def own_L (x : Int64) (i : Int) (B : Nat) : Prop := x.toInt = i ∧ i.natAbs ≤ B
theorem own_L.add {x y : Int64} {i j : Int} {B C : Nat} (hx : own_L x i B) (hy : own_L y j C) (h : decide (B + C < 9223372036854775808) = true) : own_L (x + y) (i + j) (B + C) := by
  have hb := of_decide_eq_true h
  have h1 := hx.2
  have h2 := hy.2
  refine ⟨?_, by omega⟩
  rw [Int64.toInt_add, hx.1, hy.1]
  exact Int.bmod_eq_of_le (by omega) (by omega)
theorem own_L.sub {x y : Int64} {i j : Int} {B C : Nat} (hx : own_L x i B) (hy : own_L y j C) (h : decide (B + C < 9223372036854775808) = true) : own_L (x - y) (i - j) (B + C) := by
  have hb := of_decide_eq_true h
  have h1 := hx.2
  have h2 := hy.2
  refine ⟨?_, by omega⟩
  rw [Int64.toInt_sub, hx.1, hy.1]
  exact Int.bmod_eq_of_le (by omega) (by omega)
theorem own_bm {a b : Int} {A B : Nat} (ha : a.natAbs ≤ A) (hb : b.natAbs ≤ B) : (a * b).natAbs ≤ A * B := by rw [Int.natAbs_mul]; exact Nat.mul_le_mul ha hb
theorem own_ba {a b : Int} {A B : Nat} (ha : a.natAbs ≤ A) (hb : b.natAbs ≤ B) : (a + b).natAbs ≤ A + B := by omega
theorem own_L.mul {x y : Int64} {i j : Int} {B C : Nat} (hx : own_L x i B) (hy : own_L y j C) (h : decide (B * C < 9223372036854775808) = true) : own_L (x * y) (i * j) (B * C) := by
  have hb := of_decide_eq_true h
  have h1 := own_bm hx.2 hy.2
  refine ⟨?_, h1⟩
  rw [Int64.toInt_mul, hx.1, hy.1]
  exact Int.bmod_eq_of_le (by omega) (by omega)
theorem own_frL {x : Int64} {i : Int} {B : Nat} (h : own_L x i B) (hB : decide (B ≤ 9007199254740992) = true) : Fr 0 i B (FP.l2d x) := by
  obtain ⟨rfl, h2⟩ := h
  exact Fr.l2d h2 hB
def own_co (w : Int64) (j : Int32) : Int64 := ((w <<< (((54 : Int32) - ((10 : Int32) * j)) &&& 0x3f).toInt64) >>> ((54 : Int32) &&& 0x3f).toInt64)
theorem own_coL (w : Int64) (j : Int32) : own_L (own_co w j) (own_co w j).toInt 512 := by
  refine ⟨rfl, ?_⟩
  unfold own_co
  generalize (w <<< (((54 : Int32) - ((10 : Int32) * j)) &&& 0x3f).toInt64) = y
  have e : (y >>> ((54 : Int32) &&& 0x3f).toInt64).toInt = y.toInt >>> 54 := by
    show (BitVec.sshiftRight' y.toBitVec ((((54 : Int32) &&& 0x3f).toInt64).toBitVec.smod 64)).toInt = _
    rw [show (((54 : Int32) &&& 0x3f).toInt64).toBitVec.smod 64 = 54#64 by decide, BitVec.toInt_sshiftRight']
    rfl
  rw [e, Int.shiftRight_eq_div_pow]
  have h1 := y.toInt_lt
  have h2 := y.le_toInt
  omega
def own_mn (x y : Int32) : Int32 := if y < x then y else x
def own_mx (x y : Int32) : Int32 := if x < y then y else x
theorem own_kc (k : Int32) : (own_mx (0 : Int32) (own_mn k (16 : Int32))).toInt = min (max k.toInt 0) 16 := by
  unfold own_mx own_mn
  have e16 : (16 : Int32).toInt = 16 := rfl
  have e0 : (0 : Int32).toInt = 0 := rfl
  by_cases h : (16 : Int32) < k
  · rw [if_pos h, if_pos (by decide), e16]
    have := Int32.lt_iff_toInt_lt.mp h
    omega
  · rw [if_neg h]
    have h2 : k.toInt ≤ 16 := Int.not_lt.mp fun q => h (Int32.lt_iff_toInt_lt.mpr q)
    by_cases g : (0 : Int32) < k
    · rw [if_pos g]
      have := Int32.lt_iff_toInt_lt.mp g
      omega
    · rw [if_neg g, e0]
      have : k.toInt ≤ 0 := Int.not_lt.mp fun q => g (Int32.lt_iff_toInt_lt.mpr q)
      omega
theorem own_step {x : Int32} {s : Int64} (h : (((x &&& (15 : Int32)) + (1 : Int32)).toInt64) = s) : own_L s s.toInt 16 ∧ 1 ≤ s.toInt := by
  subst h
  have b : (x &&& (15 : Int32)).toInt = x.toInt % 2 ^ 4 := Jvm.Kit.i32_mask x 15 (k := 4) (by decide) (by decide)
  have e : ((x &&& (15 : Int32)) + (1 : Int32)).toInt = (x &&& (15 : Int32)).toInt + 1 := by
    rw [Int32.toInt_add]
    exact Int.bmod_eq_of_le (by show _ ≤ (x &&& 15).toInt + 1; omega) (by show (x &&& 15).toInt + 1 < _; omega)
  rw [Int32.toInt_toInt64, e]
  refine ⟨⟨?_, by omega⟩, by omega⟩
  rw [Int32.toInt_toInt64, e]
theorem own_kL {k : Int32} {kc : Int} (h : kc = min (max k.toInt 0) 16) : own_L ((own_mx (0 : Int32) (own_mn k (16 : Int32))).toInt64) kc 16 := by
  refine ⟨?_, by omega⟩
  rw [Int32.toInt_toInt64, own_kc, h]
theorem own_mn0 {z : Int32} {kc : Int} (hz : z = Int32.ofInt (kc / 8)) (h0 : 0 ≤ kc) (h1 : kc < 8) : own_mn z (1 : Int32) = (0 : Int32) := by
  rw [hz, show kc / 8 = 0 by omega]
  decide
theorem own_mn1 {z : Int32} {kc : Int} (hz : z = Int32.ofInt (kc / 8)) (h0 : 8 ≤ kc) (h1 : kc ≤ 16) : own_mn z (1 : Int32) = (1 : Int32) := by
  have : kc / 8 = 1 ∨ kc / 8 = 2 := by omega
  rcases this with q | q <;> rw [hz, q] <;> decide
end OwnFr
section OwnC
theorem own_c0 : OwnF.Fr 0 0 0 FP.dconst0 := by
  have h : FP.l2d 0 = FP.dconst0 := by decide +kernel
  rw [← h]; exact (OwnF.Fr.l2d (a := 0) (B := 0) (by decide) (by decide)).of_eq (by decide) (by decide)
theorem own_c1 : OwnF.Fr 0 1 1 FP.dconst1 := by
  have h : FP.l2d 1 = FP.dconst1 := by decide +kernel
  rw [← h]; exact (OwnF.Fr.l2d (a := 1) (B := 1) (by decide) (by decide)).of_eq (by decide) (by decide)
theorem own_k4611686018427387904 : OwnF.Fr 0 (2) 2 (4611686018427387904 : UInt64) := by
  have h : FP.l2d (2) = (4611686018427387904 : UInt64) := by decide +kernel
  rw [← h]; exact (OwnF.Fr.l2d (a := 2) (B := 2) (by decide) (by decide)).of_eq (by decide) (by decide)
theorem own_k4613937818241073152 : OwnF.Fr 0 (3) 3 (4613937818241073152 : UInt64) := by
  have h : FP.l2d (3) = (4613937818241073152 : UInt64) := by decide +kernel
  rw [← h]; exact (OwnF.Fr.l2d (a := 3) (B := 3) (by decide) (by decide)).of_eq (by decide) (by decide)
theorem own_k13835058055282163712 : OwnF.Fr 0 (-2) 2 (13835058055282163712 : UInt64) := by
  have h : FP.l2d (-2) = (13835058055282163712 : UInt64) := by decide +kernel
  rw [← h]; exact (OwnF.Fr.l2d (a := -2) (B := 2) (by decide) (by decide)).of_eq (by decide) (by decide)
theorem own_k4618441417868443648 : OwnF.Fr 0 (6) 6 (4618441417868443648 : UInt64) := by
  have h : FP.l2d (6) = (4618441417868443648 : UInt64) := by decide +kernel
  rw [← h]; exact (OwnF.Fr.l2d (a := 6) (B := 6) (by decide) (by decide)).of_eq (by decide) (by decide)
theorem own_k4616189618054758400 : OwnF.Fr 0 (4) 4 (4616189618054758400 : UInt64) := by
  have h : FP.l2d (4) = (4616189618054758400 : UInt64) := by decide +kernel
  rw [← h]; exact (OwnF.Fr.l2d (a := 4) (B := 4) (by decide) (by decide)).of_eq (by decide) (by decide)
theorem own_k13841813454723219456 : OwnF.Fr 0 (-6) 6 (13841813454723219456 : UInt64) := by
  have h : FP.l2d (-6) = (13841813454723219456 : UInt64) := by decide +kernel
  rw [← h]; exact (OwnF.Fr.l2d (a := -6) (B := 6) (by decide) (by decide)).of_eq (by decide) (by decide)
theorem own_k4620693217682128896 : OwnF.Fr 0 (8) 8 (4620693217682128896 : UInt64) := by
  have h : FP.l2d (8) = (4620693217682128896 : UInt64) := by decide +kernel
  rw [← h]; exact (OwnF.Fr.l2d (a := 8) (B := 8) (by decide) (by decide)).of_eq (by decide) (by decide)
theorem own_k4647714815446351872 : OwnF.Fr 0 (512) 512 (4647714815446351872 : UInt64) := by
  have h : FP.l2d (512) = (4647714815446351872 : UInt64) := by decide +kernel
  rw [← h]; exact (OwnF.Fr.l2d (a := 512) (B := 512) (by decide) (by decide)).of_eq (by decide) (by decide)
theorem own_k4634204016564240384 : OwnF.Fr 0 (64) 64 (4634204016564240384 : UInt64) := by
  have h : FP.l2d (64) = (4634204016564240384 : UInt64) := by decide +kernel
  rw [← h]; exact (OwnF.Fr.l2d (a := 64) (B := 64) (by decide) (by decide)).of_eq (by decide) (by decide)
end OwnC
theorem d2_0 : decode method_3_code 0 = .ok (.lload_n 0, 1) := by decide +kernel
theorem d2_1 : decode method_3_code 1 = .ok (.bipush 54, 2) := by decide +kernel
theorem d2_3 : decode method_3_code 3 = .ok (.bipush 10, 2) := by decide +kernel
theorem d2_5 : decode method_3_code 5 = .ok (.iload_n 2, 1) := by decide +kernel
theorem d2_6 : decode method_3_code 6 = .ok (.imul, 1) := by decide +kernel
theorem d2_7 : decode method_3_code 7 = .ok (.isub, 1) := by decide +kernel
theorem d2_8 : decode method_3_code 8 = .ok (.lshl, 1) := by decide +kernel
theorem d2_9 : decode method_3_code 9 = .ok (.bipush 54, 2) := by decide +kernel
theorem d2_11 : decode method_3_code 11 = .ok (.lshr, 1) := by decide +kernel
theorem d2_12 : decode method_3_code 12 = .ok (.lreturn, 1) := by decide +kernel
theorem pn_2 : plainName "com/example/orbitloom/orbitloom/orbits/TrackAtPinLaw" = true := by first | (simp [plainName, overriddenIn]; done) | decide +kernel
theorem ef_2 (m : MethodId) (x0 : Int64) (x1 : Int32)  : entryFrame m #[(.long x0), (.int x1)] 3 = mkF m 0 #[.val (.long x0), .second, .val (.int x1)] [] := by first | (simp [entryFrame, mkF, argsToLocals, Value.category]; done) | rfl
def Q2 (Z : State) (x0 : Int64) (x1 : Int32) (h0 : Heap) (n0 : Nat) (v : Option Value) (h : Heap) (L : List Loc) : Prop := Fr n0 L ∧ h = h0 ∧ v = some (.long (own_co x0 x1))
set_option maxRecDepth 65536 in
set_option maxHeartbeats 40000000 in
theorem rm2 (l : Launch) (Z : State) (a0 : Array Value) (hw : ∀ d ∈ tables_1, d.before a0 Z = true) (ws : List Jvm.Cond) (x0 : Int64) (x1 : Int32) (h0 : Heap) (n0 : Nat) (Z0 : n0 ≤ h0.size) :
    MetFree l (⟨"com/example/orbitloom/orbitloom/orbits/TrackAtPinLaw", "co", "(JI)J"⟩ : MethodName) (head1 (Jvm.Cond.code (⟨"com/example/orbitloom/orbitloom/orbits/TrackAtPinLaw", "co", "(JI)J"⟩ : MethodName) method_3_code 3 (some .long) :: ws) ({ frames := 0, cells := 0, slots := 0, locals := 0 } : Room)) (fun a U => a = #[(.long x0), (.int x1)] ∧ Z.Warmed39 U.vm ∧ U.heap = h0) (fun _ _ _ _ _ => True) (fun _ U o U' => ∃ v L, o = .returned v ∧ Q2 Z x0 x1 h0 n0 v U'.heap L ∧ FrameEnd U o U' L ({ frames := 0, cells := 0, slots := 0, locals := 0 } : Room).cells ({ frames := 0, cells := 0, slots := 0, locals := 0 } : Room).slots) := by
  refine MetFree.of_bodySF (plainFor_of_name pn_2) hisR ?_
  intro p e s m args below meth c s₁ Bd hml0 hP hK
  obtain ⟨rfl, hZ, hh⟩ := hP
  have hx := Bd.exec
  have hby := Bd.bytes
  have hml : c.maxLocals = 3 := hml0
  have hown : s.vm.findClass "com/example/orbitloom/orbitloom/orbits/TrackAtPinLaw" = some m.cls := findClass_of_methodNamed Bd.named
  have hnm := (name_of_methodNamed Bd.named Bd.method).1
  have X0 : Stand p l e ({ frames := 0, cells := 0, slots := 0, locals := 0 } : Room) s m #[(.long x0), (.int x1)] below meth c s₁ [] 0 0 := Stand.of_body Bd
  have e0 : s₁.heap = h0 := by rw [← hh, Bd.state]; rfl
  have N0 := Fr.nil n0
  have K0 : Keep h0 h0 [] := Keep.refl h0 _
  refine (?_ : Goes p e below s ({ frames := 0, cells := 0, slots := 0, locals := 0 } : Room).cells ({ frames := 0, cells := 0, slots := 0, locals := 0 } : Room).slots (fun v h L => Q2 Z x0 x1 h0 n0 v h L) (s₁.setTop (entryFrame m #[(.long x0), (.int x1)] 3)))
  rw [ef_2 m x0 x1 ]
  show Goes _ _ _ _ _ _ _ (s₁.setTop (mkF m 0 #[.val (.long x0), nS, .val (.int x1)] []))
  refine G1 (fun _ k => XS.lloadN X0.here hx rfl (hb hby d2_0) rfl  k) ?_
  refine G1 (fun _ k => XS.bipush X0.here hx rfl (hb hby d2_1) k) ?_
  refine G1 (fun _ k => XS.bipush X0.here hx rfl (hb hby d2_3) k) ?_
  refine G1 (fun _ k => XS.iloadN X0.here hx rfl (hb hby d2_5) rfl  k) ?_
  show Goes _ _ _ _ _ _ _ (s₁.setTop (mkF m 6 _ [(.int x1), (.int (10 : Int32)), (.int (54 : Int32)), (.long x0)]))
  refine G1 (fun _ k => XS.imul X0.here hx rfl (hb hby d2_6) rfl k) ?_
  show Goes _ _ _ _ _ _ _ (s₁.setTop (mkF m 7 _ [(.int ((10 : Int32) * x1)), (.int (54 : Int32)), (.long x0)]))
  refine G1 (fun _ k => XS.isub X0.here hx rfl (hb hby d2_7) rfl k) ?_
  show Goes _ _ _ _ _ _ _ (s₁.setTop (mkF m 8 _ [(.int ((54 : Int32) - ((10 : Int32) * x1))), (.long x0)]))
  refine G1 (fun _ k => XS.lshl X0.here hx rfl (hb hby d2_8) rfl k) ?_
  show Goes _ _ _ _ _ _ _ (s₁.setTop (mkF m 9 _ [(.long (x0 <<< (((54 : Int32) - ((10 : Int32) * x1)) &&& 0x3f).toInt64))]))
  refine G1 (fun _ k => XS.bipush X0.here hx rfl (hb hby d2_9) k) ?_
  refine G1 (fun _ k => XS.lshr X0.here hx rfl (hb hby d2_11) rfl k) ?_
  show Goes _ _ _ _ _ _ _ (s₁.setTop (mkF m 12 _ [(.long ((x0 <<< (((54 : Int32) - ((10 : Int32) * x1)) &&& 0x3f).toInt64) >>> ((54 : Int32) &&& 0x3f).toInt64))]))
  exact Goes.ret X0 hx (BodyLoose.notSynchronized Bd) Bd.returns rfl (Or.inr (Or.inl ⟨rfl, rfl, _, rfl⟩)) (hb hby d2_12) (by show Q2 Z x0 x1 h0 n0 (some (.long ((x0 <<< (((54 : Int32) - ((10 : Int32) * x1)) &&& 0x3f).toInt64) >>> ((54 : Int32) &&& 0x3f).toInt64))) s₁.heap _; rw [e0]; exact ⟨N0, rfl, rfl⟩) (by decide) (by decide)
theorem d8_0 : decode jdk_29_method_69_code 0 = .ok (.iload_n 0, 1) := by decide +kernel
theorem d8_1 : decode jdk_29_method_69_code 1 = .ok (.iload_n 1, 1) := by decide +kernel
theorem d8_2 : decode jdk_29_method_69_code 2 = .ok (.if_icmp .gt 7, 3) := by decide +kernel
theorem d8_5 : decode jdk_29_method_69_code 5 = .ok (.iload_n 0, 1) := by decide +kernel
theorem d8_6 : decode jdk_29_method_69_code 6 = .ok (.goto 4, 3) := by decide +kernel
theorem d8_9 : decode jdk_29_method_69_code 9 = .ok (.iload_n 1, 1) := by decide +kernel
theorem d8_10 : decode jdk_29_method_69_code 10 = .ok (.ireturn, 1) := by decide +kernel
theorem ef_8 (m : MethodId) (x0 : Int32) (x1 : Int32)  : entryFrame m #[(.int x0), (.int x1)] 2 = mkF m 0 #[.val (.int x0), .val (.int x1)] [] := by first | (simp [entryFrame, mkF, argsToLocals, Value.category]; done) | rfl
def Q8 (Z : State) (x0 : Int32) (x1 : Int32) (h0 : Heap) (n0 : Nat) (v : Option Value) (h : Heap) (L : List Loc) : Prop := Fr n0 L ∧ h = h0 ∧ v = some (.int (own_mn x0 x1))
set_option maxRecDepth 65536 in
set_option maxHeartbeats 40000000 in
theorem rm8 (l : Launch) (Z : State) (a0 : Array Value) (hw : ∀ d ∈ tables_1, d.before a0 Z = true) (ws : List Jvm.Cond) (x0 : Int32) (x1 : Int32) (h0 : Heap) (n0 : Nat) (Z0 : n0 ≤ h0.size) :
    MetFree l (⟨"java/lang/Math", "min", "(II)I"⟩ : MethodName) (head1 (Jvm.Cond.code (⟨"java/lang/Math", "min", "(II)I"⟩ : MethodName) jdk_29_method_69_code 2 (some .int) :: ws) ({ frames := 0, cells := 0, slots := 0, locals := 0 } : Room)) (fun a U => a = #[(.int x0), (.int x1)] ∧ Z.Warmed39 U.vm ∧ U.heap = h0) (fun _ _ _ _ _ => True) (fun _ U o U' => ∃ v L, o = .returned v ∧ Q8 Z x0 x1 h0 n0 v U'.heap L ∧ FrameEnd U o U' L ({ frames := 0, cells := 0, slots := 0, locals := 0 } : Room).cells ({ frames := 0, cells := 0, slots := 0, locals := 0 } : Room).slots) := by
  refine MetFree.of_bodySF (Jvm.Free.JP.mathPlain rfl (by decide +kernel)) hisR ?_
  intro p e s m args below meth c s₁ Bd hml0 hP hK
  obtain ⟨rfl, hZ, hh⟩ := hP
  have hx := Bd.exec
  have hby := Bd.bytes
  have hml : c.maxLocals = 2 := hml0
  have hown : s.vm.findClass "java/lang/Math" = some m.cls := findClass_of_methodNamed Bd.named
  have hnm := (name_of_methodNamed Bd.named Bd.method).1
  have X0 : Stand p l e ({ frames := 0, cells := 0, slots := 0, locals := 0 } : Room) s m #[(.int x0), (.int x1)] below meth c s₁ [] 0 0 := Stand.of_body Bd
  have e0 : s₁.heap = h0 := by rw [← hh, Bd.state]; rfl
  have N0 := Fr.nil n0
  have K0 : Keep h0 h0 [] := Keep.refl h0 _
  refine (?_ : Goes p e below s ({ frames := 0, cells := 0, slots := 0, locals := 0 } : Room).cells ({ frames := 0, cells := 0, slots := 0, locals := 0 } : Room).slots (fun v h L => Q8 Z x0 x1 h0 n0 v h L) (s₁.setTop (entryFrame m #[(.int x0), (.int x1)] 2)))
  rw [ef_8 m x0 x1 ]
  show Goes _ _ _ _ _ _ _ (s₁.setTop (mkF m 0 #[.val (.int x0), .val (.int x1)] []))
  refine G1 (fun _ k => XS.iloadN X0.here hx rfl (hb hby d8_0) rfl  k) ?_
  refine G1 (fun _ k => XS.iloadN X0.here hx rfl (hb hby d8_1) rfl  k) ?_
  by_cases c2_1 : x1 < x0
  · refine G1 (fun _ k => XS.icmpYes X0.here hx rfl (pc0 := 2) (pc' := 9) rfl (hb hby d8_2) rfl (tlt c2_1).2.2.1 (by decide) (by decide) k) ?_
    show Goes _ _ _ _ _ _ _ (s₁.setTop (mkF m 9 _ []))
    refine G1 (fun _ k => XS.iloadN X0.here hx rfl (hb hby d8_9) rfl  k) ?_
    exact Goes.ret X0 hx (BodyLoose.notSynchronized Bd) Bd.returns rfl (Or.inl ⟨rfl, by simp, _, rfl⟩) (hb hby d8_10) (by show Q8 Z x0 x1 h0 n0 (some (.int x1)) s₁.heap _; rw [e0]; exact ⟨N0, rfl, congrArg (fun z => some (Value.int z)) (Eq.symm (if_pos c2_1))⟩) (by decide) (by decide)
  · refine G1 (fun _ k => XS.icmpNo X0.here hx rfl (hb hby d8_2) rfl (flt c2_1).2.2.1 k) ?_
    show Goes _ _ _ _ _ _ _ (s₁.setTop (mkF m 5 _ []))
    refine G1 (fun _ k => XS.iloadN X0.here hx rfl (hb hby d8_5) rfl  k) ?_
    refine G1 (fun _ k => XS.goto X0.here hx rfl (pc0 := 6) (pc' := 10) rfl (hb hby d8_6) (by decide) (by decide) k) ?_
    show Goes _ _ _ _ _ _ _ (s₁.setTop (mkF m 10 _ [(.int x0)]))
    exact Goes.ret X0 hx (BodyLoose.notSynchronized Bd) Bd.returns rfl (Or.inl ⟨rfl, by simp, _, rfl⟩) (hb hby d8_10) (by show Q8 Z x0 x1 h0 n0 (some (.int x0)) s₁.heap _; rw [e0]; exact ⟨N0, rfl, congrArg (fun z => some (Value.int z)) (Eq.symm (if_neg c2_1))⟩) (by decide) (by decide)
theorem d9_0 : decode jdk_29_method_65_code 0 = .ok (.iload_n 0, 1) := by decide +kernel
theorem d9_1 : decode jdk_29_method_65_code 1 = .ok (.iload_n 1, 1) := by decide +kernel
theorem d9_2 : decode jdk_29_method_65_code 2 = .ok (.if_icmp .lt 7, 3) := by decide +kernel
theorem d9_5 : decode jdk_29_method_65_code 5 = .ok (.iload_n 0, 1) := by decide +kernel
theorem d9_6 : decode jdk_29_method_65_code 6 = .ok (.goto 4, 3) := by decide +kernel
theorem d9_9 : decode jdk_29_method_65_code 9 = .ok (.iload_n 1, 1) := by decide +kernel
theorem d9_10 : decode jdk_29_method_65_code 10 = .ok (.ireturn, 1) := by decide +kernel
theorem ef_9 (m : MethodId) (x0 : Int32) (x1 : Int32)  : entryFrame m #[(.int x0), (.int x1)] 2 = mkF m 0 #[.val (.int x0), .val (.int x1)] [] := by first | (simp [entryFrame, mkF, argsToLocals, Value.category]; done) | rfl
def Q9 (Z : State) (x0 : Int32) (x1 : Int32) (h0 : Heap) (n0 : Nat) (v : Option Value) (h : Heap) (L : List Loc) : Prop := Fr n0 L ∧ h = h0 ∧ v = some (.int (own_mx x0 x1))
set_option maxRecDepth 65536 in
set_option maxHeartbeats 40000000 in
theorem rm9 (l : Launch) (Z : State) (a0 : Array Value) (hw : ∀ d ∈ tables_1, d.before a0 Z = true) (ws : List Jvm.Cond) (x0 : Int32) (x1 : Int32) (h0 : Heap) (n0 : Nat) (Z0 : n0 ≤ h0.size) :
    MetFree l (⟨"java/lang/Math", "max", "(II)I"⟩ : MethodName) (head1 (Jvm.Cond.code (⟨"java/lang/Math", "max", "(II)I"⟩ : MethodName) jdk_29_method_65_code 2 (some .int) :: ws) ({ frames := 0, cells := 0, slots := 0, locals := 0 } : Room)) (fun a U => a = #[(.int x0), (.int x1)] ∧ Z.Warmed39 U.vm ∧ U.heap = h0) (fun _ _ _ _ _ => True) (fun _ U o U' => ∃ v L, o = .returned v ∧ Q9 Z x0 x1 h0 n0 v U'.heap L ∧ FrameEnd U o U' L ({ frames := 0, cells := 0, slots := 0, locals := 0 } : Room).cells ({ frames := 0, cells := 0, slots := 0, locals := 0 } : Room).slots) := by
  refine MetFree.of_bodySF (Jvm.Free.JP.mathPlain rfl (by decide +kernel)) hisR ?_
  intro p e s m args below meth c s₁ Bd hml0 hP hK
  obtain ⟨rfl, hZ, hh⟩ := hP
  have hx := Bd.exec
  have hby := Bd.bytes
  have hml : c.maxLocals = 2 := hml0
  have hown : s.vm.findClass "java/lang/Math" = some m.cls := findClass_of_methodNamed Bd.named
  have hnm := (name_of_methodNamed Bd.named Bd.method).1
  have X0 : Stand p l e ({ frames := 0, cells := 0, slots := 0, locals := 0 } : Room) s m #[(.int x0), (.int x1)] below meth c s₁ [] 0 0 := Stand.of_body Bd
  have e0 : s₁.heap = h0 := by rw [← hh, Bd.state]; rfl
  have N0 := Fr.nil n0
  have K0 : Keep h0 h0 [] := Keep.refl h0 _
  refine (?_ : Goes p e below s ({ frames := 0, cells := 0, slots := 0, locals := 0 } : Room).cells ({ frames := 0, cells := 0, slots := 0, locals := 0 } : Room).slots (fun v h L => Q9 Z x0 x1 h0 n0 v h L) (s₁.setTop (entryFrame m #[(.int x0), (.int x1)] 2)))
  rw [ef_9 m x0 x1 ]
  show Goes _ _ _ _ _ _ _ (s₁.setTop (mkF m 0 #[.val (.int x0), .val (.int x1)] []))
  refine G1 (fun _ k => XS.iloadN X0.here hx rfl (hb hby d9_0) rfl  k) ?_
  refine G1 (fun _ k => XS.iloadN X0.here hx rfl (hb hby d9_1) rfl  k) ?_
  by_cases c2_1 : x0 < x1
  · refine G1 (fun _ k => XS.icmpYes X0.here hx rfl (pc0 := 2) (pc' := 9) rfl (hb hby d9_2) rfl (tlt c2_1).1 (by decide) (by decide) k) ?_
    show Goes _ _ _ _ _ _ _ (s₁.setTop (mkF m 9 _ []))
    refine G1 (fun _ k => XS.iloadN X0.here hx rfl (hb hby d9_9) rfl  k) ?_
    exact Goes.ret X0 hx (BodyLoose.notSynchronized Bd) Bd.returns rfl (Or.inl ⟨rfl, by simp, _, rfl⟩) (hb hby d9_10) (by show Q9 Z x0 x1 h0 n0 (some (.int x1)) s₁.heap _; rw [e0]; exact ⟨N0, rfl, congrArg (fun z => some (Value.int z)) (Eq.symm (if_pos c2_1))⟩) (by decide) (by decide)
  · refine G1 (fun _ k => XS.icmpNo X0.here hx rfl (hb hby d9_2) rfl (flt c2_1).1 k) ?_
    show Goes _ _ _ _ _ _ _ (s₁.setTop (mkF m 5 _ []))
    refine G1 (fun _ k => XS.iloadN X0.here hx rfl (hb hby d9_5) rfl  k) ?_
    refine G1 (fun _ k => XS.goto X0.here hx rfl (pc0 := 6) (pc' := 10) rfl (hb hby d9_6) (by decide) (by decide) k) ?_
    show Goes _ _ _ _ _ _ _ (s₁.setTop (mkF m 10 _ [(.int x0)]))
    exact Goes.ret X0 hx (BodyLoose.notSynchronized Bd) Bd.returns rfl (Or.inl ⟨rfl, by simp, _, rfl⟩) (hb hby d9_10) (by show Q9 Z x0 x1 h0 n0 (some (.int x0)) s₁.heap _; rw [e0]; exact ⟨N0, rfl, congrArg (fun z => some (Value.int z)) (Eq.symm (if_neg c2_1))⟩) (by decide) (by decide)
theorem d3_0 : decode prog_63_method_1_code 0 = .ok (.aload_n 0, 1) := by decide +kernel
theorem d3_1 : decode prog_63_method_1_code 1 = .ok (.invokespecial 1, 3) := by decide +kernel
theorem d3_4 : decode prog_63_method_1_code 4 = .ok (.dload_n 1, 1) := by decide +kernel
theorem d3_5 : decode prog_63_method_1_code 5 = .ok (.dconst 0, 1) := by decide +kernel
theorem d3_6 : decode prog_63_method_1_code 6 = .ok (.dcmp .l, 1) := by decide +kernel
theorem d3_7 : decode prog_63_method_1_code 7 = .ok (.ifCond .le 18, 3) := by decide +kernel
theorem d3_10 : decode prog_63_method_1_code 10 = .ok (.aload_n 3, 1) := by decide +kernel
theorem d3_11 : decode prog_63_method_1_code 11 = .ok (.arraylength, 1) := by decide +kernel
theorem d3_12 : decode prog_63_method_1_code 12 = .ok (.bipush 12, 2) := by decide +kernel
theorem d3_14 : decode prog_63_method_1_code 14 = .ok (.if_icmp .lt 11, 3) := by decide +kernel
theorem d3_17 : decode prog_63_method_1_code 17 = .ok (.aload_n 3, 1) := by decide +kernel
theorem d3_18 : decode prog_63_method_1_code 18 = .ok (.arraylength, 1) := by decide +kernel
theorem d3_19 : decode prog_63_method_1_code 19 = .ok (.bipush 6, 2) := by decide +kernel
theorem d3_21 : decode prog_63_method_1_code 21 = .ok (.irem, 1) := by decide +kernel
theorem d3_22 : decode prog_63_method_1_code 22 = .ok (.ifCond .eq 13, 3) := by decide +kernel
theorem d3_35 : decode prog_63_method_1_code 35 = .ok (.aload_n 0, 1) := by decide +kernel
theorem d3_36 : decode prog_63_method_1_code 36 = .ok (.dload_n 1, 1) := by decide +kernel
theorem d3_37 : decode prog_63_method_1_code 37 = .ok (.putfield 16, 3) := by decide +kernel
theorem d3_40 : decode prog_63_method_1_code 40 = .ok (.aload_n 0, 1) := by decide +kernel
theorem d3_41 : decode prog_63_method_1_code 41 = .ok (.aload_n 3, 1) := by decide +kernel
theorem d3_42 : decode prog_63_method_1_code 42 = .ok (.putfield 20, 3) := by decide +kernel
theorem d3_45 : decode prog_63_method_1_code 45 = .ok (.aload_n 0, 1) := by decide +kernel
theorem d3_46 : decode prog_63_method_1_code 46 = .ok (.aload_n 3, 1) := by decide +kernel
theorem d3_47 : decode prog_63_method_1_code 47 = .ok (.arraylength, 1) := by decide +kernel
theorem d3_48 : decode prog_63_method_1_code 48 = .ok (.bipush 6, 2) := by decide +kernel
theorem d3_50 : decode prog_63_method_1_code 50 = .ok (.idiv, 1) := by decide +kernel
theorem d3_51 : decode prog_63_method_1_code 51 = .ok (.putfield 24, 3) := by decide +kernel
theorem d3_54 : decode prog_63_method_1_code 54 = .ok (.return_, 1) := by decide +kernel
theorem pn_3 : plainName "com/example/orbitloom/orbitloom/orbits/Track" = true := by first | (simp [plainName, overriddenIn]; done) | decide +kernel
theorem ef_3 (m : MethodId) (x0 : Addr) (x1 : UInt64) (x2 : Addr) (ka_x2 : ClassId)  : entryFrame m #[(.ref x0), (.double x1), (.ref x2)] 4 = mkF m 0 #[.val (.ref x0), .val (.double x1), .second, .val (.ref x2)] [] := by first | (simp [entryFrame, mkF, argsToLocals, Value.category]; done) | rfl
def Q3 (Z : State) (x0 : Addr) (x1 : UInt64) (x2 : Addr) (ka_x2 : ClassId) (h0 : Heap) (n0 : Nat) (v : Option Value) (h : Heap) (L : List Loc) : Prop := Fr n0 L ∧ Keep h0 h [x0] ∧ ((v = none ∧ Fld Z h x0 "com/example/orbitloom/orbitloom/orbits/Track" "step" "D" (.double x1) ∧ Fld Z h x0 "com/example/orbitloom/orbitloom/orbits/Track" "samples" "[D" (.ref x2) ∧ Fld Z h x0 "com/example/orbitloom/orbitloom/orbits/Track" "size" "I" (.int (3 : Int32)) ∧ Exa Z h x0 "com/example/orbitloom/orbitloom/orbits/Track"))
set_option maxRecDepth 65536 in
set_option maxHeartbeats 40000000 in
theorem rm3 (l : Launch) (Z : State) (a0 : Array Value) (hw : ∀ d ∈ tables_1, d.before a0 Z = true) (ws : List Jvm.Cond) (x0 : Addr) (x1 : UInt64) (x2 : Addr) (ka_x2 : ClassId) (h0 : Heap) (n0 : Nat) (Z0 : n0 ≤ h0.size) (F0_step : Fld Z h0 x0 "com/example/orbitloom/orbitloom/orbits/Track" "step" "D" (.double (0 : UInt64))) (F0_samples : Fld Z h0 x0 "com/example/orbitloom/orbitloom/orbits/Track" "samples" "[D" .null) (F0_size : Fld Z h0 x0 "com/example/orbitloom/orbitloom/orbits/Track" "size" "I" (.int (0 : Int32))) (E_x0 : Exa Z h0 x0 "com/example/orbitloom/orbitloom/orbits/Track") (V_x2 : Arx Z h0 x2 ka_x2 .double (18 : Int32)) (hpos : (0 : Int32) < (cmpValue (FP.dcmp x1 FP.dconst0) .l)) (g_x0 : n0 ≤ x0) (ne_x2_x0 : x2 ≠ x0) :
    MetFree l (⟨"com/example/orbitloom/orbitloom/orbits/Track", "<init>", "(D[D)V"⟩ : MethodName) (head1 (Jvm.Cond.code (⟨"com/example/orbitloom/orbitloom/orbits/Track", "<init>", "(D[D)V"⟩ : MethodName) prog_63_method_1_code 4 none :: ws) ({ frames := 1, cells := 0, slots := 0, locals := 12 } : Room)) (fun a U => a = #[(.ref x0), (.double x1), (.ref x2)] ∧ Z.Warmed39 U.vm ∧ U.heap = h0) (fun _ _ _ _ _ => True) (fun _ U o U' => ∃ v L, o = .returned v ∧ Q3 Z x0 x1 x2 ka_x2 h0 n0 v U'.heap L ∧ FrameEnd U o U' L ({ frames := 1, cells := 0, slots := 0, locals := 12 } : Room).cells ({ frames := 1, cells := 0, slots := 0, locals := 12 } : Room).slots) := by
  refine MetFree.of_bodySF (plainFor_of_name pn_3) hisR ?_
  intro p e s m args below meth c s₁ Bd hml0 hP hK
  obtain ⟨rfl, hZ, hh⟩ := hP
  have w_14 := hw _ (List.mem_of_getElem? (i := 14) rfl)
  have w_19 := hw _ (List.mem_of_getElem? (i := 19) rfl)
  have w_20 := hw _ (List.mem_of_getElem? (i := 20) rfl)
  have w_21 := hw _ (List.mem_of_getElem? (i := 21) rfl)
  have w_22 := hw _ (List.mem_of_getElem? (i := 22) rfl)
  have w_23 := hw _ (List.mem_of_getElem? (i := 23) rfl)
  have w_24 := hw _ (List.mem_of_getElem? (i := 24) rfl)
  have w_25 := hw _ (List.mem_of_getElem? (i := 25) rfl)
  have w_26 := hw _ (List.mem_of_getElem? (i := 26) rfl)
  have w_27 := hw _ (List.mem_of_getElem? (i := 27) rfl)
  have hx := Bd.exec
  have hby := Bd.bytes
  have hml : c.maxLocals = 4 := hml0
  have hown : s.vm.findClass "com/example/orbitloom/orbitloom/orbits/Track" = some m.cls := findClass_of_methodNamed Bd.named
  have hnm := (name_of_methodNamed Bd.named Bd.method).1
  have X0 : Stand p l e ({ frames := 1, cells := 0, slots := 0, locals := 12 } : Room) s m #[(.ref x0), (.double x1), (.ref x2)] below meth c s₁ [] 0 0 := Stand.of_body Bd
  have e0 : s₁.heap = h0 := by rw [← hh, Bd.state]; rfl
  have N0 := Fr.nil n0
  have K0 : Keep h0 h0 [x0] := Keep.refl h0 _
  refine (?_ : Goes p e below s ({ frames := 1, cells := 0, slots := 0, locals := 12 } : Room).cells ({ frames := 1, cells := 0, slots := 0, locals := 12 } : Room).slots (fun v h L => Q3 Z x0 x1 x2 ka_x2 h0 n0 v h L) (s₁.setTop (entryFrame m #[(.ref x0), (.double x1), (.ref x2)] 4)))
  rw [ef_3 m x0 x1 x2 ka_x2 ]
  show Goes _ _ _ _ _ _ _ (s₁.setTop (mkF m 0 #[.val (.ref x0), nD x1, nS, .val (.ref x2)] []))
  refine G1 (fun _ k => XS.aloadN X0.here hx rfl (hb hby d3_0) rfl rfl k) ?_
  obtain ⟨T1, X1, e1, st1⟩ := initO X0 hx hZ hown w_19 w_20 w_21 e0 (g := (mkF m 1 #[.val (.ref x0), nD x1, nS, .val (.ref x2)] [(.ref x0)])) rfl (by rw [hml]; rfl) rfl (hb hby d3_1) (by decide) (W := 0) (by show 2 * 0 + _ ≤ _; exact Nat.le_of_eq rfl) (by decide)
  refine G1 st1 ?_
  show Goes _ _ _ _ _ _ _ (T1.setTop (mkF m 4 _ []))
  refine G1 (fun _ k => XS.dloadN X1.here hx rfl (hb hby d3_4) rfl k) ?_
  refine G1 (fun _ k => XS.dconst0 X1.here hx rfl (hb hby d3_5) rfl k) ?_
  refine G1 (fun _ k => XS.dcmpS X1.here hx rfl (hb hby d3_6) rfl rfl k) ?_
  show Goes _ _ _ _ _ _ _ (T1.setTop (mkF m 7 _ [(.int (cmpValue (FP.dcmp x1 FP.dconst0) .l))]))
  refine G1 (fun _ k => XS.ifNo X1.here hx rfl (hb hby d3_7) rfl ((if0 _ _).trans (tlt hpos).2.2.2) k) ?_
  show Goes _ _ _ _ _ _ _ (T1.setTop (mkF m 10 _ []))
  refine G1 (fun _ k => XS.aloadN X1.here hx rfl (hb hby d3_10) rfl rfl k) ?_
  obtain ⟨cl2, Ar2, q2, S2, P2, G2⟩ := id V_x2
  refine G1 (fun _ k => X1.arraylength hx (by rw [e1]; exact Ar2.1) (State.isArrayOf_alike hZ.alike Ar2.2.1) (g := (mkF m 11 #[.val (.ref x0), nD x1, nS, .val (.ref x2)] [(.ref x2)])) rfl rfl (hb hby d3_11) _ k) ?_
  rw [len_of S2 P2]
  show Goes _ _ _ _ _ _ _ (T1.setTop (mkF m 12 _ [(.int (18 : Int32))]))
  refine G1 (fun _ k => XS.bipush X1.here hx rfl (hb hby d3_12) k) ?_
  refine G1 (fun _ k => XS.icmpNo X1.here hx rfl (hb hby d3_14) rfl (flt (by decide : ¬ ((18 : Int32) < (12 : Int32)))).1 k) ?_
  show Goes _ _ _ _ _ _ _ (T1.setTop (mkF m 17 _ []))
  refine G1 (fun _ k => XS.aloadN X1.here hx rfl (hb hby d3_17) rfl rfl k) ?_
  obtain ⟨cl3, Ar3, q3, S3, P3, G3⟩ := id V_x2
  refine G1 (fun _ k => X1.arraylength hx (by rw [e1]; exact Ar3.1) (State.isArrayOf_alike hZ.alike Ar3.2.1) (g := (mkF m 18 #[.val (.ref x0), nD x1, nS, .val (.ref x2)] [(.ref x2)])) rfl rfl (hb hby d3_18) _ k) ?_
  rw [len_of S3 P3]
  show Goes _ _ _ _ _ _ _ (T1.setTop (mkF m 19 _ [(.int (18 : Int32))]))
  refine G1 (fun _ k => XS.bipush X1.here hx rfl (hb hby d3_19) k) ?_
  refine G1 (fun _ k => iremM X1 hx rfl (hb hby d3_21) rfl (by decide) k) ?_
  show Goes _ _ _ _ _ _ _ (T1.setTop (mkF m 22 #[.val (.ref x0), nD x1, nS, .val (.ref x2)] [(.int (0 : Int32))]))
  refine G1 (fun _ k => XS.ifYes X1.here hx rfl (pc0 := 22) (pc' := 35) rfl (hb hby d3_22) rfl ((if0 _ _).trans (teq (by decide : (0 : Int32) = (0 : Int32))).1) (by decide) (by decide) k) ?_
  show Goes _ _ _ _ _ _ _ (T1.setTop (mkF m 35 _ []))
  refine G1 (fun _ k => XS.aloadN X1.here hx rfl (hb hby d3_35) rfl rfl k) ?_
  refine G1 (fun _ k => XS.dloadN X1.here hx rfl (hb hby d3_36) rfl k) ?_
  obtain ⟨T4, h4, X4, e4, W4, st4⟩ := putF X1 hx hZ hown (host := "") (Or.inl w_22) Via.refl e1 F0_step E_x0 (Or.inr ⟨w_23, rfl, hnm⟩) w_14 (ty := .double) (by decide) rfl rfl (g := (mkF m 37 #[.val (.ref x0), nD x1, nS, .val (.ref x2)] [(.double x1), (.ref x0)])) rfl rfl (hb hby d3_37)
  refine G1 st4 ?_
  have f5 := F0_step.same W4
  have f6 := F0_samples.other W4 (Or.inr (slot_ne (Or.inr w_25) (Or.inr w_23) (by decide) (t := (.array .double)) (t' := .double) (by decide) (by decide)))
  have f7 := F0_size.other W4 (Or.inr (slot_ne (Or.inr w_27) (Or.inr w_23) (by decide) (t := .int) (t' := .double) (by decide) (by decide)))
  have f8 := E_x0.wr W4
  have f9 := V_x2.other W4 ne_x2_x0
  have K10 : Keep h0 h4 [x0] := K0.wr W4 (Or.inl (List.mem_of_getElem? (i := 0) rfl))
  have Z10 : n0 ≤ h4.size := by rw [Wr.size W4]; exact Z0
  have N10 := Fr.snoc X4 N0 g_x0
  show Goes _ _ _ _ _ _ _ (T4.setTop (mkF m 40 _ []))
  refine G1 (fun _ k => XS.aloadN X4.here hx rfl (hb hby d3_40) rfl rfl k) ?_
  refine G1 (fun _ k => XS.aloadN X4.here hx rfl (hb hby d3_41) rfl rfl k) ?_
  obtain ⟨T11, h11, X11, e11, W11, st11⟩ := putF X4 hx hZ hown (host := "") (Or.inl w_24) Via.refl e4 f6 f8 (Or.inr ⟨w_25, rfl, hnm⟩) w_14 (ty := (.array .double)) (by decide) rfl rfl (g := (mkF m 42 #[.val (.ref x0), nD x1, nS, .val (.ref x2)] [(.ref x2), (.ref x0)])) rfl rfl (hb hby d3_42)
  refine G1 st11 ?_
  have f12 := f5.other W11 (Or.inr (slot_ne (Or.inr w_23) (Or.inr w_25) (by decide) (t := .double) (t' := (.array .double)) (by decide) (by decide)))
  have f13 := f6.same W11
  have f14 := f7.other W11 (Or.inr (slot_ne (Or.inr w_27) (Or.inr w_25) (by decide) (t := .int) (t' := (.array .double)) (by decide) (by decide)))
  have f15 := f8.wr W11
  have f16 := f9.other W11 ne_x2_x0
  have K17 : Keep h0 h11 [x0] := K10.wr W11 (Or.inl (List.mem_of_getElem? (i := 0) rfl))
  have Z17 : n0 ≤ h11.size := by rw [Wr.size W11]; exact Z10
  have N17 := Fr.snoc X11 N10 g_x0
  show Goes _ _ _ _ _ _ _ (T11.setTop (mkF m 45 _ []))
  refine G1 (fun _ k => XS.aloadN X11.here hx rfl (hb hby d3_45) rfl rfl k) ?_
  refine G1 (fun _ k => XS.aloadN X11.here hx rfl (hb hby d3_46) rfl rfl k) ?_
  obtain ⟨cl18, Ar18, q18, S18, P18, G18⟩ := id f16
  refine G1 (fun _ k => X11.arraylength hx (by rw [e11]; exact Ar18.1) (State.isArrayOf_alike hZ.alike Ar18.2.1) (g := (mkF m 47 #[.val (.ref x0), nD x1, nS, .val (.ref x2)] [(.ref x2), (.ref x0)])) rfl rfl (hb hby d3_47) _ k) ?_
  rw [len_of S18 P18]
  show Goes _ _ _ _ _ _ _ (T11.setTop (mkF m 48 _ [(.int (18 : Int32)), (.ref x0)]))
  refine G1 (fun _ k => XS.bipush X11.here hx rfl (hb hby d3_48) k) ?_
  refine G1 (fun _ k => XS.idiv X11.here hx rfl (hb hby d3_50) rfl (by decide) k) ?_
  show Goes _ _ _ _ _ _ _ (T11.setTop (mkF m 51 _ [(.int (3 : Int32)), (.ref x0)]))
  obtain ⟨T19, h19, X19, e19, W19, st19⟩ := putF X11 hx hZ hown (host := "") (Or.inl w_26) Via.refl e11 f14 f15 (Or.inr ⟨w_27, rfl, hnm⟩) w_14 (ty := .int) (by decide) rfl rfl (g := (mkF m 51 #[.val (.ref x0), nD x1, nS, .val (.ref x2)] [(.int (3 : Int32)), (.ref x0)])) rfl rfl (hb hby d3_51)
  refine G1 st19 ?_
  have f20 := f12.other W19 (Or.inr (slot_ne (Or.inr w_23) (Or.inr w_27) (by decide) (t := .double) (t' := .int) (by decide) (by decide)))
  have f21 := f13.other W19 (Or.inr (slot_ne (Or.inr w_25) (Or.inr w_27) (by decide) (t := (.array .double)) (t' := .int) (by decide) (by decide)))
  have f22 := f14.same W19
  have f23 := f15.wr W19
  have f24 := f16.other W19 ne_x2_x0
  have K25 : Keep h0 h19 [x0] := K17.wr W19 (Or.inl (List.mem_of_getElem? (i := 0) rfl))
  have Z25 : n0 ≤ h19.size := by rw [Wr.size W19]; exact Z17
  have N25 := Fr.snoc X19 N17 g_x0
  show Goes _ _ _ _ _ _ _ (T19.setTop (mkF m 54 _ []))
  exact Goes.retV X19 hx (BodyLoose.notSynchronized Bd) Bd.returns (hb hby d3_54) (by show Q3 Z x0 x1 x2 ka_x2 h0 n0 none T19.heap _; rw [e19]; exact ⟨N25, K25, ⟨rfl, f20, f21, f22, f23⟩⟩) (by decide) (by decide)
theorem d1_0 : decode method_4_code 0 = .ok (.lload_n 2, 1) := by decide +kernel
theorem d1_1 : decode method_4_code 1 = .ok (.iconst 0, 1) := by decide +kernel
theorem d1_2 : decode method_4_code 2 = .ok (.invokestatic 36, 3) := by decide +kernel
theorem d1_5 : decode method_4_code 5 = .ok (.lstore 6, 2) := by decide +kernel
theorem d1_7 : decode method_4_code 7 = .ok (.lload_n 2, 1) := by decide +kernel
theorem d1_8 : decode method_4_code 8 = .ok (.iconst 1, 1) := by decide +kernel
theorem d1_9 : decode method_4_code 9 = .ok (.invokestatic 36, 3) := by decide +kernel
theorem d1_12 : decode method_4_code 12 = .ok (.lstore 8, 2) := by decide +kernel
theorem d1_14 : decode method_4_code 14 = .ok (.lload_n 2, 1) := by decide +kernel
theorem d1_15 : decode method_4_code 15 = .ok (.iconst 2, 1) := by decide +kernel
theorem d1_16 : decode method_4_code 16 = .ok (.invokestatic 36, 3) := by decide +kernel
theorem d1_19 : decode method_4_code 19 = .ok (.lstore 10, 2) := by decide +kernel
theorem d1_21 : decode method_4_code 21 = .ok (.lload_n 2, 1) := by decide +kernel
theorem d1_22 : decode method_4_code 22 = .ok (.iconst 3, 1) := by decide +kernel
theorem d1_23 : decode method_4_code 23 = .ok (.invokestatic 36, 3) := by decide +kernel
theorem d1_26 : decode method_4_code 26 = .ok (.lstore 12, 2) := by decide +kernel
theorem d1_28 : decode method_4_code 28 = .ok (.lload_n 2, 1) := by decide +kernel
theorem d1_29 : decode method_4_code 29 = .ok (.iconst 4, 1) := by decide +kernel
theorem d1_30 : decode method_4_code 30 = .ok (.invokestatic 36, 3) := by decide +kernel
theorem d1_33 : decode method_4_code 33 = .ok (.lstore 14, 2) := by decide +kernel
theorem d1_35 : decode method_4_code 35 = .ok (.lload_n 2, 1) := by decide +kernel
theorem d1_36 : decode method_4_code 36 = .ok (.iconst 5, 1) := by decide +kernel
theorem d1_37 : decode method_4_code 37 = .ok (.invokestatic 36, 3) := by decide +kernel
theorem d1_40 : decode method_4_code 40 = .ok (.lstore 16, 2) := by decide +kernel
theorem d1_42 : decode method_4_code 42 = .ok (.lload 6, 2) := by decide +kernel
theorem d1_44 : decode method_4_code 44 = .ok (.lstore 18, 2) := by decide +kernel
theorem d1_46 : decode method_4_code 46 = .ok (.lload 8, 2) := by decide +kernel
theorem d1_48 : decode method_4_code 48 = .ok (.lstore 20, 2) := by decide +kernel
theorem d1_50 : decode method_4_code 50 = .ok (.lload 6, 2) := by decide +kernel
theorem d1_52 : decode method_4_code 52 = .ok (.lload 8, 2) := by decide +kernel
theorem d1_54 : decode method_4_code 54 = .ok (.lload 4, 2) := by decide +kernel
theorem d1_56 : decode method_4_code 56 = .ok (.lmul, 1) := by decide +kernel
theorem d1_57 : decode method_4_code 57 = .ok (.ladd, 1) := by decide +kernel
theorem d1_58 : decode method_4_code 58 = .ok (.lload 10, 2) := by decide +kernel
theorem d1_60 : decode method_4_code 60 = .ok (.lload 4, 2) := by decide +kernel
theorem d1_62 : decode method_4_code 62 = .ok (.lmul, 1) := by decide +kernel
theorem d1_63 : decode method_4_code 63 = .ok (.lload 4, 2) := by decide +kernel
theorem d1_65 : decode method_4_code 65 = .ok (.lmul, 1) := by decide +kernel
theorem d1_66 : decode method_4_code 66 = .ok (.ladd, 1) := by decide +kernel
theorem d1_67 : decode method_4_code 67 = .ok (.lload 12, 2) := by decide +kernel
theorem d1_69 : decode method_4_code 69 = .ok (.lload 4, 2) := by decide +kernel
theorem d1_71 : decode method_4_code 71 = .ok (.lmul, 1) := by decide +kernel
theorem d1_72 : decode method_4_code 72 = .ok (.lload 4, 2) := by decide +kernel
theorem d1_74 : decode method_4_code 74 = .ok (.lmul, 1) := by decide +kernel
theorem d1_75 : decode method_4_code 75 = .ok (.lload 4, 2) := by decide +kernel
theorem d1_77 : decode method_4_code 77 = .ok (.lmul, 1) := by decide +kernel
theorem d1_78 : decode method_4_code 78 = .ok (.ladd, 1) := by decide +kernel
theorem d1_79 : decode method_4_code 79 = .ok (.lstore 22, 2) := by decide +kernel
theorem d1_81 : decode method_4_code 81 = .ok (.lload 8, 2) := by decide +kernel
theorem d1_83 : decode method_4_code 83 = .ok (.ldc2_w 40, 3) := by decide +kernel
theorem d1_86 : decode method_4_code 86 = .ok (.lload 10, 2) := by decide +kernel
theorem d1_88 : decode method_4_code 88 = .ok (.lmul, 1) := by decide +kernel
theorem d1_89 : decode method_4_code 89 = .ok (.lload 4, 2) := by decide +kernel
theorem d1_91 : decode method_4_code 91 = .ok (.lmul, 1) := by decide +kernel
theorem d1_92 : decode method_4_code 92 = .ok (.ladd, 1) := by decide +kernel
theorem d1_93 : decode method_4_code 93 = .ok (.ldc2_w 42, 3) := by decide +kernel
theorem d1_96 : decode method_4_code 96 = .ok (.lload 12, 2) := by decide +kernel
theorem d1_98 : decode method_4_code 98 = .ok (.lmul, 1) := by decide +kernel
theorem d1_99 : decode method_4_code 99 = .ok (.lload 4, 2) := by decide +kernel
theorem d1_101 : decode method_4_code 101 = .ok (.lmul, 1) := by decide +kernel
theorem d1_102 : decode method_4_code 102 = .ok (.lload 4, 2) := by decide +kernel
theorem d1_104 : decode method_4_code 104 = .ok (.lmul, 1) := by decide +kernel
theorem d1_105 : decode method_4_code 105 = .ok (.ladd, 1) := by decide +kernel
theorem d1_106 : decode method_4_code 106 = .ok (.lstore 24, 2) := by decide +kernel
theorem d1_108 : decode method_4_code 108 = .ok (.lload 6, 2) := by decide +kernel
theorem d1_110 : decode method_4_code 110 = .ok (.ldc2_w 40, 3) := by decide +kernel
theorem d1_113 : decode method_4_code 113 = .ok (.lload 8, 2) := by decide +kernel
theorem d1_115 : decode method_4_code 115 = .ok (.lmul, 1) := by decide +kernel
theorem d1_116 : decode method_4_code 116 = .ok (.lload 4, 2) := by decide +kernel
theorem d1_118 : decode method_4_code 118 = .ok (.lmul, 1) := by decide +kernel
theorem d1_119 : decode method_4_code 119 = .ok (.ladd, 1) := by decide +kernel
theorem d1_120 : decode method_4_code 120 = .ok (.ldc2_w 44, 3) := by decide +kernel
theorem d1_123 : decode method_4_code 123 = .ok (.lload 10, 2) := by decide +kernel
theorem d1_125 : decode method_4_code 125 = .ok (.lmul, 1) := by decide +kernel
theorem d1_126 : decode method_4_code 126 = .ok (.lload 4, 2) := by decide +kernel
theorem d1_128 : decode method_4_code 128 = .ok (.lmul, 1) := by decide +kernel
theorem d1_129 : decode method_4_code 129 = .ok (.lload 4, 2) := by decide +kernel
theorem d1_131 : decode method_4_code 131 = .ok (.lmul, 1) := by decide +kernel
theorem d1_132 : decode method_4_code 132 = .ok (.ladd, 1) := by decide +kernel
theorem d1_133 : decode method_4_code 133 = .ok (.ldc2_w 46, 3) := by decide +kernel
theorem d1_136 : decode method_4_code 136 = .ok (.lload 12, 2) := by decide +kernel
theorem d1_138 : decode method_4_code 138 = .ok (.lmul, 1) := by decide +kernel
theorem d1_139 : decode method_4_code 139 = .ok (.lload 4, 2) := by decide +kernel
theorem d1_141 : decode method_4_code 141 = .ok (.lmul, 1) := by decide +kernel
theorem d1_142 : decode method_4_code 142 = .ok (.lload 4, 2) := by decide +kernel
theorem d1_144 : decode method_4_code 144 = .ok (.lmul, 1) := by decide +kernel
theorem d1_145 : decode method_4_code 145 = .ok (.lload 4, 2) := by decide +kernel
theorem d1_147 : decode method_4_code 147 = .ok (.lmul, 1) := by decide +kernel
theorem d1_148 : decode method_4_code 148 = .ok (.ladd, 1) := by decide +kernel
theorem d1_149 : decode method_4_code 149 = .ok (.lstore 26, 2) := by decide +kernel
theorem d1_151 : decode method_4_code 151 = .ok (.lload 8, 2) := by decide +kernel
theorem d1_153 : decode method_4_code 153 = .ok (.ldc2_w 44, 3) := by decide +kernel
theorem d1_156 : decode method_4_code 156 = .ok (.lload 10, 2) := by decide +kernel
theorem d1_158 : decode method_4_code 158 = .ok (.lmul, 1) := by decide +kernel
theorem d1_159 : decode method_4_code 159 = .ok (.lload 4, 2) := by decide +kernel
theorem d1_161 : decode method_4_code 161 = .ok (.lmul, 1) := by decide +kernel
theorem d1_162 : decode method_4_code 162 = .ok (.ladd, 1) := by decide +kernel
theorem d1_163 : decode method_4_code 163 = .ok (.ldc2_w 48, 3) := by decide +kernel
theorem d1_166 : decode method_4_code 166 = .ok (.lload 12, 2) := by decide +kernel
theorem d1_168 : decode method_4_code 168 = .ok (.lmul, 1) := by decide +kernel
theorem d1_169 : decode method_4_code 169 = .ok (.lload 4, 2) := by decide +kernel
theorem d1_171 : decode method_4_code 171 = .ok (.lmul, 1) := by decide +kernel
theorem d1_172 : decode method_4_code 172 = .ok (.lload 4, 2) := by decide +kernel
theorem d1_174 : decode method_4_code 174 = .ok (.lmul, 1) := by decide +kernel
theorem d1_175 : decode method_4_code 175 = .ok (.ladd, 1) := by decide +kernel
theorem d1_176 : decode method_4_code 176 = .ok (.lstore 28, 2) := by decide +kernel
theorem d1_178 : decode method_4_code 178 = .ok (.lload 26, 2) := by decide +kernel
theorem d1_180 : decode method_4_code 180 = .ok (.lload 4, 2) := by decide +kernel
theorem d1_182 : decode method_4_code 182 = .ok (.lload 4, 2) := by decide +kernel
theorem d1_184 : decode method_4_code 184 = .ok (.lmul, 1) := by decide +kernel
theorem d1_185 : decode method_4_code 185 = .ok (.lload 14, 2) := by decide +kernel
theorem d1_187 : decode method_4_code 187 = .ok (.lload 16, 2) := by decide +kernel
theorem d1_189 : decode method_4_code 189 = .ok (.lload 4, 2) := by decide +kernel
theorem d1_191 : decode method_4_code 191 = .ok (.lmul, 1) := by decide +kernel
theorem d1_192 : decode method_4_code 192 = .ok (.ladd, 1) := by decide +kernel
theorem d1_193 : decode method_4_code 193 = .ok (.lmul, 1) := by decide +kernel
theorem d1_194 : decode method_4_code 194 = .ok (.ladd, 1) := by decide +kernel
theorem d1_195 : decode method_4_code 195 = .ok (.lstore 30, 2) := by decide +kernel
theorem d1_197 : decode method_4_code 197 = .ok (.lload 28, 2) := by decide +kernel
theorem d1_199 : decode method_4_code 199 = .ok (.ldc2_w 40, 3) := by decide +kernel
theorem d1_202 : decode method_4_code 202 = .ok (.lload 4, 2) := by decide +kernel
theorem d1_204 : decode method_4_code 204 = .ok (.lmul, 1) := by decide +kernel
theorem d1_205 : decode method_4_code 205 = .ok (.lload 14, 2) := by decide +kernel
theorem d1_207 : decode method_4_code 207 = .ok (.lmul, 1) := by decide +kernel
theorem d1_208 : decode method_4_code 208 = .ok (.ladd, 1) := by decide +kernel
theorem d1_209 : decode method_4_code 209 = .ok (.ldc2_w 42, 3) := by decide +kernel
theorem d1_212 : decode method_4_code 212 = .ok (.lload 16, 2) := by decide +kernel
theorem d1_214 : decode method_4_code 214 = .ok (.lmul, 1) := by decide +kernel
theorem d1_215 : decode method_4_code 215 = .ok (.lload 4, 2) := by decide +kernel
theorem d1_217 : decode method_4_code 217 = .ok (.lmul, 1) := by decide +kernel
theorem d1_218 : decode method_4_code 218 = .ok (.lload 4, 2) := by decide +kernel
theorem d1_220 : decode method_4_code 220 = .ok (.lmul, 1) := by decide +kernel
theorem d1_221 : decode method_4_code 221 = .ok (.ladd, 1) := by decide +kernel
theorem d1_222 : decode method_4_code 222 = .ok (.lstore 32, 2) := by decide +kernel
theorem d1_224 : decode method_4_code 224 = .ok (.aload_n 0, 1) := by decide +kernel
theorem d1_225 : decode method_4_code 225 = .ok (.iload_n 1, 1) := by decide +kernel
theorem d1_226 : decode method_4_code 226 = .ok (.lload 18, 2) := by decide +kernel
theorem d1_228 : decode method_4_code 228 = .ok (.l2d, 1) := by decide +kernel
theorem d1_229 : decode method_4_code 229 = .ok (.dastore, 1) := by decide +kernel
theorem d1_230 : decode method_4_code 230 = .ok (.aload_n 0, 1) := by decide +kernel
theorem d1_231 : decode method_4_code 231 = .ok (.iconst 3, 1) := by decide +kernel
theorem d1_232 : decode method_4_code 232 = .ok (.iload_n 1, 1) := by decide +kernel
theorem d1_233 : decode method_4_code 233 = .ok (.iadd, 1) := by decide +kernel
theorem d1_234 : decode method_4_code 234 = .ok (.lload 20, 2) := by decide +kernel
theorem d1_236 : decode method_4_code 236 = .ok (.l2d, 1) := by decide +kernel
theorem d1_237 : decode method_4_code 237 = .ok (.dastore, 1) := by decide +kernel
theorem d1_238 : decode method_4_code 238 = .ok (.aload_n 0, 1) := by decide +kernel
theorem d1_239 : decode method_4_code 239 = .ok (.bipush 6, 2) := by decide +kernel
theorem d1_241 : decode method_4_code 241 = .ok (.iload_n 1, 1) := by decide +kernel
theorem d1_242 : decode method_4_code 242 = .ok (.iadd, 1) := by decide +kernel
theorem d1_243 : decode method_4_code 243 = .ok (.lload 22, 2) := by decide +kernel
theorem d1_245 : decode method_4_code 245 = .ok (.l2d, 1) := by decide +kernel
theorem d1_246 : decode method_4_code 246 = .ok (.dastore, 1) := by decide +kernel
theorem d1_247 : decode method_4_code 247 = .ok (.aload_n 0, 1) := by decide +kernel
theorem d1_248 : decode method_4_code 248 = .ok (.bipush 9, 2) := by decide +kernel
theorem d1_250 : decode method_4_code 250 = .ok (.iload_n 1, 1) := by decide +kernel
theorem d1_251 : decode method_4_code 251 = .ok (.iadd, 1) := by decide +kernel
theorem d1_252 : decode method_4_code 252 = .ok (.lload 24, 2) := by decide +kernel
theorem d1_254 : decode method_4_code 254 = .ok (.l2d, 1) := by decide +kernel
theorem d1_255 : decode method_4_code 255 = .ok (.dastore, 1) := by decide +kernel
theorem d1_256 : decode method_4_code 256 = .ok (.aload_n 0, 1) := by decide +kernel
theorem d1_257 : decode method_4_code 257 = .ok (.bipush 12, 2) := by decide +kernel
theorem d1_259 : decode method_4_code 259 = .ok (.iload_n 1, 1) := by decide +kernel
theorem d1_260 : decode method_4_code 260 = .ok (.iadd, 1) := by decide +kernel
theorem d1_261 : decode method_4_code 261 = .ok (.lload 30, 2) := by decide +kernel
theorem d1_263 : decode method_4_code 263 = .ok (.l2d, 1) := by decide +kernel
theorem d1_264 : decode method_4_code 264 = .ok (.dastore, 1) := by decide +kernel
theorem d1_265 : decode method_4_code 265 = .ok (.aload_n 0, 1) := by decide +kernel
theorem d1_266 : decode method_4_code 266 = .ok (.bipush 15, 2) := by decide +kernel
theorem d1_268 : decode method_4_code 268 = .ok (.iload_n 1, 1) := by decide +kernel
theorem d1_269 : decode method_4_code 269 = .ok (.iadd, 1) := by decide +kernel
theorem d1_270 : decode method_4_code 270 = .ok (.lload 32, 2) := by decide +kernel
theorem d1_272 : decode method_4_code 272 = .ok (.l2d, 1) := by decide +kernel
theorem d1_273 : decode method_4_code 273 = .ok (.dastore, 1) := by decide +kernel
theorem d1_274 : decode method_4_code 274 = .ok (.return_, 1) := by decide +kernel
theorem pn_1 : plainName "com/example/orbitloom/orbitloom/orbits/TrackAtPinLaw" = true := by first | (simp [plainName, overriddenIn]; done) | decide +kernel
theorem ef_1_0 (m : MethodId) (x0 : Addr) (x2 : Int64) (x3 : Int64) (ka : ClassId) (ve0 : UInt64) (ve1 : UInt64) (ve2 : UInt64) (ve3 : UInt64) (ve4 : UInt64) (ve5 : UInt64) (ve6 : UInt64) (ve7 : UInt64) (ve8 : UInt64) (ve9 : UInt64) (ve10 : UInt64) (ve11 : UInt64) (ve12 : UInt64) (ve13 : UInt64) (ve14 : UInt64) (ve15 : UInt64) (ve16 : UInt64) (ve17 : UInt64)  : entryFrame m #[(.ref x0), (.int (0 : Int32)), (.long x2), (.long x3)] 34 = mkF m 0 #[.val (.ref x0), .val (.int (0 : Int32)), .val (.long x2), .second, .val (.long x3), .second, .unset, .unset, .unset, .unset, .unset, .unset, .unset, .unset, .unset, .unset, .unset, .unset, .unset, .unset, .unset, .unset, .unset, .unset, .unset, .unset, .unset, .unset, .unset, .unset, .unset, .unset, .unset, .unset] [] := by first | (simp [entryFrame, mkF, argsToLocals, Value.category]; done) | rfl
theorem pd_1 : parseMethodDescriptor "(JI)J" = some ⟨[.long, .int], some .long⟩ := by decide +kernel
def Q1_0 (Z : State) (x0 : Addr) (x2 : Int64) (x3 : Int64) (ka : ClassId) (ve0 : UInt64) (ve1 : UInt64) (ve2 : UInt64) (ve3 : UInt64) (ve4 : UInt64) (ve5 : UInt64) (ve6 : UInt64) (ve7 : UInt64) (ve8 : UInt64) (ve9 : UInt64) (ve10 : UInt64) (ve11 : UInt64) (ve12 : UInt64) (ve13 : UInt64) (ve14 : UInt64) (ve15 : UInt64) (ve16 : UInt64) (ve17 : UInt64) (h0 : Heap) (n0 : Nat) (v : Option Value) (h : Heap) (L : List Loc) : Prop := Fr n0 L ∧ Keep h0 h [x0] ∧ v = none ∧ ∃ (q0 q1 q2 q3 q4 q5 : UInt64) (vP0 vP1 vP2 vP3 vP4 vP5 : Int), Arv Z h x0 ka .double (18 : Int32) [(.double q0), (.double ve1), (.double ve2), (.double q1), (.double ve4), (.double ve5), (.double q2), (.double ve7), (.double ve8), (.double q3), (.double ve10), (.double ve11), (.double q4), (.double ve13), (.double ve14), (.double q5), (.double ve16), (.double ve17)] (.double (0 : UInt64)) ∧ vP0 = (own_co x2 (0 : Int32)).toInt ∧ OwnF.Fr 0 vP0 512 q0 ∧ vP1 = (own_co x2 (1 : Int32)).toInt ∧ OwnF.Fr 0 vP1 512 q1 ∧ vP2 = ((((own_co x2 (0 : Int32)).toInt + ((own_co x2 (1 : Int32)).toInt * x3.toInt)) + (((own_co x2 (2 : Int32)).toInt * x3.toInt) * x3.toInt)) + ((((own_co x2 (3 : Int32)).toInt * x3.toInt) * x3.toInt) * x3.toInt)) ∧ OwnF.Fr 0 vP2 2236928 q2 ∧ vP3 = (((own_co x2 (1 : Int32)).toInt + (((2 : Int) * (own_co x2 (2 : Int32)).toInt) * x3.toInt)) + ((((3 : Int) * (own_co x2 (3 : Int32)).toInt) * x3.toInt) * x3.toInt)) ∧ OwnF.Fr 0 vP3 410112 q3 ∧ vP4 = (((((own_co x2 (0 : Int32)).toInt + (((2 : Int) * (own_co x2 (1 : Int32)).toInt) * x3.toInt)) + ((((4 : Int) * (own_co x2 (2 : Int32)).toInt) * x3.toInt) * x3.toInt)) + (((((8 : Int) * (own_co x2 (3 : Int32)).toInt) * x3.toInt) * x3.toInt) * x3.toInt)) + ((x3.toInt * x3.toInt) * ((own_co x2 (4 : Int32)).toInt + ((own_co x2 (5 : Int32)).toInt * x3.toInt)))) ∧ OwnF.Fr 0 vP4 19546624 q4 ∧ vP5 = (((((own_co x2 (1 : Int32)).toInt + (((4 : Int) * (own_co x2 (2 : Int32)).toInt) * x3.toInt)) + ((((12 : Int) * (own_co x2 (3 : Int32)).toInt) * x3.toInt) * x3.toInt)) + (((2 : Int) * x3.toInt) * (own_co x2 (4 : Int32)).toInt)) + ((((3 : Int) * (own_co x2 (5 : Int32)).toInt) * x3.toInt) * x3.toInt)) ∧ OwnF.Fr 0 vP5 2015744 q5
set_option maxRecDepth 65536 in
set_option maxHeartbeats 40000000 in
theorem rm1_0 (l : Launch) (Z : State) (a0 : Array Value) (hw : ∀ d ∈ tables_1, d.before a0 Z = true) (ws : List Jvm.Cond) (x0 : Addr) (x2 : Int64) (x3 : Int64) (ka : ClassId) (ve0 : UInt64) (ve1 : UInt64) (ve2 : UInt64) (ve3 : UInt64) (ve4 : UInt64) (ve5 : UInt64) (ve6 : UInt64) (ve7 : UInt64) (ve8 : UInt64) (ve9 : UInt64) (ve10 : UInt64) (ve11 : UInt64) (ve12 : UInt64) (ve13 : UInt64) (ve14 : UInt64) (ve15 : UInt64) (ve16 : UInt64) (ve17 : UInt64) (h0 : Heap) (n0 : Nat) (Z0 : n0 ≤ h0.size) (V_x0 : Arv Z h0 x0 ka .double (18 : Int32) [(.double ve0), (.double ve1), (.double ve2), (.double ve3), (.double ve4), (.double ve5), (.double ve6), (.double ve7), (.double ve8), (.double ve9), (.double ve10), (.double ve11), (.double ve12), (.double ve13), (.double ve14), (.double ve15), (.double ve16), (.double ve17)] (.double (0 : UInt64))) (g_x0 : n0 ≤ x0) (hs : own_L x3 x3.toInt 16) :
    MetFree l (⟨"com/example/orbitloom/orbitloom/orbits/TrackAtPinLaw", "fill", "([DIJJ)V"⟩ : MethodName) (head1 (Jvm.Cond.code (⟨"com/example/orbitloom/orbitloom/orbits/TrackAtPinLaw", "fill", "([DIJJ)V"⟩ : MethodName) method_4_code 34 none :: ws) ({ frames := 1, cells := 0, slots := 0, locals := 14 } : Room)) (fun a U => a = #[(.ref x0), (.int (0 : Int32)), (.long x2), (.long x3)] ∧ Z.Warmed39 U.vm ∧ U.heap = h0) (fun _ _ _ _ _ => True) (fun _ U o U' => ∃ v L, o = .returned v ∧ Q1_0 Z x0 x2 x3 ka ve0 ve1 ve2 ve3 ve4 ve5 ve6 ve7 ve8 ve9 ve10 ve11 ve12 ve13 ve14 ve15 ve16 ve17 h0 n0 v U'.heap L ∧ FrameEnd U o U' L ({ frames := 1, cells := 0, slots := 0, locals := 14 } : Room).cells ({ frames := 1, cells := 0, slots := 0, locals := 14 } : Room).slots) := by
  refine MetFree.of_bodySF (plainFor_of_name pn_1) hisR ?_
  intro p e s m args below meth c s₁ Bd hml0 hP hK
  obtain ⟨rfl, hZ, hh⟩ := hP
  have w_3 := hw _ (List.mem_of_getElem? (i := 3) rfl)
  have w_5 := hw _ (List.mem_of_getElem? (i := 5) rfl)
  have w_6 := hw _ (List.mem_of_getElem? (i := 6) rfl)
  have w_7 := hw _ (List.mem_of_getElem? (i := 7) rfl)
  have w_8 := hw _ (List.mem_of_getElem? (i := 8) rfl)
  have w_9 := hw _ (List.mem_of_getElem? (i := 9) rfl)
  have w_10 := hw _ (List.mem_of_getElem? (i := 10) rfl)
  have w_11 := hw _ (List.mem_of_getElem? (i := 11) rfl)
  have w_12 := hw _ (List.mem_of_getElem? (i := 12) rfl)
  have hx := Bd.exec
  have hby := Bd.bytes
  have hml : c.maxLocals = 34 := hml0
  have hown : s.vm.findClass "com/example/orbitloom/orbitloom/orbits/TrackAtPinLaw" = some m.cls := findClass_of_methodNamed Bd.named
  have hnm := (name_of_methodNamed Bd.named Bd.method).1
  have X0 : Stand p l e ({ frames := 1, cells := 0, slots := 0, locals := 14 } : Room) s m #[(.ref x0), (.int (0 : Int32)), (.long x2), (.long x3)] below meth c s₁ [] 0 0 := Stand.of_body Bd
  have e0 : s₁.heap = h0 := by rw [← hh, Bd.state]; rfl
  have N0 := Fr.nil n0
  have K0 : Keep h0 h0 [x0] := Keep.refl h0 _
  refine (?_ : Goes p e below s ({ frames := 1, cells := 0, slots := 0, locals := 14 } : Room).cells ({ frames := 1, cells := 0, slots := 0, locals := 14 } : Room).slots (fun v h L => Q1_0 Z x0 x2 x3 ka ve0 ve1 ve2 ve3 ve4 ve5 ve6 ve7 ve8 ve9 ve10 ve11 ve12 ve13 ve14 ve15 ve16 ve17 h0 n0 v h L) (s₁.setTop (entryFrame m #[(.ref x0), (.int (0 : Int32)), (.long x2), (.long x3)] 34)))
  rw [ef_1_0 m x0 x2 x3 ka ve0 ve1 ve2 ve3 ve4 ve5 ve6 ve7 ve8 ve9 ve10 ve11 ve12 ve13 ve14 ve15 ve16 ve17 ]
  show Goes _ _ _ _ _ _ _ (s₁.setTop (mkF m 0 #[.val (.ref x0), .val (.int (0 : Int32)), .val (.long x2), nS, .val (.long x3), nS, nU, nU, nU, nU, nU, nU, nU, nU, nU, nU, nU, nU, nU, nU, nU, nU, nU, nU, nU, nU, nU, nU, nU, nU, nU, nU, nU, nU] []))
  refine G1 (fun _ k => XS.lloadN X0.here hx rfl (hb hby d1_0) rfl  k) ?_
  refine G1 (fun _ k => XS.iconst X0.here hx rfl (hb hby d1_1) k) ?_
  obtain ⟨_, _, ⟨T1, L1, k1, n1⟩, -, X1, ⟨Lc1, hQ1, l1, y1, z1⟩, st1⟩ := Jvm.LawKit.callS X0 hx (y := (⟨"com/example/orbitloom/orbitloom/orbits/TrackAtPinLaw", "co", "(JI)J"⟩ : MethodName)) hown (mvT hZ w_5) (mvT hZ w_6) (mvT hZ w_3) (mvT hZ w_7) (by decide) (backOf (W := 0) (rm2 l Z a0 hw [] x2 (0 : Int32) h0 n0 Z0) hZ w_7 w_3 (by decide) (by decide)) (g := (mkF m 2 #[.val (.ref x0), .val (.int (0 : Int32)), .val (.long x2), nS, .val (.long x3), nS, nU, nU, nU, nU, nU, nU, nU, nU, nU, nU, nU, nU, nU, nU, nU, nU, nU, nU, nU, nU, nU, nU, nU, nU, nU, nU, nU, nU] [(.int (0 : Int32)), (.long x2)])) rfl (by rw [hml]; rfl) (argsL := [(.long x2), (.int (0 : Int32))]) (rest := []) (lenOf pd_1 rfl) rfl (by show 2 * 0 + _ ≤ _; exact Nat.le_of_eq rfl) (hb hby d1_2) (fun _ _ => ⟨rfl, e0, (by decide : 0 + 0 ≤ _), (by decide : 0 + 0 ≤ _)⟩)
  dsimp only [Pt.U, Pt.locs, Pt.cells, Pt.slots] at X1 l1 y1 z1 st1 hQ1
  rw [l1, y1, z1] at X1
  obtain ⟨N1, eh1, hR1⟩ := hQ1
  have NA1 := Fr.app N0 N1
  obtain rfl := hR1
  refine G1 st1 ?_
  show Goes _ _ _ _ _ _ _ (T1.setTop (mkF m 5 _ [(.long (own_co x2 (0 : Int32)))]))
  refine G1 (fun _ k => XS.lstore X1.here hx rfl (hb hby d1_5) rfl (l' := #[.val (.ref x0), .val (.int (0 : Int32)), .val (.long x2), nS, .val (.long x3), nS, .val (.long (own_co x2 (0 : Int32))), nS, nU, nU, nU, nU, nU, nU, nU, nU, nU, nU, nU, nU, nU, nU, nU, nU, nU, nU, nU, nU, nU, nU, nU, nU, nU, nU]) rfl k) ?_
  show Goes _ _ _ _ _ _ _ (T1.setTop (mkF m 7 _ []))
  refine G1 (fun _ k => XS.lloadN X1.here hx rfl (hb hby d1_7) rfl  k) ?_
  refine G1 (fun _ k => XS.iconst X1.here hx rfl (hb hby d1_8) k) ?_
  obtain ⟨_, _, ⟨T2, L2, k2, n2⟩, -, X2, ⟨Lc2, hQ2, l2, y2, z2⟩, st2⟩ := Jvm.LawKit.callS X1 hx (y := (⟨"com/example/orbitloom/orbitloom/orbits/TrackAtPinLaw", "co", "(JI)J"⟩ : MethodName)) hown (mvT hZ w_5) (mvT hZ w_6) (mvT hZ w_3) (mvT hZ w_7) (by decide) (backOf (W := 0) (rm2 l Z a0 hw [] x2 (1 : Int32) h0 n0 Z0) hZ w_7 w_3 (by decide) (by decide)) (g := (mkF m 9 #[.val (.ref x0), .val (.int (0 : Int32)), .val (.long x2), nS, .val (.long x3), nS, .val (.long (own_co x2 (0 : Int32))), nS, nU, nU, nU, nU, nU, nU, nU, nU, nU, nU, nU, nU, nU, nU, nU, nU, nU, nU, nU, nU, nU, nU, nU, nU, nU, nU] [(.int (1 : Int32)), (.long x2)])) rfl (by rw [hml]; rfl) (argsL := [(.long x2), (.int (1 : Int32))]) (rest := []) (lenOf pd_1 rfl) rfl (by show 2 * 0 + _ ≤ _; exact Nat.le_of_eq rfl) (hb hby d1_9) (fun _ _ => ⟨rfl, eh1, (by decide : 0 + 0 ≤ _), (by decide : 0 + 0 ≤ _)⟩)
  dsimp only [Pt.U, Pt.locs, Pt.cells, Pt.slots] at X2 l2 y2 z2 st2 hQ2
  rw [l2, y2, z2] at X2
  obtain ⟨N2, eh2, hR2⟩ := hQ2
  have NA2 := Fr.app NA1 N2
  obtain rfl := hR2
  refine G1 st2 ?_
  show Goes _ _ _ _ _ _ _ (T2.setTop (mkF m 12 _ [(.long (own_co x2 (1 : Int32)))]))
  refine G1 (fun _ k => XS.lstore X2.here hx rfl (hb hby d1_12) rfl (l' := #[.val (.ref x0), .val (.int (0 : Int32)), .val (.long x2), nS, .val (.long x3), nS, .val (.long (own_co x2 (0 : Int32))), nS, .val (.long (own_co x2 (1 : Int32))), nS, nU, nU, nU, nU, nU, nU, nU, nU, nU, nU, nU, nU, nU, nU, nU, nU, nU, nU, nU, nU, nU, nU, nU, nU]) rfl k) ?_
  show Goes _ _ _ _ _ _ _ (T2.setTop (mkF m 14 _ []))
  refine G1 (fun _ k => XS.lloadN X2.here hx rfl (hb hby d1_14) rfl  k) ?_
  refine G1 (fun _ k => XS.iconst X2.here hx rfl (hb hby d1_15) k) ?_
  obtain ⟨_, _, ⟨T3, L3, k3, n3⟩, -, X3, ⟨Lc3, hQ3, l3, y3, z3⟩, st3⟩ := Jvm.LawKit.callS X2 hx (y := (⟨"com/example/orbitloom/orbitloom/orbits/TrackAtPinLaw", "co", "(JI)J"⟩ : MethodName)) hown (mvT hZ w_5) (mvT hZ w_6) (mvT hZ w_3) (mvT hZ w_7) (by decide) (backOf (W := 0) (rm2 l Z a0 hw [] x2 (2 : Int32) h0 n0 Z0) hZ w_7 w_3 (by decide) (by decide)) (g := (mkF m 16 #[.val (.ref x0), .val (.int (0 : Int32)), .val (.long x2), nS, .val (.long x3), nS, .val (.long (own_co x2 (0 : Int32))), nS, .val (.long (own_co x2 (1 : Int32))), nS, nU, nU, nU, nU, nU, nU, nU, nU, nU, nU, nU, nU, nU, nU, nU, nU, nU, nU, nU, nU, nU, nU, nU, nU] [(.int (2 : Int32)), (.long x2)])) rfl (by rw [hml]; rfl) (argsL := [(.long x2), (.int (2 : Int32))]) (rest := []) (lenOf pd_1 rfl) rfl (by show 2 * 0 + _ ≤ _; exact Nat.le_of_eq rfl) (hb hby d1_16) (fun _ _ => ⟨rfl, eh2, (by decide : 0 + 0 ≤ _), (by decide : 0 + 0 ≤ _)⟩)
  dsimp only [Pt.U, Pt.locs, Pt.cells, Pt.slots] at X3 l3 y3 z3 st3 hQ3
  rw [l3, y3, z3] at X3
  obtain ⟨N3, eh3, hR3⟩ := hQ3
  have NA3 := Fr.app NA2 N3
  obtain rfl := hR3
  refine G1 st3 ?_
  show Goes _ _ _ _ _ _ _ (T3.setTop (mkF m 19 _ [(.long (own_co x2 (2 : Int32)))]))
  refine G1 (fun _ k => XS.lstore X3.here hx rfl (hb hby d1_19) rfl (l' := #[.val (.ref x0), .val (.int (0 : Int32)), .val (.long x2), nS, .val (.long x3), nS, .val (.long (own_co x2 (0 : Int32))), nS, .val (.long (own_co x2 (1 : Int32))), nS, .val (.long (own_co x2 (2 : Int32))), nS, nU, nU, nU, nU, nU, nU, nU, nU, nU, nU, nU, nU, nU, nU, nU, nU, nU, nU, nU, nU, nU, nU]) rfl k) ?_
  show Goes _ _ _ _ _ _ _ (T3.setTop (mkF m 21 _ []))
  refine G1 (fun _ k => XS.lloadN X3.here hx rfl (hb hby d1_21) rfl  k) ?_
  refine G1 (fun _ k => XS.iconst X3.here hx rfl (hb hby d1_22) k) ?_
  obtain ⟨_, _, ⟨T4, L4, k4, n4⟩, -, X4, ⟨Lc4, hQ4, l4, y4, z4⟩, st4⟩ := Jvm.LawKit.callS X3 hx (y := (⟨"com/example/orbitloom/orbitloom/orbits/TrackAtPinLaw", "co", "(JI)J"⟩ : MethodName)) hown (mvT hZ w_5) (mvT hZ w_6) (mvT hZ w_3) (mvT hZ w_7) (by decide) (backOf (W := 0) (rm2 l Z a0 hw [] x2 (3 : Int32) h0 n0 Z0) hZ w_7 w_3 (by decide) (by decide)) (g := (mkF m 23 #[.val (.ref x0), .val (.int (0 : Int32)), .val (.long x2), nS, .val (.long x3), nS, .val (.long (own_co x2 (0 : Int32))), nS, .val (.long (own_co x2 (1 : Int32))), nS, .val (.long (own_co x2 (2 : Int32))), nS, nU, nU, nU, nU, nU, nU, nU, nU, nU, nU, nU, nU, nU, nU, nU, nU, nU, nU, nU, nU, nU, nU] [(.int (3 : Int32)), (.long x2)])) rfl (by rw [hml]; rfl) (argsL := [(.long x2), (.int (3 : Int32))]) (rest := []) (lenOf pd_1 rfl) rfl (by show 2 * 0 + _ ≤ _; exact Nat.le_of_eq rfl) (hb hby d1_23) (fun _ _ => ⟨rfl, eh3, (by decide : 0 + 0 ≤ _), (by decide : 0 + 0 ≤ _)⟩)
  dsimp only [Pt.U, Pt.locs, Pt.cells, Pt.slots] at X4 l4 y4 z4 st4 hQ4
  rw [l4, y4, z4] at X4
  obtain ⟨N4, eh4, hR4⟩ := hQ4
  have NA4 := Fr.app NA3 N4
  obtain rfl := hR4
  refine G1 st4 ?_
  show Goes _ _ _ _ _ _ _ (T4.setTop (mkF m 26 #[.val (.ref x0), .val (.int (0 : Int32)), .val (.long x2), nS, .val (.long x3), nS, .val (.long (own_co x2 (0 : Int32))), nS, .val (.long (own_co x2 (1 : Int32))), nS, .val (.long (own_co x2 (2 : Int32))), nS, nU, nU, nU, nU, nU, nU, nU, nU, nU, nU, nU, nU, nU, nU, nU, nU, nU, nU, nU, nU, nU, nU] [(.long (own_co x2 (3 : Int32)))]))
  refine G1 (fun _ k => XS.lstore X4.here hx rfl (hb hby d1_26) rfl (l' := #[.val (.ref x0), .val (.int (0 : Int32)), .val (.long x2), nS, .val (.long x3), nS, .val (.long (own_co x2 (0 : Int32))), nS, .val (.long (own_co x2 (1 : Int32))), nS, .val (.long (own_co x2 (2 : Int32))), nS, .val (.long (own_co x2 (3 : Int32))), nS, nU, nU, nU, nU, nU, nU, nU, nU, nU, nU, nU, nU, nU, nU, nU, nU, nU, nU, nU, nU]) rfl k) ?_
  show Goes _ _ _ _ _ _ _ (T4.setTop (mkF m 28 _ []))
  refine G1 (fun _ k => XS.lloadN X4.here hx rfl (hb hby d1_28) rfl  k) ?_
  refine G1 (fun _ k => XS.iconst X4.here hx rfl (hb hby d1_29) k) ?_
  obtain ⟨_, _, ⟨T5, L5, k5, n5⟩, -, X5, ⟨Lc5, hQ5, l5, y5, z5⟩, st5⟩ := Jvm.LawKit.callS X4 hx (y := (⟨"com/example/orbitloom/orbitloom/orbits/TrackAtPinLaw", "co", "(JI)J"⟩ : MethodName)) hown (mvT hZ w_5) (mvT hZ w_6) (mvT hZ w_3) (mvT hZ w_7) (by decide) (backOf (W := 0) (rm2 l Z a0 hw [] x2 (4 : Int32) h0 n0 Z0) hZ w_7 w_3 (by decide) (by decide)) (g := (mkF m 30 #[.val (.ref x0), .val (.int (0 : Int32)), .val (.long x2), nS, .val (.long x3), nS, .val (.long (own_co x2 (0 : Int32))), nS, .val (.long (own_co x2 (1 : Int32))), nS, .val (.long (own_co x2 (2 : Int32))), nS, .val (.long (own_co x2 (3 : Int32))), nS, nU, nU, nU, nU, nU, nU, nU, nU, nU, nU, nU, nU, nU, nU, nU, nU, nU, nU, nU, nU] [(.int (4 : Int32)), (.long x2)])) rfl (by rw [hml]; rfl) (argsL := [(.long x2), (.int (4 : Int32))]) (rest := []) (lenOf pd_1 rfl) rfl (by show 2 * 0 + _ ≤ _; exact Nat.le_of_eq rfl) (hb hby d1_30) (fun _ _ => ⟨rfl, eh4, (by decide : 0 + 0 ≤ _), (by decide : 0 + 0 ≤ _)⟩)
  dsimp only [Pt.U, Pt.locs, Pt.cells, Pt.slots] at X5 l5 y5 z5 st5 hQ5
  rw [l5, y5, z5] at X5
  obtain ⟨N5, eh5, hR5⟩ := hQ5
  have NA5 := Fr.app NA4 N5
  obtain rfl := hR5
  refine G1 st5 ?_
  show Goes _ _ _ _ _ _ _ (T5.setTop (mkF m 33 _ [(.long (own_co x2 (4 : Int32)))]))
  refine G1 (fun _ k => XS.lstore X5.here hx rfl (hb hby d1_33) rfl (l' := #[.val (.ref x0), .val (.int (0 : Int32)), .val (.long x2), nS, .val (.long x3), nS, .val (.long (own_co x2 (0 : Int32))), nS, .val (.long (own_co x2 (1 : Int32))), nS, .val (.long (own_co x2 (2 : Int32))), nS, .val (.long (own_co x2 (3 : Int32))), nS, .val (.long (own_co x2 (4 : Int32))), nS, nU, nU, nU, nU, nU, nU, nU, nU, nU, nU, nU, nU, nU, nU, nU, nU, nU, nU]) rfl k) ?_
  show Goes _ _ _ _ _ _ _ (T5.setTop (mkF m 35 _ []))
  refine G1 (fun _ k => XS.lloadN X5.here hx rfl (hb hby d1_35) rfl  k) ?_
  refine G1 (fun _ k => XS.iconst X5.here hx rfl (hb hby d1_36) k) ?_
  obtain ⟨_, _, ⟨T6, L6, k6, n6⟩, -, X6, ⟨Lc6, hQ6, l6, y6, z6⟩, st6⟩ := Jvm.LawKit.callS X5 hx (y := (⟨"com/example/orbitloom/orbitloom/orbits/TrackAtPinLaw", "co", "(JI)J"⟩ : MethodName)) hown (mvT hZ w_5) (mvT hZ w_6) (mvT hZ w_3) (mvT hZ w_7) (by decide) (backOf (W := 0) (rm2 l Z a0 hw [] x2 (5 : Int32) h0 n0 Z0) hZ w_7 w_3 (by decide) (by decide)) (g := (mkF m 37 #[.val (.ref x0), .val (.int (0 : Int32)), .val (.long x2), nS, .val (.long x3), nS, .val (.long (own_co x2 (0 : Int32))), nS, .val (.long (own_co x2 (1 : Int32))), nS, .val (.long (own_co x2 (2 : Int32))), nS, .val (.long (own_co x2 (3 : Int32))), nS, .val (.long (own_co x2 (4 : Int32))), nS, nU, nU, nU, nU, nU, nU, nU, nU, nU, nU, nU, nU, nU, nU, nU, nU, nU, nU] [(.int (5 : Int32)), (.long x2)])) rfl (by rw [hml]; rfl) (argsL := [(.long x2), (.int (5 : Int32))]) (rest := []) (lenOf pd_1 rfl) rfl (by show 2 * 0 + _ ≤ _; exact Nat.le_of_eq rfl) (hb hby d1_37) (fun _ _ => ⟨rfl, eh5, (by decide : 0 + 0 ≤ _), (by decide : 0 + 0 ≤ _)⟩)
  dsimp only [Pt.U, Pt.locs, Pt.cells, Pt.slots] at X6 l6 y6 z6 st6 hQ6
  rw [l6, y6, z6] at X6
  obtain ⟨N6, eh6, hR6⟩ := hQ6
  have NA6 := Fr.app NA5 N6
  obtain rfl := hR6
  refine G1 st6 ?_
  show Goes _ _ _ _ _ _ _ (T6.setTop (mkF m 40 _ [(.long (own_co x2 (5 : Int32)))]))
  refine G1 (fun _ k => XS.lstore X6.here hx rfl (hb hby d1_40) rfl (l' := #[.val (.ref x0), .val (.int (0 : Int32)), .val (.long x2), nS, .val (.long x3), nS, .val (.long (own_co x2 (0 : Int32))), nS, .val (.long (own_co x2 (1 : Int32))), nS, .val (.long (own_co x2 (2 : Int32))), nS, .val (.long (own_co x2 (3 : Int32))), nS, .val (.long (own_co x2 (4 : Int32))), nS, .val (.long (own_co x2 (5 : Int32))), nS, nU, nU, nU, nU, nU, nU, nU, nU, nU, nU, nU, nU, nU, nU, nU, nU]) rfl k) ?_
  show Goes _ _ _ _ _ _ _ (T6.setTop (mkF m 42 _ []))
  refine G1 (fun _ k => XS.lload X6.here hx rfl (hb hby d1_42) rfl  k) ?_
  refine G1 (fun _ k => XS.lstore X6.here hx rfl (hb hby d1_44) rfl (l' := #[.val (.ref x0), .val (.int (0 : Int32)), .val (.long x2), nS, .val (.long x3), nS, .val (.long (own_co x2 (0 : Int32))), nS, .val (.long (own_co x2 (1 : Int32))), nS, .val (.long (own_co x2 (2 : Int32))), nS, .val (.long (own_co x2 (3 : Int32))), nS, .val (.long (own_co x2 (4 : Int32))), nS, .val (.long (own_co x2 (5 : Int32))), nS, .val (.long (own_co x2 (0 : Int32))), nS, nU, nU, nU, nU, nU, nU, nU, nU, nU, nU, nU, nU, nU, nU]) rfl k) ?_
  show Goes _ _ _ _ _ _ _ (T6.setTop (mkF m 46 _ []))
  refine G1 (fun _ k => XS.lload X6.here hx rfl (hb hby d1_46) rfl  k) ?_
  refine G1 (fun _ k => XS.lstore X6.here hx rfl (hb hby d1_48) rfl (l' := #[.val (.ref x0), .val (.int (0 : Int32)), .val (.long x2), nS, .val (.long x3), nS, .val (.long (own_co x2 (0 : Int32))), nS, .val (.long (own_co x2 (1 : Int32))), nS, .val (.long (own_co x2 (2 : Int32))), nS, .val (.long (own_co x2 (3 : Int32))), nS, .val (.long (own_co x2 (4 : Int32))), nS, .val (.long (own_co x2 (5 : Int32))), nS, .val (.long (own_co x2 (0 : Int32))), nS, .val (.long (own_co x2 (1 : Int32))), nS, nU, nU, nU, nU, nU, nU, nU, nU, nU, nU, nU, nU]) rfl k) ?_
  show Goes _ _ _ _ _ _ _ (T6.setTop (mkF m 50 #[.val (.ref x0), .val (.int (0 : Int32)), .val (.long x2), nS, .val (.long x3), nS, .val (.long (own_co x2 (0 : Int32))), nS, .val (.long (own_co x2 (1 : Int32))), nS, .val (.long (own_co x2 (2 : Int32))), nS, .val (.long (own_co x2 (3 : Int32))), nS, .val (.long (own_co x2 (4 : Int32))), nS, .val (.long (own_co x2 (5 : Int32))), nS, .val (.long (own_co x2 (0 : Int32))), nS, .val (.long (own_co x2 (1 : Int32))), nS, nU, nU, nU, nU, nU, nU, nU, nU, nU, nU, nU, nU] []))
  refine G1 (fun _ k => XS.lload X6.here hx rfl (hb hby d1_50) rfl  k) ?_
  refine G1 (fun _ k => XS.lload X6.here hx rfl (hb hby d1_52) rfl  k) ?_
  refine G1 (fun _ k => XS.lload X6.here hx rfl (hb hby d1_54) rfl  k) ?_
  refine G1 (fun _ k => XS.lmul X6.here hx rfl (hb hby d1_56) rfl k) ?_
  show Goes _ _ _ _ _ _ _ (T6.setTop (mkF m 57 _ [(.long ((own_co x2 (1 : Int32)) * x3)), (.long (own_co x2 (0 : Int32)))]))
  refine G1 (fun _ k => XS.ladd X6.here hx rfl (hb hby d1_57) rfl k) ?_
  show Goes _ _ _ _ _ _ _ (T6.setTop (mkF m 58 _ [(.long ((own_co x2 (0 : Int32)) + ((own_co x2 (1 : Int32)) * x3)))]))
  refine G1 (fun _ k => XS.lload X6.here hx rfl (hb hby d1_58) rfl  k) ?_
  refine G1 (fun _ k => XS.lload X6.here hx rfl (hb hby d1_60) rfl  k) ?_
  refine G1 (fun _ k => XS.lmul X6.here hx rfl (hb hby d1_62) rfl k) ?_
  show Goes _ _ _ _ _ _ _ (T6.setTop (mkF m 63 _ [(.long ((own_co x2 (2 : Int32)) * x3)), (.long ((own_co x2 (0 : Int32)) + ((own_co x2 (1 : Int32)) * x3)))]))
  refine G1 (fun _ k => XS.lload X6.here hx rfl (hb hby d1_63) rfl  k) ?_
  refine G1 (fun _ k => XS.lmul X6.here hx rfl (hb hby d1_65) rfl k) ?_
  show Goes _ _ _ _ _ _ _ (T6.setTop (mkF m 66 _ [(.long (((own_co x2 (2 : Int32)) * x3) * x3)), (.long ((own_co x2 (0 : Int32)) + ((own_co x2 (1 : Int32)) * x3)))]))
  refine G1 (fun _ k => XS.ladd X6.here hx rfl (hb hby d1_66) rfl k) ?_
  show Goes _ _ _ _ _ _ _ (T6.setTop (mkF m 67 _ [(.long (((own_co x2 (0 : Int32)) + ((own_co x2 (1 : Int32)) * x3)) + (((own_co x2 (2 : Int32)) * x3) * x3)))]))
  refine G1 (fun _ k => XS.lload X6.here hx rfl (hb hby d1_67) rfl  k) ?_
  refine G1 (fun _ k => XS.lload X6.here hx rfl (hb hby d1_69) rfl  k) ?_
  refine G1 (fun _ k => XS.lmul X6.here hx rfl (hb hby d1_71) rfl k) ?_
  show Goes _ _ _ _ _ _ _ (T6.setTop (mkF m 72 _ [(.long ((own_co x2 (3 : Int32)) * x3)), (.long (((own_co x2 (0 : Int32)) + ((own_co x2 (1 : Int32)) * x3)) + (((own_co x2 (2 : Int32)) * x3) * x3)))]))
  refine G1 (fun _ k => XS.lload X6.here hx rfl (hb hby d1_72) rfl  k) ?_
  refine G1 (fun _ k => XS.lmul X6.here hx rfl (hb hby d1_74) rfl k) ?_
  show Goes _ _ _ _ _ _ _ (T6.setTop (mkF m 75 #[.val (.ref x0), .val (.int (0 : Int32)), .val (.long x2), nS, .val (.long x3), nS, .val (.long (own_co x2 (0 : Int32))), nS, .val (.long (own_co x2 (1 : Int32))), nS, .val (.long (own_co x2 (2 : Int32))), nS, .val (.long (own_co x2 (3 : Int32))), nS, .val (.long (own_co x2 (4 : Int32))), nS, .val (.long (own_co x2 (5 : Int32))), nS, .val (.long (own_co x2 (0 : Int32))), nS, .val (.long (own_co x2 (1 : Int32))), nS, nU, nU, nU, nU, nU, nU, nU, nU, nU, nU, nU, nU] [(.long (((own_co x2 (3 : Int32)) * x3) * x3)), (.long (((own_co x2 (0 : Int32)) + ((own_co x2 (1 : Int32)) * x3)) + (((own_co x2 (2 : Int32)) * x3) * x3)))]))
  refine G1 (fun _ k => XS.lload X6.here hx rfl (hb hby d1_75) rfl  k) ?_
  refine G1 (fun _ k => XS.lmul X6.here hx rfl (hb hby d1_77) rfl k) ?_
  show Goes _ _ _ _ _ _ _ (T6.setTop (mkF m 78 _ [(.long ((((own_co x2 (3 : Int32)) * x3) * x3) * x3)), (.long (((own_co x2 (0 : Int32)) + ((own_co x2 (1 : Int32)) * x3)) + (((own_co x2 (2 : Int32)) * x3) * x3)))]))
  refine G1 (fun _ k => XS.ladd X6.here hx rfl (hb hby d1_78) rfl k) ?_
  show Goes _ _ _ _ _ _ _ (T6.setTop (mkF m 79 _ [(.long ((((own_co x2 (0 : Int32)) + ((own_co x2 (1 : Int32)) * x3)) + (((own_co x2 (2 : Int32)) * x3) * x3)) + ((((own_co x2 (3 : Int32)) * x3) * x3) * x3)))]))
  refine G1 (fun _ k => XS.lstore X6.here hx rfl (hb hby d1_79) rfl (l' := #[.val (.ref x0), .val (.int (0 : Int32)), .val (.long x2), nS, .val (.long x3), nS, .val (.long (own_co x2 (0 : Int32))), nS, .val (.long (own_co x2 (1 : Int32))), nS, .val (.long (own_co x2 (2 : Int32))), nS, .val (.long (own_co x2 (3 : Int32))), nS, .val (.long (own_co x2 (4 : Int32))), nS, .val (.long (own_co x2 (5 : Int32))), nS, .val (.long (own_co x2 (0 : Int32))), nS, .val (.long (own_co x2 (1 : Int32))), nS, .val (.long ((((own_co x2 (0 : Int32)) + ((own_co x2 (1 : Int32)) * x3)) + (((own_co x2 (2 : Int32)) * x3) * x3)) + ((((own_co x2 (3 : Int32)) * x3) * x3) * x3))), nS, nU, nU, nU, nU, nU, nU, nU, nU, nU, nU]) rfl k) ?_
  show Goes _ _ _ _ _ _ _ (T6.setTop (mkF m 81 _ []))
  show Goes _ _ _ _ _ _ _ (T6.setTop (mkF m 81 #[.val (.ref x0), .val (.int (0 : Int32)), .val (.long x2), nS, .val (.long x3), nS, .val (.long (own_co x2 (0 : Int32))), nS, .val (.long (own_co x2 (1 : Int32))), nS, .val (.long (own_co x2 (2 : Int32))), nS, .val (.long (own_co x2 (3 : Int32))), nS, .val (.long (own_co x2 (4 : Int32))), nS, .val (.long (own_co x2 (5 : Int32))), nS, .val (.long (own_co x2 (0 : Int32))), nS, .val (.long (own_co x2 (1 : Int32))), nS, .val (.long ((((own_co x2 (0 : Int32)) + ((own_co x2 (1 : Int32)) * x3)) + (((own_co x2 (2 : Int32)) * x3) * x3)) + ((((own_co x2 (3 : Int32)) * x3) * x3) * x3))), nS, nU, nU, nU, nU, nU, nU, nU, nU, nU, nU] []))
  generalize hg_lv7 : ((((own_co x2 (0 : Int32)) + ((own_co x2 (1 : Int32)) * x3)) + (((own_co x2 (2 : Int32)) * x3) * x3)) + ((((own_co x2 (3 : Int32)) * x3) * x3) * x3)) = lv7
  show Goes _ _ _ _ _ _ _ (T6.setTop (mkF m 81 #[.val (.ref x0), .val (.int (0 : Int32)), .val (.long x2), nS, .val (.long x3), nS, .val (.long (own_co x2 (0 : Int32))), nS, .val (.long (own_co x2 (1 : Int32))), nS, .val (.long (own_co x2 (2 : Int32))), nS, .val (.long (own_co x2 (3 : Int32))), nS, .val (.long (own_co x2 (4 : Int32))), nS, .val (.long (own_co x2 (5 : Int32))), nS, .val (.long (own_co x2 (0 : Int32))), nS, .val (.long (own_co x2 (1 : Int32))), nS, .val (.long lv7), nS, nU, nU, nU, nU, nU, nU, nU, nU, nU, nU] []))
  have Llv7 : own_L lv7 ((((own_co x2 (0 : Int32)).toInt + ((own_co x2 (1 : Int32)).toInt * x3.toInt)) + (((own_co x2 (2 : Int32)).toInt * x3.toInt) * x3.toInt)) + ((((own_co x2 (3 : Int32)).toInt * x3.toInt) * x3.toInt) * x3.toInt)) 2236928 := hg_lv7 ▸ (own_L.add (own_L.add (own_L.add (own_coL x2 (0 : Int32)) (own_L.mul (own_coL x2 (1 : Int32)) hs (by decide)) (by decide)) (own_L.mul (own_L.mul (own_coL x2 (2 : Int32)) hs (by decide)) hs (by decide)) (by decide)) (own_L.mul (own_L.mul (own_L.mul (own_coL x2 (3 : Int32)) hs (by decide)) hs (by decide)) hs (by decide)) (by decide))
  refine G1 (fun _ k => XS.lload X6.here hx rfl (hb hby d1_81) rfl  k) ?_
  refine G1 (fun _ k => X6.ldc2Long hx hown (mvT hZ w_8) (g := (mkF m 83 #[.val (.ref x0), .val (.int (0 : Int32)), .val (.long x2), nS, .val (.long x3), nS, .val (.long (own_co x2 (0 : Int32))), nS, .val (.long (own_co x2 (1 : Int32))), nS, .val (.long (own_co x2 (2 : Int32))), nS, .val (.long (own_co x2 (3 : Int32))), nS, .val (.long (own_co x2 (4 : Int32))), nS, .val (.long (own_co x2 (5 : Int32))), nS, .val (.long (own_co x2 (0 : Int32))), nS, .val (.long (own_co x2 (1 : Int32))), nS, .val (.long lv7), nS, nU, nU, nU, nU, nU, nU, nU, nU, nU, nU] [(.long (own_co x2 (1 : Int32)))])) rfl (hb hby d1_83) _ k) ?_
  refine G1 (fun _ k => XS.lload X6.here hx rfl (hb hby d1_86) rfl  k) ?_
  refine G1 (fun _ k => XS.lmul X6.here hx rfl (hb hby d1_88) rfl k) ?_
  show Goes _ _ _ _ _ _ _ (T6.setTop (mkF m 89 _ [(.long ((2 : Int64) * (own_co x2 (2 : Int32)))), (.long (own_co x2 (1 : Int32)))]))
  refine G1 (fun _ k => XS.lload X6.here hx rfl (hb hby d1_89) rfl  k) ?_
  refine G1 (fun _ k => XS.lmul X6.here hx rfl (hb hby d1_91) rfl k) ?_
  show Goes _ _ _ _ _ _ _ (T6.setTop (mkF m 92 _ [(.long (((2 : Int64) * (own_co x2 (2 : Int32))) * x3)), (.long (own_co x2 (1 : Int32)))]))
  refine G1 (fun _ k => XS.ladd X6.here hx rfl (hb hby d1_92) rfl k) ?_
  show Goes _ _ _ _ _ _ _ (T6.setTop (mkF m 93 _ [(.long ((own_co x2 (1 : Int32)) + (((2 : Int64) * (own_co x2 (2 : Int32))) * x3)))]))
  refine G1 (fun _ k => X6.ldc2Long hx hown (mvT hZ w_9) (g := (mkF m 93 #[.val (.ref x0), .val (.int (0 : Int32)), .val (.long x2), nS, .val (.long x3), nS, .val (.long (own_co x2 (0 : Int32))), nS, .val (.long (own_co x2 (1 : Int32))), nS, .val (.long (own_co x2 (2 : Int32))), nS, .val (.long (own_co x2 (3 : Int32))), nS, .val (.long (own_co x2 (4 : Int32))), nS, .val (.long (own_co x2 (5 : Int32))), nS, .val (.long (own_co x2 (0 : Int32))), nS, .val (.long (own_co x2 (1 : Int32))), nS, .val (.long lv7), nS, nU, nU, nU, nU, nU, nU, nU, nU, nU, nU] [(.long ((own_co x2 (1 : Int32)) + (((2 : Int64) * (own_co x2 (2 : Int32))) * x3)))])) rfl (hb hby d1_93) _ k) ?_
  refine G1 (fun _ k => XS.lload X6.here hx rfl (hb hby d1_96) rfl  k) ?_
  refine G1 (fun _ k => XS.lmul X6.here hx rfl (hb hby d1_98) rfl k) ?_
  show Goes _ _ _ _ _ _ _ (T6.setTop (mkF m 99 _ [(.long ((3 : Int64) * (own_co x2 (3 : Int32)))), (.long ((own_co x2 (1 : Int32)) + (((2 : Int64) * (own_co x2 (2 : Int32))) * x3)))]))
  refine G1 (fun _ k => XS.lload X6.here hx rfl (hb hby d1_99) rfl  k) ?_
  refine G1 (fun _ k => XS.lmul X6.here hx rfl (hb hby d1_101) rfl k) ?_
  show Goes _ _ _ _ _ _ _ (T6.setTop (mkF m 102 _ [(.long (((3 : Int64) * (own_co x2 (3 : Int32))) * x3)), (.long ((own_co x2 (1 : Int32)) + (((2 : Int64) * (own_co x2 (2 : Int32))) * x3)))]))
  refine G1 (fun _ k => XS.lload X6.here hx rfl (hb hby d1_102) rfl  k) ?_
  refine G1 (fun _ k => XS.lmul X6.here hx rfl (hb hby d1_104) rfl k) ?_
  show Goes _ _ _ _ _ _ _ (T6.setTop (mkF m 105 _ [(.long ((((3 : Int64) * (own_co x2 (3 : Int32))) * x3) * x3)), (.long ((own_co x2 (1 : Int32)) + (((2 : Int64) * (own_co x2 (2 : Int32))) * x3)))]))
  refine G1 (fun _ k => XS.ladd X6.here hx rfl (hb hby d1_105) rfl k) ?_
  show Goes _ _ _ _ _ _ _ (T6.setTop (mkF m 106 #[.val (.ref x0), .val (.int (0 : Int32)), .val (.long x2), nS, .val (.long x3), nS, .val (.long (own_co x2 (0 : Int32))), nS, .val (.long (own_co x2 (1 : Int32))), nS, .val (.long (own_co x2 (2 : Int32))), nS, .val (.long (own_co x2 (3 : Int32))), nS, .val (.long (own_co x2 (4 : Int32))), nS, .val (.long (own_co x2 (5 : Int32))), nS, .val (.long (own_co x2 (0 : Int32))), nS, .val (.long (own_co x2 (1 : Int32))), nS, .val (.long lv7), nS, nU, nU, nU, nU, nU, nU, nU, nU, nU, nU] [(.long (((own_co x2 (1 : Int32)) + (((2 : Int64) * (own_co x2 (2 : Int32))) * x3)) + ((((3 : Int64) * (own_co x2 (3 : Int32))) * x3) * x3)))]))
  refine G1 (fun _ k => XS.lstore X6.here hx rfl (hb hby d1_106) rfl (l' := #[.val (.ref x0), .val (.int (0 : Int32)), .val (.long x2), nS, .val (.long x3), nS, .val (.long (own_co x2 (0 : Int32))), nS, .val (.long (own_co x2 (1 : Int32))), nS, .val (.long (own_co x2 (2 : Int32))), nS, .val (.long (own_co x2 (3 : Int32))), nS, .val (.long (own_co x2 (4 : Int32))), nS, .val (.long (own_co x2 (5 : Int32))), nS, .val (.long (own_co x2 (0 : Int32))), nS, .val (.long (own_co x2 (1 : Int32))), nS, .val (.long lv7), nS, .val (.long (((own_co x2 (1 : Int32)) + (((2 : Int64) * (own_co x2 (2 : Int32))) * x3)) + ((((3 : Int64) * (own_co x2 (3 : Int32))) * x3) * x3))), nS, nU, nU, nU, nU, nU, nU, nU, nU]) rfl k) ?_
  show Goes _ _ _ _ _ _ _ (T6.setTop (mkF m 108 _ []))
  show Goes _ _ _ _ _ _ _ (T6.setTop (mkF m 108 #[.val (.ref x0), .val (.int (0 : Int32)), .val (.long x2), nS, .val (.long x3), nS, .val (.long (own_co x2 (0 : Int32))), nS, .val (.long (own_co x2 (1 : Int32))), nS, .val (.long (own_co x2 (2 : Int32))), nS, .val (.long (own_co x2 (3 : Int32))), nS, .val (.long (own_co x2 (4 : Int32))), nS, .val (.long (own_co x2 (5 : Int32))), nS, .val (.long (own_co x2 (0 : Int32))), nS, .val (.long (own_co x2 (1 : Int32))), nS, .val (.long lv7), nS, .val (.long (((own_co x2 (1 : Int32)) + (((2 : Int64) * (own_co x2 (2 : Int32))) * x3)) + ((((3 : Int64) * (own_co x2 (3 : Int32))) * x3) * x3))), nS, nU, nU, nU, nU, nU, nU, nU, nU] []))
  generalize hg_lv8 : (((own_co x2 (1 : Int32)) + (((2 : Int64) * (own_co x2 (2 : Int32))) * x3)) + ((((3 : Int64) * (own_co x2 (3 : Int32))) * x3) * x3)) = lv8
  show Goes _ _ _ _ _ _ _ (T6.setTop (mkF m 108 #[.val (.ref x0), .val (.int (0 : Int32)), .val (.long x2), nS, .val (.long x3), nS, .val (.long (own_co x2 (0 : Int32))), nS, .val (.long (own_co x2 (1 : Int32))), nS, .val (.long (own_co x2 (2 : Int32))), nS, .val (.long (own_co x2 (3 : Int32))), nS, .val (.long (own_co x2 (4 : Int32))), nS, .val (.long (own_co x2 (5 : Int32))), nS, .val (.long (own_co x2 (0 : Int32))), nS, .val (.long (own_co x2 (1 : Int32))), nS, .val (.long lv7), nS, .val (.long lv8), nS, nU, nU, nU, nU, nU, nU, nU, nU] []))
  have Llv8 : own_L lv8 (((own_co x2 (1 : Int32)).toInt + (((2 : Int) * (own_co x2 (2 : Int32)).toInt) * x3.toInt)) + ((((3 : Int) * (own_co x2 (3 : Int32)).toInt) * x3.toInt) * x3.toInt)) 410112 := hg_lv8 ▸ (own_L.add (own_L.add (own_coL x2 (1 : Int32)) (own_L.mul (own_L.mul (⟨by decide, by decide⟩ : own_L (2 : Int64) 2 2) (own_coL x2 (2 : Int32)) (by decide)) hs (by decide)) (by decide)) (own_L.mul (own_L.mul (own_L.mul (⟨by decide, by decide⟩ : own_L (3 : Int64) 3 3) (own_coL x2 (3 : Int32)) (by decide)) hs (by decide)) hs (by decide)) (by decide))
  refine G1 (fun _ k => XS.lload X6.here hx rfl (hb hby d1_108) rfl  k) ?_
  refine G1 (fun _ k => X6.ldc2Long hx hown (mvT hZ w_8) (g := (mkF m 110 #[.val (.ref x0), .val (.int (0 : Int32)), .val (.long x2), nS, .val (.long x3), nS, .val (.long (own_co x2 (0 : Int32))), nS, .val (.long (own_co x2 (1 : Int32))), nS, .val (.long (own_co x2 (2 : Int32))), nS, .val (.long (own_co x2 (3 : Int32))), nS, .val (.long (own_co x2 (4 : Int32))), nS, .val (.long (own_co x2 (5 : Int32))), nS, .val (.long (own_co x2 (0 : Int32))), nS, .val (.long (own_co x2 (1 : Int32))), nS, .val (.long lv7), nS, .val (.long lv8), nS, nU, nU, nU, nU, nU, nU, nU, nU] [(.long (own_co x2 (0 : Int32)))])) rfl (hb hby d1_110) _ k) ?_
  refine G1 (fun _ k => XS.lload X6.here hx rfl (hb hby d1_113) rfl  k) ?_
  refine G1 (fun _ k => XS.lmul X6.here hx rfl (hb hby d1_115) rfl k) ?_
  show Goes _ _ _ _ _ _ _ (T6.setTop (mkF m 116 _ [(.long ((2 : Int64) * (own_co x2 (1 : Int32)))), (.long (own_co x2 (0 : Int32)))]))
  refine G1 (fun _ k => XS.lload X6.here hx rfl (hb hby d1_116) rfl  k) ?_
  refine G1 (fun _ k => XS.lmul X6.here hx rfl (hb hby d1_118) rfl k) ?_
  show Goes _ _ _ _ _ _ _ (T6.setTop (mkF m 119 _ [(.long (((2 : Int64) * (own_co x2 (1 : Int32))) * x3)), (.long (own_co x2 (0 : Int32)))]))
  refine G1 (fun _ k => XS.ladd X6.here hx rfl (hb hby d1_119) rfl k) ?_
  show Goes _ _ _ _ _ _ _ (T6.setTop (mkF m 120 _ [(.long ((own_co x2 (0 : Int32)) + (((2 : Int64) * (own_co x2 (1 : Int32))) * x3)))]))
  refine G1 (fun _ k => X6.ldc2Long hx hown (mvT hZ w_10) (g := (mkF m 120 #[.val (.ref x0), .val (.int (0 : Int32)), .val (.long x2), nS, .val (.long x3), nS, .val (.long (own_co x2 (0 : Int32))), nS, .val (.long (own_co x2 (1 : Int32))), nS, .val (.long (own_co x2 (2 : Int32))), nS, .val (.long (own_co x2 (3 : Int32))), nS, .val (.long (own_co x2 (4 : Int32))), nS, .val (.long (own_co x2 (5 : Int32))), nS, .val (.long (own_co x2 (0 : Int32))), nS, .val (.long (own_co x2 (1 : Int32))), nS, .val (.long lv7), nS, .val (.long lv8), nS, nU, nU, nU, nU, nU, nU, nU, nU] [(.long ((own_co x2 (0 : Int32)) + (((2 : Int64) * (own_co x2 (1 : Int32))) * x3)))])) rfl (hb hby d1_120) _ k) ?_
  refine G1 (fun _ k => XS.lload X6.here hx rfl (hb hby d1_123) rfl  k) ?_
  refine G1 (fun _ k => XS.lmul X6.here hx rfl (hb hby d1_125) rfl k) ?_
  show Goes _ _ _ _ _ _ _ (T6.setTop (mkF m 126 _ [(.long ((4 : Int64) * (own_co x2 (2 : Int32)))), (.long ((own_co x2 (0 : Int32)) + (((2 : Int64) * (own_co x2 (1 : Int32))) * x3)))]))
  refine G1 (fun _ k => XS.lload X6.here hx rfl (hb hby d1_126) rfl  k) ?_
  refine G1 (fun _ k => XS.lmul X6.here hx rfl (hb hby d1_128) rfl k) ?_
  show Goes _ _ _ _ _ _ _ (T6.setTop (mkF m 129 _ [(.long (((4 : Int64) * (own_co x2 (2 : Int32))) * x3)), (.long ((own_co x2 (0 : Int32)) + (((2 : Int64) * (own_co x2 (1 : Int32))) * x3)))]))
  refine G1 (fun _ k => XS.lload X6.here hx rfl (hb hby d1_129) rfl  k) ?_
  refine G1 (fun _ k => XS.lmul X6.here hx rfl (hb hby d1_131) rfl k) ?_
  show Goes _ _ _ _ _ _ _ (T6.setTop (mkF m 132 _ [(.long ((((4 : Int64) * (own_co x2 (2 : Int32))) * x3) * x3)), (.long ((own_co x2 (0 : Int32)) + (((2 : Int64) * (own_co x2 (1 : Int32))) * x3)))]))
  refine G1 (fun _ k => XS.ladd X6.here hx rfl (hb hby d1_132) rfl k) ?_
  show Goes _ _ _ _ _ _ _ (T6.setTop (mkF m 133 #[.val (.ref x0), .val (.int (0 : Int32)), .val (.long x2), nS, .val (.long x3), nS, .val (.long (own_co x2 (0 : Int32))), nS, .val (.long (own_co x2 (1 : Int32))), nS, .val (.long (own_co x2 (2 : Int32))), nS, .val (.long (own_co x2 (3 : Int32))), nS, .val (.long (own_co x2 (4 : Int32))), nS, .val (.long (own_co x2 (5 : Int32))), nS, .val (.long (own_co x2 (0 : Int32))), nS, .val (.long (own_co x2 (1 : Int32))), nS, .val (.long lv7), nS, .val (.long lv8), nS, nU, nU, nU, nU, nU, nU, nU, nU] [(.long (((own_co x2 (0 : Int32)) + (((2 : Int64) * (own_co x2 (1 : Int32))) * x3)) + ((((4 : Int64) * (own_co x2 (2 : Int32))) * x3) * x3)))]))
  refine G1 (fun _ k => X6.ldc2Long hx hown (mvT hZ w_11) (g := (mkF m 133 #[.val (.ref x0), .val (.int (0 : Int32)), .val (.long x2), nS, .val (.long x3), nS, .val (.long (own_co x2 (0 : Int32))), nS, .val (.long (own_co x2 (1 : Int32))), nS, .val (.long (own_co x2 (2 : Int32))), nS, .val (.long (own_co x2 (3 : Int32))), nS, .val (.long (own_co x2 (4 : Int32))), nS, .val (.long (own_co x2 (5 : Int32))), nS, .val (.long (own_co x2 (0 : Int32))), nS, .val (.long (own_co x2 (1 : Int32))), nS, .val (.long lv7), nS, .val (.long lv8), nS, nU, nU, nU, nU, nU, nU, nU, nU] [(.long (((own_co x2 (0 : Int32)) + (((2 : Int64) * (own_co x2 (1 : Int32))) * x3)) + ((((4 : Int64) * (own_co x2 (2 : Int32))) * x3) * x3)))])) rfl (hb hby d1_133) _ k) ?_
  refine G1 (fun _ k => XS.lload X6.here hx rfl (hb hby d1_136) rfl  k) ?_
  refine G1 (fun _ k => XS.lmul X6.here hx rfl (hb hby d1_138) rfl k) ?_
  show Goes _ _ _ _ _ _ _ (T6.setTop (mkF m 139 _ [(.long ((8 : Int64) * (own_co x2 (3 : Int32)))), (.long (((own_co x2 (0 : Int32)) + (((2 : Int64) * (own_co x2 (1 : Int32))) * x3)) + ((((4 : Int64) * (own_co x2 (2 : Int32))) * x3) * x3)))]))
  refine G1 (fun _ k => XS.lload X6.here hx rfl (hb hby d1_139) rfl  k) ?_
  refine G1 (fun _ k => XS.lmul X6.here hx rfl (hb hby d1_141) rfl k) ?_
  show Goes _ _ _ _ _ _ _ (T6.setTop (mkF m 142 _ [(.long (((8 : Int64) * (own_co x2 (3 : Int32))) * x3)), (.long (((own_co x2 (0 : Int32)) + (((2 : Int64) * (own_co x2 (1 : Int32))) * x3)) + ((((4 : Int64) * (own_co x2 (2 : Int32))) * x3) * x3)))]))
  refine G1 (fun _ k => XS.lload X6.here hx rfl (hb hby d1_142) rfl  k) ?_
  refine G1 (fun _ k => XS.lmul X6.here hx rfl (hb hby d1_144) rfl k) ?_
  show Goes _ _ _ _ _ _ _ (T6.setTop (mkF m 145 _ [(.long ((((8 : Int64) * (own_co x2 (3 : Int32))) * x3) * x3)), (.long (((own_co x2 (0 : Int32)) + (((2 : Int64) * (own_co x2 (1 : Int32))) * x3)) + ((((4 : Int64) * (own_co x2 (2 : Int32))) * x3) * x3)))]))
  refine G1 (fun _ k => XS.lload X6.here hx rfl (hb hby d1_145) rfl  k) ?_
  refine G1 (fun _ k => XS.lmul X6.here hx rfl (hb hby d1_147) rfl k) ?_
  show Goes _ _ _ _ _ _ _ (T6.setTop (mkF m 148 _ [(.long (((((8 : Int64) * (own_co x2 (3 : Int32))) * x3) * x3) * x3)), (.long (((own_co x2 (0 : Int32)) + (((2 : Int64) * (own_co x2 (1 : Int32))) * x3)) + ((((4 : Int64) * (own_co x2 (2 : Int32))) * x3) * x3)))]))
  refine G1 (fun _ k => XS.ladd X6.here hx rfl (hb hby d1_148) rfl k) ?_
  show Goes _ _ _ _ _ _ _ (T6.setTop (mkF m 149 _ [(.long ((((own_co x2 (0 : Int32)) + (((2 : Int64) * (own_co x2 (1 : Int32))) * x3)) + ((((4 : Int64) * (own_co x2 (2 : Int32))) * x3) * x3)) + (((((8 : Int64) * (own_co x2 (3 : Int32))) * x3) * x3) * x3)))]))
  refine G1 (fun _ k => XS.lstore X6.here hx rfl (hb hby d1_149) rfl (l' := #[.val (.ref x0), .val (.int (0 : Int32)), .val (.long x2), nS, .val (.long x3), nS, .val (.long (own_co x2 (0 : Int32))), nS, .val (.long (own_co x2 (1 : Int32))), nS, .val (.long (own_co x2 (2 : Int32))), nS, .val (.long (own_co x2 (3 : Int32))), nS, .val (.long (own_co x2 (4 : Int32))), nS, .val (.long (own_co x2 (5 : Int32))), nS, .val (.long (own_co x2 (0 : Int32))), nS, .val (.long (own_co x2 (1 : Int32))), nS, .val (.long lv7), nS, .val (.long lv8), nS, .val (.long ((((own_co x2 (0 : Int32)) + (((2 : Int64) * (own_co x2 (1 : Int32))) * x3)) + ((((4 : Int64) * (own_co x2 (2 : Int32))) * x3) * x3)) + (((((8 : Int64) * (own_co x2 (3 : Int32))) * x3) * x3) * x3))), nS, nU, nU, nU, nU, nU, nU]) rfl k) ?_
  show Goes _ _ _ _ _ _ _ (T6.setTop (mkF m 151 _ []))
  show Goes _ _ _ _ _ _ _ (T6.setTop (mkF m 151 #[.val (.ref x0), .val (.int (0 : Int32)), .val (.long x2), nS, .val (.long x3), nS, .val (.long (own_co x2 (0 : Int32))), nS, .val (.long (own_co x2 (1 : Int32))), nS, .val (.long (own_co x2 (2 : Int32))), nS, .val (.long (own_co x2 (3 : Int32))), nS, .val (.long (own_co x2 (4 : Int32))), nS, .val (.long (own_co x2 (5 : Int32))), nS, .val (.long (own_co x2 (0 : Int32))), nS, .val (.long (own_co x2 (1 : Int32))), nS, .val (.long lv7), nS, .val (.long lv8), nS, .val (.long ((((own_co x2 (0 : Int32)) + (((2 : Int64) * (own_co x2 (1 : Int32))) * x3)) + ((((4 : Int64) * (own_co x2 (2 : Int32))) * x3) * x3)) + (((((8 : Int64) * (own_co x2 (3 : Int32))) * x3) * x3) * x3))), nS, nU, nU, nU, nU, nU, nU] []))
  generalize hg_lv9 : ((((own_co x2 (0 : Int32)) + (((2 : Int64) * (own_co x2 (1 : Int32))) * x3)) + ((((4 : Int64) * (own_co x2 (2 : Int32))) * x3) * x3)) + (((((8 : Int64) * (own_co x2 (3 : Int32))) * x3) * x3) * x3)) = lv9
  show Goes _ _ _ _ _ _ _ (T6.setTop (mkF m 151 #[.val (.ref x0), .val (.int (0 : Int32)), .val (.long x2), nS, .val (.long x3), nS, .val (.long (own_co x2 (0 : Int32))), nS, .val (.long (own_co x2 (1 : Int32))), nS, .val (.long (own_co x2 (2 : Int32))), nS, .val (.long (own_co x2 (3 : Int32))), nS, .val (.long (own_co x2 (4 : Int32))), nS, .val (.long (own_co x2 (5 : Int32))), nS, .val (.long (own_co x2 (0 : Int32))), nS, .val (.long (own_co x2 (1 : Int32))), nS, .val (.long lv7), nS, .val (.long lv8), nS, .val (.long lv9), nS, nU, nU, nU, nU, nU, nU] []))
  have Llv9 : own_L lv9 ((((own_co x2 (0 : Int32)).toInt + (((2 : Int) * (own_co x2 (1 : Int32)).toInt) * x3.toInt)) + ((((4 : Int) * (own_co x2 (2 : Int32)).toInt) * x3.toInt) * x3.toInt)) + (((((8 : Int) * (own_co x2 (3 : Int32)).toInt) * x3.toInt) * x3.toInt) * x3.toInt)) 17318400 := hg_lv9 ▸ (own_L.add (own_L.add (own_L.add (own_coL x2 (0 : Int32)) (own_L.mul (own_L.mul (⟨by decide, by decide⟩ : own_L (2 : Int64) 2 2) (own_coL x2 (1 : Int32)) (by decide)) hs (by decide)) (by decide)) (own_L.mul (own_L.mul (own_L.mul (⟨by decide, by decide⟩ : own_L (4 : Int64) 4 4) (own_coL x2 (2 : Int32)) (by decide)) hs (by decide)) hs (by decide)) (by decide)) (own_L.mul (own_L.mul (own_L.mul (own_L.mul (⟨by decide, by decide⟩ : own_L (8 : Int64) 8 8) (own_coL x2 (3 : Int32)) (by decide)) hs (by decide)) hs (by decide)) hs (by decide)) (by decide))
  refine G1 (fun _ k => XS.lload X6.here hx rfl (hb hby d1_151) rfl  k) ?_
  refine G1 (fun _ k => X6.ldc2Long hx hown (mvT hZ w_10) (g := (mkF m 153 #[.val (.ref x0), .val (.int (0 : Int32)), .val (.long x2), nS, .val (.long x3), nS, .val (.long (own_co x2 (0 : Int32))), nS, .val (.long (own_co x2 (1 : Int32))), nS, .val (.long (own_co x2 (2 : Int32))), nS, .val (.long (own_co x2 (3 : Int32))), nS, .val (.long (own_co x2 (4 : Int32))), nS, .val (.long (own_co x2 (5 : Int32))), nS, .val (.long (own_co x2 (0 : Int32))), nS, .val (.long (own_co x2 (1 : Int32))), nS, .val (.long lv7), nS, .val (.long lv8), nS, .val (.long lv9), nS, nU, nU, nU, nU, nU, nU] [(.long (own_co x2 (1 : Int32)))])) rfl (hb hby d1_153) _ k) ?_
  refine G1 (fun _ k => XS.lload X6.here hx rfl (hb hby d1_156) rfl  k) ?_
  refine G1 (fun _ k => XS.lmul X6.here hx rfl (hb hby d1_158) rfl k) ?_
  show Goes _ _ _ _ _ _ _ (T6.setTop (mkF m 159 _ [(.long ((4 : Int64) * (own_co x2 (2 : Int32)))), (.long (own_co x2 (1 : Int32)))]))
  refine G1 (fun _ k => XS.lload X6.here hx rfl (hb hby d1_159) rfl  k) ?_
  refine G1 (fun _ k => XS.lmul X6.here hx rfl (hb hby d1_161) rfl k) ?_
  show Goes _ _ _ _ _ _ _ (T6.setTop (mkF m 162 _ [(.long (((4 : Int64) * (own_co x2 (2 : Int32))) * x3)), (.long (own_co x2 (1 : Int32)))]))
  refine G1 (fun _ k => XS.ladd X6.here hx rfl (hb hby d1_162) rfl k) ?_
  show Goes _ _ _ _ _ _ _ (T6.setTop (mkF m 163 _ [(.long ((own_co x2 (1 : Int32)) + (((4 : Int64) * (own_co x2 (2 : Int32))) * x3)))]))
  refine G1 (fun _ k => X6.ldc2Long hx hown (mvT hZ w_12) (g := (mkF m 163 #[.val (.ref x0), .val (.int (0 : Int32)), .val (.long x2), nS, .val (.long x3), nS, .val (.long (own_co x2 (0 : Int32))), nS, .val (.long (own_co x2 (1 : Int32))), nS, .val (.long (own_co x2 (2 : Int32))), nS, .val (.long (own_co x2 (3 : Int32))), nS, .val (.long (own_co x2 (4 : Int32))), nS, .val (.long (own_co x2 (5 : Int32))), nS, .val (.long (own_co x2 (0 : Int32))), nS, .val (.long (own_co x2 (1 : Int32))), nS, .val (.long lv7), nS, .val (.long lv8), nS, .val (.long lv9), nS, nU, nU, nU, nU, nU, nU] [(.long ((own_co x2 (1 : Int32)) + (((4 : Int64) * (own_co x2 (2 : Int32))) * x3)))])) rfl (hb hby d1_163) _ k) ?_
  refine G1 (fun _ k => XS.lload X6.here hx rfl (hb hby d1_166) rfl  k) ?_
  refine G1 (fun _ k => XS.lmul X6.here hx rfl (hb hby d1_168) rfl k) ?_
  show Goes _ _ _ _ _ _ _ (T6.setTop (mkF m 169 _ [(.long ((12 : Int64) * (own_co x2 (3 : Int32)))), (.long ((own_co x2 (1 : Int32)) + (((4 : Int64) * (own_co x2 (2 : Int32))) * x3)))]))
  refine G1 (fun _ k => XS.lload X6.here hx rfl (hb hby d1_169) rfl  k) ?_
  refine G1 (fun _ k => XS.lmul X6.here hx rfl (hb hby d1_171) rfl k) ?_
  show Goes _ _ _ _ _ _ _ (T6.setTop (mkF m 172 _ [(.long (((12 : Int64) * (own_co x2 (3 : Int32))) * x3)), (.long ((own_co x2 (1 : Int32)) + (((4 : Int64) * (own_co x2 (2 : Int32))) * x3)))]))
  refine G1 (fun _ k => XS.lload X6.here hx rfl (hb hby d1_172) rfl  k) ?_
  refine G1 (fun _ k => XS.lmul X6.here hx rfl (hb hby d1_174) rfl k) ?_
  show Goes _ _ _ _ _ _ _ (T6.setTop (mkF m 175 _ [(.long ((((12 : Int64) * (own_co x2 (3 : Int32))) * x3) * x3)), (.long ((own_co x2 (1 : Int32)) + (((4 : Int64) * (own_co x2 (2 : Int32))) * x3)))]))
  refine G1 (fun _ k => XS.ladd X6.here hx rfl (hb hby d1_175) rfl k) ?_
  show Goes _ _ _ _ _ _ _ (T6.setTop (mkF m 176 #[.val (.ref x0), .val (.int (0 : Int32)), .val (.long x2), nS, .val (.long x3), nS, .val (.long (own_co x2 (0 : Int32))), nS, .val (.long (own_co x2 (1 : Int32))), nS, .val (.long (own_co x2 (2 : Int32))), nS, .val (.long (own_co x2 (3 : Int32))), nS, .val (.long (own_co x2 (4 : Int32))), nS, .val (.long (own_co x2 (5 : Int32))), nS, .val (.long (own_co x2 (0 : Int32))), nS, .val (.long (own_co x2 (1 : Int32))), nS, .val (.long lv7), nS, .val (.long lv8), nS, .val (.long lv9), nS, nU, nU, nU, nU, nU, nU] [(.long (((own_co x2 (1 : Int32)) + (((4 : Int64) * (own_co x2 (2 : Int32))) * x3)) + ((((12 : Int64) * (own_co x2 (3 : Int32))) * x3) * x3)))]))
  refine G1 (fun _ k => XS.lstore X6.here hx rfl (hb hby d1_176) rfl (l' := #[.val (.ref x0), .val (.int (0 : Int32)), .val (.long x2), nS, .val (.long x3), nS, .val (.long (own_co x2 (0 : Int32))), nS, .val (.long (own_co x2 (1 : Int32))), nS, .val (.long (own_co x2 (2 : Int32))), nS, .val (.long (own_co x2 (3 : Int32))), nS, .val (.long (own_co x2 (4 : Int32))), nS, .val (.long (own_co x2 (5 : Int32))), nS, .val (.long (own_co x2 (0 : Int32))), nS, .val (.long (own_co x2 (1 : Int32))), nS, .val (.long lv7), nS, .val (.long lv8), nS, .val (.long lv9), nS, .val (.long (((own_co x2 (1 : Int32)) + (((4 : Int64) * (own_co x2 (2 : Int32))) * x3)) + ((((12 : Int64) * (own_co x2 (3 : Int32))) * x3) * x3))), nS, nU, nU, nU, nU]) rfl k) ?_
  show Goes _ _ _ _ _ _ _ (T6.setTop (mkF m 178 _ []))
  show Goes _ _ _ _ _ _ _ (T6.setTop (mkF m 178 #[.val (.ref x0), .val (.int (0 : Int32)), .val (.long x2), nS, .val (.long x3), nS, .val (.long (own_co x2 (0 : Int32))), nS, .val (.long (own_co x2 (1 : Int32))), nS, .val (.long (own_co x2 (2 : Int32))), nS, .val (.long (own_co x2 (3 : Int32))), nS, .val (.long (own_co x2 (4 : Int32))), nS, .val (.long (own_co x2 (5 : Int32))), nS, .val (.long (own_co x2 (0 : Int32))), nS, .val (.long (own_co x2 (1 : Int32))), nS, .val (.long lv7), nS, .val (.long lv8), nS, .val (.long lv9), nS, .val (.long (((own_co x2 (1 : Int32)) + (((4 : Int64) * (own_co x2 (2 : Int32))) * x3)) + ((((12 : Int64) * (own_co x2 (3 : Int32))) * x3) * x3))), nS, nU, nU, nU, nU] []))
  generalize hg_lv10 : (((own_co x2 (1 : Int32)) + (((4 : Int64) * (own_co x2 (2 : Int32))) * x3)) + ((((12 : Int64) * (own_co x2 (3 : Int32))) * x3) * x3)) = lv10
  show Goes _ _ _ _ _ _ _ (T6.setTop (mkF m 178 #[.val (.ref x0), .val (.int (0 : Int32)), .val (.long x2), nS, .val (.long x3), nS, .val (.long (own_co x2 (0 : Int32))), nS, .val (.long (own_co x2 (1 : Int32))), nS, .val (.long (own_co x2 (2 : Int32))), nS, .val (.long (own_co x2 (3 : Int32))), nS, .val (.long (own_co x2 (4 : Int32))), nS, .val (.long (own_co x2 (5 : Int32))), nS, .val (.long (own_co x2 (0 : Int32))), nS, .val (.long (own_co x2 (1 : Int32))), nS, .val (.long lv7), nS, .val (.long lv8), nS, .val (.long lv9), nS, .val (.long lv10), nS, nU, nU, nU, nU] []))
  have Llv10 : own_L lv10 (((own_co x2 (1 : Int32)).toInt + (((4 : Int) * (own_co x2 (2 : Int32)).toInt) * x3.toInt)) + ((((12 : Int) * (own_co x2 (3 : Int32)).toInt) * x3.toInt) * x3.toInt)) 1606144 := hg_lv10 ▸ (own_L.add (own_L.add (own_coL x2 (1 : Int32)) (own_L.mul (own_L.mul (⟨by decide, by decide⟩ : own_L (4 : Int64) 4 4) (own_coL x2 (2 : Int32)) (by decide)) hs (by decide)) (by decide)) (own_L.mul (own_L.mul (own_L.mul (⟨by decide, by decide⟩ : own_L (12 : Int64) 12 12) (own_coL x2 (3 : Int32)) (by decide)) hs (by decide)) hs (by decide)) (by decide))
  refine G1 (fun _ k => XS.lload X6.here hx rfl (hb hby d1_178) rfl  k) ?_
  refine G1 (fun _ k => XS.lload X6.here hx rfl (hb hby d1_180) rfl  k) ?_
  refine G1 (fun _ k => XS.lload X6.here hx rfl (hb hby d1_182) rfl  k) ?_
  refine G1 (fun _ k => XS.lmul X6.here hx rfl (hb hby d1_184) rfl k) ?_
  show Goes _ _ _ _ _ _ _ (T6.setTop (mkF m 185 _ [(.long (x3 * x3)), (.long lv9)]))
  refine G1 (fun _ k => XS.lload X6.here hx rfl (hb hby d1_185) rfl  k) ?_
  refine G1 (fun _ k => XS.lload X6.here hx rfl (hb hby d1_187) rfl  k) ?_
  refine G1 (fun _ k => XS.lload X6.here hx rfl (hb hby d1_189) rfl  k) ?_
  refine G1 (fun _ k => XS.lmul X6.here hx rfl (hb hby d1_191) rfl k) ?_
  show Goes _ _ _ _ _ _ _ (T6.setTop (mkF m 192 _ [(.long ((own_co x2 (5 : Int32)) * x3)), (.long (own_co x2 (4 : Int32))), (.long (x3 * x3)), (.long lv9)]))
  refine G1 (fun _ k => XS.ladd X6.here hx rfl (hb hby d1_192) rfl k) ?_
  show Goes _ _ _ _ _ _ _ (T6.setTop (mkF m 193 _ [(.long ((own_co x2 (4 : Int32)) + ((own_co x2 (5 : Int32)) * x3))), (.long (x3 * x3)), (.long lv9)]))
  refine G1 (fun _ k => XS.lmul X6.here hx rfl (hb hby d1_193) rfl k) ?_
  show Goes _ _ _ _ _ _ _ (T6.setTop (mkF m 194 _ [(.long ((x3 * x3) * ((own_co x2 (4 : Int32)) + ((own_co x2 (5 : Int32)) * x3)))), (.long lv9)]))
  refine G1 (fun _ k => XS.ladd X6.here hx rfl (hb hby d1_194) rfl k) ?_
  show Goes _ _ _ _ _ _ _ (T6.setTop (mkF m 195 _ [(.long (lv9 + ((x3 * x3) * ((own_co x2 (4 : Int32)) + ((own_co x2 (5 : Int32)) * x3)))))]))
  refine G1 (fun _ k => XS.lstore X6.here hx rfl (hb hby d1_195) rfl (l' := #[.val (.ref x0), .val (.int (0 : Int32)), .val (.long x2), nS, .val (.long x3), nS, .val (.long (own_co x2 (0 : Int32))), nS, .val (.long (own_co x2 (1 : Int32))), nS, .val (.long (own_co x2 (2 : Int32))), nS, .val (.long (own_co x2 (3 : Int32))), nS, .val (.long (own_co x2 (4 : Int32))), nS, .val (.long (own_co x2 (5 : Int32))), nS, .val (.long (own_co x2 (0 : Int32))), nS, .val (.long (own_co x2 (1 : Int32))), nS, .val (.long lv7), nS, .val (.long lv8), nS, .val (.long lv9), nS, .val (.long lv10), nS, .val (.long (lv9 + ((x3 * x3) * ((own_co x2 (4 : Int32)) + ((own_co x2 (5 : Int32)) * x3))))), nS, nU, nU]) rfl k) ?_
  show Goes _ _ _ _ _ _ _ (T6.setTop (mkF m 197 _ []))
  show Goes _ _ _ _ _ _ _ (T6.setTop (mkF m 197 #[.val (.ref x0), .val (.int (0 : Int32)), .val (.long x2), nS, .val (.long x3), nS, .val (.long (own_co x2 (0 : Int32))), nS, .val (.long (own_co x2 (1 : Int32))), nS, .val (.long (own_co x2 (2 : Int32))), nS, .val (.long (own_co x2 (3 : Int32))), nS, .val (.long (own_co x2 (4 : Int32))), nS, .val (.long (own_co x2 (5 : Int32))), nS, .val (.long (own_co x2 (0 : Int32))), nS, .val (.long (own_co x2 (1 : Int32))), nS, .val (.long lv7), nS, .val (.long lv8), nS, .val (.long lv9), nS, .val (.long lv10), nS, .val (.long (lv9 + ((x3 * x3) * ((own_co x2 (4 : Int32)) + ((own_co x2 (5 : Int32)) * x3))))), nS, nU, nU] []))
  generalize hg_lv11 : (lv9 + ((x3 * x3) * ((own_co x2 (4 : Int32)) + ((own_co x2 (5 : Int32)) * x3)))) = lv11
  show Goes _ _ _ _ _ _ _ (T6.setTop (mkF m 197 #[.val (.ref x0), .val (.int (0 : Int32)), .val (.long x2), nS, .val (.long x3), nS, .val (.long (own_co x2 (0 : Int32))), nS, .val (.long (own_co x2 (1 : Int32))), nS, .val (.long (own_co x2 (2 : Int32))), nS, .val (.long (own_co x2 (3 : Int32))), nS, .val (.long (own_co x2 (4 : Int32))), nS, .val (.long (own_co x2 (5 : Int32))), nS, .val (.long (own_co x2 (0 : Int32))), nS, .val (.long (own_co x2 (1 : Int32))), nS, .val (.long lv7), nS, .val (.long lv8), nS, .val (.long lv9), nS, .val (.long lv10), nS, .val (.long lv11), nS, nU, nU] []))
  have Llv11 : own_L lv11 (((((own_co x2 (0 : Int32)).toInt + (((2 : Int) * (own_co x2 (1 : Int32)).toInt) * x3.toInt)) + ((((4 : Int) * (own_co x2 (2 : Int32)).toInt) * x3.toInt) * x3.toInt)) + (((((8 : Int) * (own_co x2 (3 : Int32)).toInt) * x3.toInt) * x3.toInt) * x3.toInt)) + ((x3.toInt * x3.toInt) * ((own_co x2 (4 : Int32)).toInt + ((own_co x2 (5 : Int32)).toInt * x3.toInt)))) 19546624 := hg_lv11 ▸ (own_L.add Llv9 (own_L.mul (own_L.mul hs hs (by decide)) (own_L.add (own_coL x2 (4 : Int32)) (own_L.mul (own_coL x2 (5 : Int32)) hs (by decide)) (by decide)) (by decide)) (by decide))
  refine G1 (fun _ k => XS.lload X6.here hx rfl (hb hby d1_197) rfl  k) ?_
  refine G1 (fun _ k => X6.ldc2Long hx hown (mvT hZ w_8) (g := (mkF m 199 #[.val (.ref x0), .val (.int (0 : Int32)), .val (.long x2), nS, .val (.long x3), nS, .val (.long (own_co x2 (0 : Int32))), nS, .val (.long (own_co x2 (1 : Int32))), nS, .val (.long (own_co x2 (2 : Int32))), nS, .val (.long (own_co x2 (3 : Int32))), nS, .val (.long (own_co x2 (4 : Int32))), nS, .val (.long (own_co x2 (5 : Int32))), nS, .val (.long (own_co x2 (0 : Int32))), nS, .val (.long (own_co x2 (1 : Int32))), nS, .val (.long lv7), nS, .val (.long lv8), nS, .val (.long lv9), nS, .val (.long lv10), nS, .val (.long lv11), nS, nU, nU] [(.long lv10)])) rfl (hb hby d1_199) _ k) ?_
  refine G1 (fun _ k => XS.lload X6.here hx rfl (hb hby d1_202) rfl  k) ?_
  refine G1 (fun _ k => XS.lmul X6.here hx rfl (hb hby d1_204) rfl k) ?_
  show Goes _ _ _ _ _ _ _ (T6.setTop (mkF m 205 _ [(.long ((2 : Int64) * x3)), (.long lv10)]))
  refine G1 (fun _ k => XS.lload X6.here hx rfl (hb hby d1_205) rfl  k) ?_
  refine G1 (fun _ k => XS.lmul X6.here hx rfl (hb hby d1_207) rfl k) ?_
  show Goes _ _ _ _ _ _ _ (T6.setTop (mkF m 208 _ [(.long (((2 : Int64) * x3) * (own_co x2 (4 : Int32)))), (.long lv10)]))
  refine G1 (fun _ k => XS.ladd X6.here hx rfl (hb hby d1_208) rfl k) ?_
  show Goes _ _ _ _ _ _ _ (T6.setTop (mkF m 209 _ [(.long (lv10 + (((2 : Int64) * x3) * (own_co x2 (4 : Int32)))))]))
  refine G1 (fun _ k => X6.ldc2Long hx hown (mvT hZ w_9) (g := (mkF m 209 #[.val (.ref x0), .val (.int (0 : Int32)), .val (.long x2), nS, .val (.long x3), nS, .val (.long (own_co x2 (0 : Int32))), nS, .val (.long (own_co x2 (1 : Int32))), nS, .val (.long (own_co x2 (2 : Int32))), nS, .val (.long (own_co x2 (3 : Int32))), nS, .val (.long (own_co x2 (4 : Int32))), nS, .val (.long (own_co x2 (5 : Int32))), nS, .val (.long (own_co x2 (0 : Int32))), nS, .val (.long (own_co x2 (1 : Int32))), nS, .val (.long lv7), nS, .val (.long lv8), nS, .val (.long lv9), nS, .val (.long lv10), nS, .val (.long lv11), nS, nU, nU] [(.long (lv10 + (((2 : Int64) * x3) * (own_co x2 (4 : Int32)))))])) rfl (hb hby d1_209) _ k) ?_
  refine G1 (fun _ k => XS.lload X6.here hx rfl (hb hby d1_212) rfl  k) ?_
  refine G1 (fun _ k => XS.lmul X6.here hx rfl (hb hby d1_214) rfl k) ?_
  show Goes _ _ _ _ _ _ _ (T6.setTop (mkF m 215 _ [(.long ((3 : Int64) * (own_co x2 (5 : Int32)))), (.long (lv10 + (((2 : Int64) * x3) * (own_co x2 (4 : Int32)))))]))
  refine G1 (fun _ k => XS.lload X6.here hx rfl (hb hby d1_215) rfl  k) ?_
  refine G1 (fun _ k => XS.lmul X6.here hx rfl (hb hby d1_217) rfl k) ?_
  show Goes _ _ _ _ _ _ _ (T6.setTop (mkF m 218 _ [(.long (((3 : Int64) * (own_co x2 (5 : Int32))) * x3)), (.long (lv10 + (((2 : Int64) * x3) * (own_co x2 (4 : Int32)))))]))
  refine G1 (fun _ k => XS.lload X6.here hx rfl (hb hby d1_218) rfl  k) ?_
  refine G1 (fun _ k => XS.lmul X6.here hx rfl (hb hby d1_220) rfl k) ?_
  show Goes _ _ _ _ _ _ _ (T6.setTop (mkF m 221 _ [(.long ((((3 : Int64) * (own_co x2 (5 : Int32))) * x3) * x3)), (.long (lv10 + (((2 : Int64) * x3) * (own_co x2 (4 : Int32)))))]))
  refine G1 (fun _ k => XS.ladd X6.here hx rfl (hb hby d1_221) rfl k) ?_
  show Goes _ _ _ _ _ _ _ (T6.setTop (mkF m 222 #[.val (.ref x0), .val (.int (0 : Int32)), .val (.long x2), nS, .val (.long x3), nS, .val (.long (own_co x2 (0 : Int32))), nS, .val (.long (own_co x2 (1 : Int32))), nS, .val (.long (own_co x2 (2 : Int32))), nS, .val (.long (own_co x2 (3 : Int32))), nS, .val (.long (own_co x2 (4 : Int32))), nS, .val (.long (own_co x2 (5 : Int32))), nS, .val (.long (own_co x2 (0 : Int32))), nS, .val (.long (own_co x2 (1 : Int32))), nS, .val (.long lv7), nS, .val (.long lv8), nS, .val (.long lv9), nS, .val (.long lv10), nS, .val (.long lv11), nS, nU, nU] [(.long ((lv10 + (((2 : Int64) * x3) * (own_co x2 (4 : Int32)))) + ((((3 : Int64) * (own_co x2 (5 : Int32))) * x3) * x3)))]))
  refine G1 (fun _ k => XS.lstore X6.here hx rfl (hb hby d1_222) rfl (l' := #[.val (.ref x0), .val (.int (0 : Int32)), .val (.long x2), nS, .val (.long x3), nS, .val (.long (own_co x2 (0 : Int32))), nS, .val (.long (own_co x2 (1 : Int32))), nS, .val (.long (own_co x2 (2 : Int32))), nS, .val (.long (own_co x2 (3 : Int32))), nS, .val (.long (own_co x2 (4 : Int32))), nS, .val (.long (own_co x2 (5 : Int32))), nS, .val (.long (own_co x2 (0 : Int32))), nS, .val (.long (own_co x2 (1 : Int32))), nS, .val (.long lv7), nS, .val (.long lv8), nS, .val (.long lv9), nS, .val (.long lv10), nS, .val (.long lv11), nS, .val (.long ((lv10 + (((2 : Int64) * x3) * (own_co x2 (4 : Int32)))) + ((((3 : Int64) * (own_co x2 (5 : Int32))) * x3) * x3))), nS]) rfl k) ?_
  show Goes _ _ _ _ _ _ _ (T6.setTop (mkF m 224 _ []))
  show Goes _ _ _ _ _ _ _ (T6.setTop (mkF m 224 #[.val (.ref x0), .val (.int (0 : Int32)), .val (.long x2), nS, .val (.long x3), nS, .val (.long (own_co x2 (0 : Int32))), nS, .val (.long (own_co x2 (1 : Int32))), nS, .val (.long (own_co x2 (2 : Int32))), nS, .val (.long (own_co x2 (3 : Int32))), nS, .val (.long (own_co x2 (4 : Int32))), nS, .val (.long (own_co x2 (5 : Int32))), nS, .val (.long (own_co x2 (0 : Int32))), nS, .val (.long (own_co x2 (1 : Int32))), nS, .val (.long lv7), nS, .val (.long lv8), nS, .val (.long lv9), nS, .val (.long lv10), nS, .val (.long lv11), nS, .val (.long ((lv10 + (((2 : Int64) * x3) * (own_co x2 (4 : Int32)))) + ((((3 : Int64) * (own_co x2 (5 : Int32))) * x3) * x3))), nS] []))
  generalize hg_lv12 : ((lv10 + (((2 : Int64) * x3) * (own_co x2 (4 : Int32)))) + ((((3 : Int64) * (own_co x2 (5 : Int32))) * x3) * x3)) = lv12
  show Goes _ _ _ _ _ _ _ (T6.setTop (mkF m 224 #[.val (.ref x0), .val (.int (0 : Int32)), .val (.long x2), nS, .val (.long x3), nS, .val (.long (own_co x2 (0 : Int32))), nS, .val (.long (own_co x2 (1 : Int32))), nS, .val (.long (own_co x2 (2 : Int32))), nS, .val (.long (own_co x2 (3 : Int32))), nS, .val (.long (own_co x2 (4 : Int32))), nS, .val (.long (own_co x2 (5 : Int32))), nS, .val (.long (own_co x2 (0 : Int32))), nS, .val (.long (own_co x2 (1 : Int32))), nS, .val (.long lv7), nS, .val (.long lv8), nS, .val (.long lv9), nS, .val (.long lv10), nS, .val (.long lv11), nS, .val (.long lv12), nS] []))
  have Llv12 : own_L lv12 (((((own_co x2 (1 : Int32)).toInt + (((4 : Int) * (own_co x2 (2 : Int32)).toInt) * x3.toInt)) + ((((12 : Int) * (own_co x2 (3 : Int32)).toInt) * x3.toInt) * x3.toInt)) + (((2 : Int) * x3.toInt) * (own_co x2 (4 : Int32)).toInt)) + ((((3 : Int) * (own_co x2 (5 : Int32)).toInt) * x3.toInt) * x3.toInt)) 2015744 := hg_lv12 ▸ (own_L.add (own_L.add Llv10 (own_L.mul (own_L.mul (⟨by decide, by decide⟩ : own_L (2 : Int64) 2 2) hs (by decide)) (own_coL x2 (4 : Int32)) (by decide)) (by decide)) (own_L.mul (own_L.mul (own_L.mul (⟨by decide, by decide⟩ : own_L (3 : Int64) 3 3) (own_coL x2 (5 : Int32)) (by decide)) hs (by decide)) hs (by decide)) (by decide))
  refine G1 (fun _ k => XS.aloadN X6.here hx rfl (hb hby d1_224) rfl rfl k) ?_
  refine G1 (fun _ k => XS.iloadN X6.here hx rfl (hb hby d1_225) rfl  k) ?_
  refine G1 (fun _ k => XS.lload X6.here hx rfl (hb hby d1_226) rfl  k) ?_
  obtain ⟨d13, hd13⟩ : ∃ z, FP.l2d (own_co x2 (0 : Int32)) = z := ⟨_, rfl⟩
  have fr13 : OwnF.Fr 0 (own_co x2 (0 : Int32)).toInt 512 d13 := by rw [← hd13]; exact own_frL (own_coL x2 (0 : Int32)) (by decide)
  refine G1 (fun _ k => XS.l2dS X6.here hx rfl (hb hby d1_228) rfl hd13 k) ?_
  show Goes _ _ _ _ _ _ _ (T6.setTop (mkF m 229 _ [(.double d13), (.int (0 : Int32)), (.ref x0)]))
  obtain ⟨cl14, Ar14, q14, S14, P14, H14, G14⟩ := id V_x0
  have hin14 : ¬ ((0 : Int32) < 0 ∨ cl14.slots.size ≤ ((0 : Int32)).toNatClampNeg) := inb_of S14 ⟨by decide, by decide⟩
  obtain ⟨T15, h15, X15, e15, W15, st15⟩ := stD X6 hx hZ eh6 Ar14 (j := (0 : Int32)) hin14 (g := (mkF m 229 #[.val (.ref x0), .val (.int (0 : Int32)), .val (.long x2), nS, .val (.long x3), nS, .val (.long (own_co x2 (0 : Int32))), nS, .val (.long (own_co x2 (1 : Int32))), nS, .val (.long (own_co x2 (2 : Int32))), nS, .val (.long (own_co x2 (3 : Int32))), nS, .val (.long (own_co x2 (4 : Int32))), nS, .val (.long (own_co x2 (5 : Int32))), nS, .val (.long (own_co x2 (0 : Int32))), nS, .val (.long (own_co x2 (1 : Int32))), nS, .val (.long lv7), nS, .val (.long lv8), nS, .val (.long lv9), nS, .val (.long lv10), nS, .val (.long lv11), nS, .val (.long lv12), nS] [(.double d13), (.int (0 : Int32)), (.ref x0)])) rfl rfl (hb hby d1_229)
  refine G1 st15 ?_
  have V15 : Arv Z h15 x0 ka .double (18 : Int32) [(.double d13), (.double ve1), (.double ve2), (.double ve3), (.double ve4), (.double ve5), (.double ve6), (.double ve7), (.double ve8), (.double ve9), (.double ve10), (.double ve11), (.double ve12), (.double ve13), (.double ve14), (.double ve15), (.double ve16), (.double ve17)] (.double (0 : UInt64)) := Arv.set Ar14 q14 S14 P14 H14 G14 rfl W15 0 rfl (Nat.le_of_ble_eq_true rfl)
  have f16 := V15
  have K17 : Keep h0 h15 [x0] := K0.wr W15 (Or.inl (List.mem_of_getElem? (i := 0) rfl))
  have Z17 : n0 ≤ h15.size := by rw [Wr.size W15]; exact Z0
  have N17 := Fr.snoc X15 NA6 g_x0
  show Goes _ _ _ _ _ _ _ (T15.setTop (mkF m 230 _ []))
  refine G1 (fun _ k => XS.aloadN X15.here hx rfl (hb hby d1_230) rfl rfl k) ?_
  refine G1 (fun _ k => XS.iconst X15.here hx rfl (hb hby d1_231) k) ?_
  refine G1 (fun _ k => XS.iloadN X15.here hx rfl (hb hby d1_232) rfl  k) ?_
  refine G1 (fun _ k => XS.iadd X15.here hx rfl (hb hby d1_233) rfl k) ?_
  show Goes _ _ _ _ _ _ _ (T15.setTop (mkF m 234 _ [(.int (3 : Int32)), (.ref x0)]))
  refine G1 (fun _ k => XS.lload X15.here hx rfl (hb hby d1_234) rfl  k) ?_
  obtain ⟨d18, hd18⟩ : ∃ z, FP.l2d (own_co x2 (1 : Int32)) = z := ⟨_, rfl⟩
  have fr18 : OwnF.Fr 0 (own_co x2 (1 : Int32)).toInt 512 d18 := by rw [← hd18]; exact own_frL (own_coL x2 (1 : Int32)) (by decide)
  refine G1 (fun _ k => XS.l2dS X15.here hx rfl (hb hby d1_236) rfl hd18 k) ?_
  show Goes _ _ _ _ _ _ _ (T15.setTop (mkF m 237 _ [(.double d18), (.int (3 : Int32)), (.ref x0)]))
  obtain ⟨cl19, Ar19, q19, S19, P19, H19, G19⟩ := id f16
  have hin19 : ¬ ((3 : Int32) < 0 ∨ cl19.slots.size ≤ ((3 : Int32)).toNatClampNeg) := inb_of S19 ⟨by decide, by decide⟩
  obtain ⟨T20, h20, X20, e20, W20, st20⟩ := stD X15 hx hZ e15 Ar19 (j := (3 : Int32)) hin19 (g := (mkF m 237 #[.val (.ref x0), .val (.int (0 : Int32)), .val (.long x2), nS, .val (.long x3), nS, .val (.long (own_co x2 (0 : Int32))), nS, .val (.long (own_co x2 (1 : Int32))), nS, .val (.long (own_co x2 (2 : Int32))), nS, .val (.long (own_co x2 (3 : Int32))), nS, .val (.long (own_co x2 (4 : Int32))), nS, .val (.long (own_co x2 (5 : Int32))), nS, .val (.long (own_co x2 (0 : Int32))), nS, .val (.long (own_co x2 (1 : Int32))), nS, .val (.long lv7), nS, .val (.long lv8), nS, .val (.long lv9), nS, .val (.long lv10), nS, .val (.long lv11), nS, .val (.long lv12), nS] [(.double d18), (.int (3 : Int32)), (.ref x0)])) rfl rfl (hb hby d1_237)
  refine G1 st20 ?_
  have V20 : Arv Z h20 x0 ka .double (18 : Int32) [(.double d13), (.double ve1), (.double ve2), (.double d18), (.double ve4), (.double ve5), (.double ve6), (.double ve7), (.double ve8), (.double ve9), (.double ve10), (.double ve11), (.double ve12), (.double ve13), (.double ve14), (.double ve15), (.double ve16), (.double ve17)] (.double (0 : UInt64)) := Arv.set Ar19 q19 S19 P19 H19 G19 rfl W20 3 rfl (Nat.le_of_ble_eq_true rfl)
  have f21 := V20
  have K22 : Keep h0 h20 [x0] := K17.wr W20 (Or.inl (List.mem_of_getElem? (i := 0) rfl))
  have Z22 : n0 ≤ h20.size := by rw [Wr.size W20]; exact Z17
  have N22 := Fr.snoc X20 N17 g_x0
  show Goes _ _ _ _ _ _ _ (T20.setTop (mkF m 238 _ []))
  refine G1 (fun _ k => XS.aloadN X20.here hx rfl (hb hby d1_238) rfl rfl k) ?_
  refine G1 (fun _ k => XS.bipush X20.here hx rfl (hb hby d1_239) k) ?_
  refine G1 (fun _ k => XS.iloadN X20.here hx rfl (hb hby d1_241) rfl  k) ?_
  refine G1 (fun _ k => XS.iadd X20.here hx rfl (hb hby d1_242) rfl k) ?_
  show Goes _ _ _ _ _ _ _ (T20.setTop (mkF m 243 _ [(.int (6 : Int32)), (.ref x0)]))
  refine G1 (fun _ k => XS.lload X20.here hx rfl (hb hby d1_243) rfl  k) ?_
  obtain ⟨d23, hd23⟩ : ∃ z, FP.l2d lv7 = z := ⟨_, rfl⟩
  have fr23 : OwnF.Fr 0 ((((own_co x2 (0 : Int32)).toInt + ((own_co x2 (1 : Int32)).toInt * x3.toInt)) + (((own_co x2 (2 : Int32)).toInt * x3.toInt) * x3.toInt)) + ((((own_co x2 (3 : Int32)).toInt * x3.toInt) * x3.toInt) * x3.toInt)) 2236928 d23 := by rw [← hd23]; exact own_frL Llv7 (by decide)
  refine G1 (fun _ k => XS.l2dS X20.here hx rfl (hb hby d1_245) rfl hd23 k) ?_
  show Goes _ _ _ _ _ _ _ (T20.setTop (mkF m 246 #[.val (.ref x0), .val (.int (0 : Int32)), .val (.long x2), nS, .val (.long x3), nS, .val (.long (own_co x2 (0 : Int32))), nS, .val (.long (own_co x2 (1 : Int32))), nS, .val (.long (own_co x2 (2 : Int32))), nS, .val (.long (own_co x2 (3 : Int32))), nS, .val (.long (own_co x2 (4 : Int32))), nS, .val (.long (own_co x2 (5 : Int32))), nS, .val (.long (own_co x2 (0 : Int32))), nS, .val (.long (own_co x2 (1 : Int32))), nS, .val (.long lv7), nS, .val (.long lv8), nS, .val (.long lv9), nS, .val (.long lv10), nS, .val (.long lv11), nS, .val (.long lv12), nS] [(.double d23), (.int (6 : Int32)), (.ref x0)]))
  obtain ⟨cl24, Ar24, q24, S24, P24, H24, G24⟩ := id f21
  have hin24 : ¬ ((6 : Int32) < 0 ∨ cl24.slots.size ≤ ((6 : Int32)).toNatClampNeg) := inb_of S24 ⟨by decide, by decide⟩
  obtain ⟨T25, h25, X25, e25, W25, st25⟩ := stD X20 hx hZ e20 Ar24 (j := (6 : Int32)) hin24 (g := (mkF m 246 #[.val (.ref x0), .val (.int (0 : Int32)), .val (.long x2), nS, .val (.long x3), nS, .val (.long (own_co x2 (0 : Int32))), nS, .val (.long (own_co x2 (1 : Int32))), nS, .val (.long (own_co x2 (2 : Int32))), nS, .val (.long (own_co x2 (3 : Int32))), nS, .val (.long (own_co x2 (4 : Int32))), nS, .val (.long (own_co x2 (5 : Int32))), nS, .val (.long (own_co x2 (0 : Int32))), nS, .val (.long (own_co x2 (1 : Int32))), nS, .val (.long lv7), nS, .val (.long lv8), nS, .val (.long lv9), nS, .val (.long lv10), nS, .val (.long lv11), nS, .val (.long lv12), nS] [(.double d23), (.int (6 : Int32)), (.ref x0)])) rfl rfl (hb hby d1_246)
  refine G1 st25 ?_
  have V25 : Arv Z h25 x0 ka .double (18 : Int32) [(.double d13), (.double ve1), (.double ve2), (.double d18), (.double ve4), (.double ve5), (.double d23), (.double ve7), (.double ve8), (.double ve9), (.double ve10), (.double ve11), (.double ve12), (.double ve13), (.double ve14), (.double ve15), (.double ve16), (.double ve17)] (.double (0 : UInt64)) := Arv.set Ar24 q24 S24 P24 H24 G24 rfl W25 6 rfl (Nat.le_of_ble_eq_true rfl)
  have f26 := V25
  have K27 : Keep h0 h25 [x0] := K22.wr W25 (Or.inl (List.mem_of_getElem? (i := 0) rfl))
  have Z27 : n0 ≤ h25.size := by rw [Wr.size W25]; exact Z22
  have N27 := Fr.snoc X25 N22 g_x0
  show Goes _ _ _ _ _ _ _ (T25.setTop (mkF m 247 _ []))
  refine G1 (fun _ k => XS.aloadN X25.here hx rfl (hb hby d1_247) rfl rfl k) ?_
  refine G1 (fun _ k => XS.bipush X25.here hx rfl (hb hby d1_248) k) ?_
  refine G1 (fun _ k => XS.iloadN X25.here hx rfl (hb hby d1_250) rfl  k) ?_
  refine G1 (fun _ k => XS.iadd X25.here hx rfl (hb hby d1_251) rfl k) ?_
  show Goes _ _ _ _ _ _ _ (T25.setTop (mkF m 252 _ [(.int (9 : Int32)), (.ref x0)]))
  refine G1 (fun _ k => XS.lload X25.here hx rfl (hb hby d1_252) rfl  k) ?_
  obtain ⟨d28, hd28⟩ : ∃ z, FP.l2d lv8 = z := ⟨_, rfl⟩
  have fr28 : OwnF.Fr 0 (((own_co x2 (1 : Int32)).toInt + (((2 : Int) * (own_co x2 (2 : Int32)).toInt) * x3.toInt)) + ((((3 : Int) * (own_co x2 (3 : Int32)).toInt) * x3.toInt) * x3.toInt)) 410112 d28 := by rw [← hd28]; exact own_frL Llv8 (by decide)
  refine G1 (fun _ k => XS.l2dS X25.here hx rfl (hb hby d1_254) rfl hd28 k) ?_
  show Goes _ _ _ _ _ _ _ (T25.setTop (mkF m 255 _ [(.double d28), (.int (9 : Int32)), (.ref x0)]))
  obtain ⟨cl29, Ar29, q29, S29, P29, H29, G29⟩ := id f26
  have hin29 : ¬ ((9 : Int32) < 0 ∨ cl29.slots.size ≤ ((9 : Int32)).toNatClampNeg) := inb_of S29 ⟨by decide, by decide⟩
  obtain ⟨T30, h30, X30, e30, W30, st30⟩ := stD X25 hx hZ e25 Ar29 (j := (9 : Int32)) hin29 (g := (mkF m 255 #[.val (.ref x0), .val (.int (0 : Int32)), .val (.long x2), nS, .val (.long x3), nS, .val (.long (own_co x2 (0 : Int32))), nS, .val (.long (own_co x2 (1 : Int32))), nS, .val (.long (own_co x2 (2 : Int32))), nS, .val (.long (own_co x2 (3 : Int32))), nS, .val (.long (own_co x2 (4 : Int32))), nS, .val (.long (own_co x2 (5 : Int32))), nS, .val (.long (own_co x2 (0 : Int32))), nS, .val (.long (own_co x2 (1 : Int32))), nS, .val (.long lv7), nS, .val (.long lv8), nS, .val (.long lv9), nS, .val (.long lv10), nS, .val (.long lv11), nS, .val (.long lv12), nS] [(.double d28), (.int (9 : Int32)), (.ref x0)])) rfl rfl (hb hby d1_255)
  refine G1 st30 ?_
  have V30 : Arv Z h30 x0 ka .double (18 : Int32) [(.double d13), (.double ve1), (.double ve2), (.double d18), (.double ve4), (.double ve5), (.double d23), (.double ve7), (.double ve8), (.double d28), (.double ve10), (.double ve11), (.double ve12), (.double ve13), (.double ve14), (.double ve15), (.double ve16), (.double ve17)] (.double (0 : UInt64)) := Arv.set Ar29 q29 S29 P29 H29 G29 rfl W30 9 rfl (Nat.le_of_ble_eq_true rfl)
  have f31 := V30
  have K32 : Keep h0 h30 [x0] := K27.wr W30 (Or.inl (List.mem_of_getElem? (i := 0) rfl))
  have Z32 : n0 ≤ h30.size := by rw [Wr.size W30]; exact Z27
  have N32 := Fr.snoc X30 N27 g_x0
  show Goes _ _ _ _ _ _ _ (T30.setTop (mkF m 256 _ []))
  refine G1 (fun _ k => XS.aloadN X30.here hx rfl (hb hby d1_256) rfl rfl k) ?_
  refine G1 (fun _ k => XS.bipush X30.here hx rfl (hb hby d1_257) k) ?_
  refine G1 (fun _ k => XS.iloadN X30.here hx rfl (hb hby d1_259) rfl  k) ?_
  refine G1 (fun _ k => XS.iadd X30.here hx rfl (hb hby d1_260) rfl k) ?_
  show Goes _ _ _ _ _ _ _ (T30.setTop (mkF m 261 _ [(.int (12 : Int32)), (.ref x0)]))
  refine G1 (fun _ k => XS.lload X30.here hx rfl (hb hby d1_261) rfl  k) ?_
  obtain ⟨d33, hd33⟩ : ∃ z, FP.l2d lv11 = z := ⟨_, rfl⟩
  have fr33 : OwnF.Fr 0 (((((own_co x2 (0 : Int32)).toInt + (((2 : Int) * (own_co x2 (1 : Int32)).toInt) * x3.toInt)) + ((((4 : Int) * (own_co x2 (2 : Int32)).toInt) * x3.toInt) * x3.toInt)) + (((((8 : Int) * (own_co x2 (3 : Int32)).toInt) * x3.toInt) * x3.toInt) * x3.toInt)) + ((x3.toInt * x3.toInt) * ((own_co x2 (4 : Int32)).toInt + ((own_co x2 (5 : Int32)).toInt * x3.toInt)))) 19546624 d33 := by rw [← hd33]; exact own_frL Llv11 (by decide)
  refine G1 (fun _ k => XS.l2dS X30.here hx rfl (hb hby d1_263) rfl hd33 k) ?_
  show Goes _ _ _ _ _ _ _ (T30.setTop (mkF m 264 _ [(.double d33), (.int (12 : Int32)), (.ref x0)]))
  obtain ⟨cl34, Ar34, q34, S34, P34, H34, G34⟩ := id f31
  have hin34 : ¬ ((12 : Int32) < 0 ∨ cl34.slots.size ≤ ((12 : Int32)).toNatClampNeg) := inb_of S34 ⟨by decide, by decide⟩
  obtain ⟨T35, h35, X35, e35, W35, st35⟩ := stD X30 hx hZ e30 Ar34 (j := (12 : Int32)) hin34 (g := (mkF m 264 #[.val (.ref x0), .val (.int (0 : Int32)), .val (.long x2), nS, .val (.long x3), nS, .val (.long (own_co x2 (0 : Int32))), nS, .val (.long (own_co x2 (1 : Int32))), nS, .val (.long (own_co x2 (2 : Int32))), nS, .val (.long (own_co x2 (3 : Int32))), nS, .val (.long (own_co x2 (4 : Int32))), nS, .val (.long (own_co x2 (5 : Int32))), nS, .val (.long (own_co x2 (0 : Int32))), nS, .val (.long (own_co x2 (1 : Int32))), nS, .val (.long lv7), nS, .val (.long lv8), nS, .val (.long lv9), nS, .val (.long lv10), nS, .val (.long lv11), nS, .val (.long lv12), nS] [(.double d33), (.int (12 : Int32)), (.ref x0)])) rfl rfl (hb hby d1_264)
  refine G1 st35 ?_
  have V35 : Arv Z h35 x0 ka .double (18 : Int32) [(.double d13), (.double ve1), (.double ve2), (.double d18), (.double ve4), (.double ve5), (.double d23), (.double ve7), (.double ve8), (.double d28), (.double ve10), (.double ve11), (.double d33), (.double ve13), (.double ve14), (.double ve15), (.double ve16), (.double ve17)] (.double (0 : UInt64)) := Arv.set Ar34 q34 S34 P34 H34 G34 rfl W35 12 rfl (Nat.le_of_ble_eq_true rfl)
  have f36 := V35
  have K37 : Keep h0 h35 [x0] := K32.wr W35 (Or.inl (List.mem_of_getElem? (i := 0) rfl))
  have Z37 : n0 ≤ h35.size := by rw [Wr.size W35]; exact Z32
  have N37 := Fr.snoc X35 N32 g_x0
  show Goes _ _ _ _ _ _ _ (T35.setTop (mkF m 265 #[.val (.ref x0), .val (.int (0 : Int32)), .val (.long x2), nS, .val (.long x3), nS, .val (.long (own_co x2 (0 : Int32))), nS, .val (.long (own_co x2 (1 : Int32))), nS, .val (.long (own_co x2 (2 : Int32))), nS, .val (.long (own_co x2 (3 : Int32))), nS, .val (.long (own_co x2 (4 : Int32))), nS, .val (.long (own_co x2 (5 : Int32))), nS, .val (.long (own_co x2 (0 : Int32))), nS, .val (.long (own_co x2 (1 : Int32))), nS, .val (.long lv7), nS, .val (.long lv8), nS, .val (.long lv9), nS, .val (.long lv10), nS, .val (.long lv11), nS, .val (.long lv12), nS] []))
  refine G1 (fun _ k => XS.aloadN X35.here hx rfl (hb hby d1_265) rfl rfl k) ?_
  refine G1 (fun _ k => XS.bipush X35.here hx rfl (hb hby d1_266) k) ?_
  refine G1 (fun _ k => XS.iloadN X35.here hx rfl (hb hby d1_268) rfl  k) ?_
  refine G1 (fun _ k => XS.iadd X35.here hx rfl (hb hby d1_269) rfl k) ?_
  show Goes _ _ _ _ _ _ _ (T35.setTop (mkF m 270 _ [(.int (15 : Int32)), (.ref x0)]))
  refine G1 (fun _ k => XS.lload X35.here hx rfl (hb hby d1_270) rfl  k) ?_
  obtain ⟨d38, hd38⟩ : ∃ z, FP.l2d lv12 = z := ⟨_, rfl⟩
  have fr38 : OwnF.Fr 0 (((((own_co x2 (1 : Int32)).toInt + (((4 : Int) * (own_co x2 (2 : Int32)).toInt) * x3.toInt)) + ((((12 : Int) * (own_co x2 (3 : Int32)).toInt) * x3.toInt) * x3.toInt)) + (((2 : Int) * x3.toInt) * (own_co x2 (4 : Int32)).toInt)) + ((((3 : Int) * (own_co x2 (5 : Int32)).toInt) * x3.toInt) * x3.toInt)) 2015744 d38 := by rw [← hd38]; exact own_frL Llv12 (by decide)
  refine G1 (fun _ k => XS.l2dS X35.here hx rfl (hb hby d1_272) rfl hd38 k) ?_
  show Goes _ _ _ _ _ _ _ (T35.setTop (mkF m 273 _ [(.double d38), (.int (15 : Int32)), (.ref x0)]))
  obtain ⟨cl39, Ar39, q39, S39, P39, H39, G39⟩ := id f36
  have hin39 : ¬ ((15 : Int32) < 0 ∨ cl39.slots.size ≤ ((15 : Int32)).toNatClampNeg) := inb_of S39 ⟨by decide, by decide⟩
  obtain ⟨T40, h40, X40, e40, W40, st40⟩ := stD X35 hx hZ e35 Ar39 (j := (15 : Int32)) hin39 (g := (mkF m 273 #[.val (.ref x0), .val (.int (0 : Int32)), .val (.long x2), nS, .val (.long x3), nS, .val (.long (own_co x2 (0 : Int32))), nS, .val (.long (own_co x2 (1 : Int32))), nS, .val (.long (own_co x2 (2 : Int32))), nS, .val (.long (own_co x2 (3 : Int32))), nS, .val (.long (own_co x2 (4 : Int32))), nS, .val (.long (own_co x2 (5 : Int32))), nS, .val (.long (own_co x2 (0 : Int32))), nS, .val (.long (own_co x2 (1 : Int32))), nS, .val (.long lv7), nS, .val (.long lv8), nS, .val (.long lv9), nS, .val (.long lv10), nS, .val (.long lv11), nS, .val (.long lv12), nS] [(.double d38), (.int (15 : Int32)), (.ref x0)])) rfl rfl (hb hby d1_273)
  refine G1 st40 ?_
  have V40 : Arv Z h40 x0 ka .double (18 : Int32) [(.double d13), (.double ve1), (.double ve2), (.double d18), (.double ve4), (.double ve5), (.double d23), (.double ve7), (.double ve8), (.double d28), (.double ve10), (.double ve11), (.double d33), (.double ve13), (.double ve14), (.double d38), (.double ve16), (.double ve17)] (.double (0 : UInt64)) := Arv.set Ar39 q39 S39 P39 H39 G39 rfl W40 15 rfl (Nat.le_of_ble_eq_true rfl)
  have f41 := V40
  have K42 : Keep h0 h40 [x0] := K37.wr W40 (Or.inl (List.mem_of_getElem? (i := 0) rfl))
  have Z42 : n0 ≤ h40.size := by rw [Wr.size W40]; exact Z37
  have N42 := Fr.snoc X40 N37 g_x0
  show Goes _ _ _ _ _ _ _ (T40.setTop (mkF m 274 _ []))
  exact Goes.retV X40 hx (BodyLoose.notSynchronized Bd) Bd.returns (hb hby d1_274) (by show Q1_0 Z x0 x2 x3 ka ve0 ve1 ve2 ve3 ve4 ve5 ve6 ve7 ve8 ve9 ve10 ve11 ve12 ve13 ve14 ve15 ve16 ve17 h0 n0 none T40.heap _; rw [e40]; exact ⟨N42, K42, rfl, d13, d18, d23, d28, d33, d38, (own_co x2 (0 : Int32)).toInt, (own_co x2 (1 : Int32)).toInt, ((((own_co x2 (0 : Int32)).toInt + ((own_co x2 (1 : Int32)).toInt * x3.toInt)) + (((own_co x2 (2 : Int32)).toInt * x3.toInt) * x3.toInt)) + ((((own_co x2 (3 : Int32)).toInt * x3.toInt) * x3.toInt) * x3.toInt)), (((own_co x2 (1 : Int32)).toInt + (((2 : Int) * (own_co x2 (2 : Int32)).toInt) * x3.toInt)) + ((((3 : Int) * (own_co x2 (3 : Int32)).toInt) * x3.toInt) * x3.toInt)), (((((own_co x2 (0 : Int32)).toInt + (((2 : Int) * (own_co x2 (1 : Int32)).toInt) * x3.toInt)) + ((((4 : Int) * (own_co x2 (2 : Int32)).toInt) * x3.toInt) * x3.toInt)) + (((((8 : Int) * (own_co x2 (3 : Int32)).toInt) * x3.toInt) * x3.toInt) * x3.toInt)) + ((x3.toInt * x3.toInt) * ((own_co x2 (4 : Int32)).toInt + ((own_co x2 (5 : Int32)).toInt * x3.toInt)))), (((((own_co x2 (1 : Int32)).toInt + (((4 : Int) * (own_co x2 (2 : Int32)).toInt) * x3.toInt)) + ((((12 : Int) * (own_co x2 (3 : Int32)).toInt) * x3.toInt) * x3.toInt)) + (((2 : Int) * x3.toInt) * (own_co x2 (4 : Int32)).toInt)) + ((((3 : Int) * (own_co x2 (5 : Int32)).toInt) * x3.toInt) * x3.toInt)), f41, rfl, fr13, rfl, fr18, rfl, fr23, rfl, fr28, rfl, fr33, rfl, fr38⟩) (by decide) (by decide)
theorem ef_1_1 (m : MethodId) (x0 : Addr) (x2 : Int64) (x3 : Int64) (ka : ClassId) (ve0 : UInt64) (ve1 : UInt64) (ve2 : UInt64) (ve3 : UInt64) (ve4 : UInt64) (ve5 : UInt64) (ve6 : UInt64) (ve7 : UInt64) (ve8 : UInt64) (ve9 : UInt64) (ve10 : UInt64) (ve11 : UInt64) (ve12 : UInt64) (ve13 : UInt64) (ve14 : UInt64) (ve15 : UInt64) (ve16 : UInt64) (ve17 : UInt64)  : entryFrame m #[(.ref x0), (.int (1 : Int32)), (.long x2), (.long x3)] 34 = mkF m 0 #[.val (.ref x0), .val (.int (1 : Int32)), .val (.long x2), .second, .val (.long x3), .second, .unset, .unset, .unset, .unset, .unset, .unset, .unset, .unset, .unset, .unset, .unset, .unset, .unset, .unset, .unset, .unset, .unset, .unset, .unset, .unset, .unset, .unset, .unset, .unset, .unset, .unset, .unset, .unset] [] := by first | (simp [entryFrame, mkF, argsToLocals, Value.category]; done) | rfl
def Q1_1 (Z : State) (x0 : Addr) (x2 : Int64) (x3 : Int64) (ka : ClassId) (ve0 : UInt64) (ve1 : UInt64) (ve2 : UInt64) (ve3 : UInt64) (ve4 : UInt64) (ve5 : UInt64) (ve6 : UInt64) (ve7 : UInt64) (ve8 : UInt64) (ve9 : UInt64) (ve10 : UInt64) (ve11 : UInt64) (ve12 : UInt64) (ve13 : UInt64) (ve14 : UInt64) (ve15 : UInt64) (ve16 : UInt64) (ve17 : UInt64) (h0 : Heap) (n0 : Nat) (v : Option Value) (h : Heap) (L : List Loc) : Prop := Fr n0 L ∧ Keep h0 h [x0] ∧ v = none ∧ ∃ (q0 q1 q2 q3 q4 q5 : UInt64) (vP0 vP1 vP2 vP3 vP4 vP5 : Int), Arv Z h x0 ka .double (18 : Int32) [(.double ve0), (.double q0), (.double ve2), (.double ve3), (.double q1), (.double ve5), (.double ve6), (.double q2), (.double ve8), (.double ve9), (.double q3), (.double ve11), (.double ve12), (.double q4), (.double ve14), (.double ve15), (.double q5), (.double ve17)] (.double (0 : UInt64)) ∧ vP0 = (own_co x2 (0 : Int32)).toInt ∧ OwnF.Fr 0 vP0 512 q0 ∧ vP1 = (own_co x2 (1 : Int32)).toInt ∧ OwnF.Fr 0 vP1 512 q1 ∧ vP2 = ((((own_co x2 (0 : Int32)).toInt + ((own_co x2 (1 : Int32)).toInt * x3.toInt)) + (((own_co x2 (2 : Int32)).toInt * x3.toInt) * x3.toInt)) + ((((own_co x2 (3 : Int32)).toInt * x3.toInt) * x3.toInt) * x3.toInt)) ∧ OwnF.Fr 0 vP2 2236928 q2 ∧ vP3 = (((own_co x2 (1 : Int32)).toInt + (((2 : Int) * (own_co x2 (2 : Int32)).toInt) * x3.toInt)) + ((((3 : Int) * (own_co x2 (3 : Int32)).toInt) * x3.toInt) * x3.toInt)) ∧ OwnF.Fr 0 vP3 410112 q3 ∧ vP4 = (((((own_co x2 (0 : Int32)).toInt + (((2 : Int) * (own_co x2 (1 : Int32)).toInt) * x3.toInt)) + ((((4 : Int) * (own_co x2 (2 : Int32)).toInt) * x3.toInt) * x3.toInt)) + (((((8 : Int) * (own_co x2 (3 : Int32)).toInt) * x3.toInt) * x3.toInt) * x3.toInt)) + ((x3.toInt * x3.toInt) * ((own_co x2 (4 : Int32)).toInt + ((own_co x2 (5 : Int32)).toInt * x3.toInt)))) ∧ OwnF.Fr 0 vP4 19546624 q4 ∧ vP5 = (((((own_co x2 (1 : Int32)).toInt + (((4 : Int) * (own_co x2 (2 : Int32)).toInt) * x3.toInt)) + ((((12 : Int) * (own_co x2 (3 : Int32)).toInt) * x3.toInt) * x3.toInt)) + (((2 : Int) * x3.toInt) * (own_co x2 (4 : Int32)).toInt)) + ((((3 : Int) * (own_co x2 (5 : Int32)).toInt) * x3.toInt) * x3.toInt)) ∧ OwnF.Fr 0 vP5 2015744 q5
set_option maxRecDepth 65536 in
set_option maxHeartbeats 40000000 in
theorem rm1_1 (l : Launch) (Z : State) (a0 : Array Value) (hw : ∀ d ∈ tables_1, d.before a0 Z = true) (ws : List Jvm.Cond) (x0 : Addr) (x2 : Int64) (x3 : Int64) (ka : ClassId) (ve0 : UInt64) (ve1 : UInt64) (ve2 : UInt64) (ve3 : UInt64) (ve4 : UInt64) (ve5 : UInt64) (ve6 : UInt64) (ve7 : UInt64) (ve8 : UInt64) (ve9 : UInt64) (ve10 : UInt64) (ve11 : UInt64) (ve12 : UInt64) (ve13 : UInt64) (ve14 : UInt64) (ve15 : UInt64) (ve16 : UInt64) (ve17 : UInt64) (h0 : Heap) (n0 : Nat) (Z0 : n0 ≤ h0.size) (V_x0 : Arv Z h0 x0 ka .double (18 : Int32) [(.double ve0), (.double ve1), (.double ve2), (.double ve3), (.double ve4), (.double ve5), (.double ve6), (.double ve7), (.double ve8), (.double ve9), (.double ve10), (.double ve11), (.double ve12), (.double ve13), (.double ve14), (.double ve15), (.double ve16), (.double ve17)] (.double (0 : UInt64))) (g_x0 : n0 ≤ x0) (hs : own_L x3 x3.toInt 16) :
    MetFree l (⟨"com/example/orbitloom/orbitloom/orbits/TrackAtPinLaw", "fill", "([DIJJ)V"⟩ : MethodName) (head1 (Jvm.Cond.code (⟨"com/example/orbitloom/orbitloom/orbits/TrackAtPinLaw", "fill", "([DIJJ)V"⟩ : MethodName) method_4_code 34 none :: ws) ({ frames := 1, cells := 0, slots := 0, locals := 14 } : Room)) (fun a U => a = #[(.ref x0), (.int (1 : Int32)), (.long x2), (.long x3)] ∧ Z.Warmed39 U.vm ∧ U.heap = h0) (fun _ _ _ _ _ => True) (fun _ U o U' => ∃ v L, o = .returned v ∧ Q1_1 Z x0 x2 x3 ka ve0 ve1 ve2 ve3 ve4 ve5 ve6 ve7 ve8 ve9 ve10 ve11 ve12 ve13 ve14 ve15 ve16 ve17 h0 n0 v U'.heap L ∧ FrameEnd U o U' L ({ frames := 1, cells := 0, slots := 0, locals := 14 } : Room).cells ({ frames := 1, cells := 0, slots := 0, locals := 14 } : Room).slots) := by
  refine MetFree.of_bodySF (plainFor_of_name pn_1) hisR ?_
  intro p e s m args below meth c s₁ Bd hml0 hP hK
  obtain ⟨rfl, hZ, hh⟩ := hP
  have w_3 := hw _ (List.mem_of_getElem? (i := 3) rfl)
  have w_5 := hw _ (List.mem_of_getElem? (i := 5) rfl)
  have w_6 := hw _ (List.mem_of_getElem? (i := 6) rfl)
  have w_7 := hw _ (List.mem_of_getElem? (i := 7) rfl)
  have w_8 := hw _ (List.mem_of_getElem? (i := 8) rfl)
  have w_9 := hw _ (List.mem_of_getElem? (i := 9) rfl)
  have w_10 := hw _ (List.mem_of_getElem? (i := 10) rfl)
  have w_11 := hw _ (List.mem_of_getElem? (i := 11) rfl)
  have w_12 := hw _ (List.mem_of_getElem? (i := 12) rfl)
  have hx := Bd.exec
  have hby := Bd.bytes
  have hml : c.maxLocals = 34 := hml0
  have hown : s.vm.findClass "com/example/orbitloom/orbitloom/orbits/TrackAtPinLaw" = some m.cls := findClass_of_methodNamed Bd.named
  have hnm := (name_of_methodNamed Bd.named Bd.method).1
  have X0 : Stand p l e ({ frames := 1, cells := 0, slots := 0, locals := 14 } : Room) s m #[(.ref x0), (.int (1 : Int32)), (.long x2), (.long x3)] below meth c s₁ [] 0 0 := Stand.of_body Bd
  have e0 : s₁.heap = h0 := by rw [← hh, Bd.state]; rfl
  have N0 := Fr.nil n0
  have K0 : Keep h0 h0 [x0] := Keep.refl h0 _
  refine (?_ : Goes p e below s ({ frames := 1, cells := 0, slots := 0, locals := 14 } : Room).cells ({ frames := 1, cells := 0, slots := 0, locals := 14 } : Room).slots (fun v h L => Q1_1 Z x0 x2 x3 ka ve0 ve1 ve2 ve3 ve4 ve5 ve6 ve7 ve8 ve9 ve10 ve11 ve12 ve13 ve14 ve15 ve16 ve17 h0 n0 v h L) (s₁.setTop (entryFrame m #[(.ref x0), (.int (1 : Int32)), (.long x2), (.long x3)] 34)))
  rw [ef_1_1 m x0 x2 x3 ka ve0 ve1 ve2 ve3 ve4 ve5 ve6 ve7 ve8 ve9 ve10 ve11 ve12 ve13 ve14 ve15 ve16 ve17 ]
  show Goes _ _ _ _ _ _ _ (s₁.setTop (mkF m 0 #[.val (.ref x0), .val (.int (1 : Int32)), .val (.long x2), nS, .val (.long x3), nS, nU, nU, nU, nU, nU, nU, nU, nU, nU, nU, nU, nU, nU, nU, nU, nU, nU, nU, nU, nU, nU, nU, nU, nU, nU, nU, nU, nU] []))
  refine G1 (fun _ k => XS.lloadN X0.here hx rfl (hb hby d1_0) rfl  k) ?_
  refine G1 (fun _ k => XS.iconst X0.here hx rfl (hb hby d1_1) k) ?_
  obtain ⟨_, _, ⟨T1, L1, k1, n1⟩, -, X1, ⟨Lc1, hQ1, l1, y1, z1⟩, st1⟩ := Jvm.LawKit.callS X0 hx (y := (⟨"com/example/orbitloom/orbitloom/orbits/TrackAtPinLaw", "co", "(JI)J"⟩ : MethodName)) hown (mvT hZ w_5) (mvT hZ w_6) (mvT hZ w_3) (mvT hZ w_7) (by decide) (backOf (W := 0) (rm2 l Z a0 hw [] x2 (0 : Int32) h0 n0 Z0) hZ w_7 w_3 (by decide) (by decide)) (g := (mkF m 2 #[.val (.ref x0), .val (.int (1 : Int32)), .val (.long x2), nS, .val (.long x3), nS, nU, nU, nU, nU, nU, nU, nU, nU, nU, nU, nU, nU, nU, nU, nU, nU, nU, nU, nU, nU, nU, nU, nU, nU, nU, nU, nU, nU] [(.int (0 : Int32)), (.long x2)])) rfl (by rw [hml]; rfl) (argsL := [(.long x2), (.int (0 : Int32))]) (rest := []) (lenOf pd_1 rfl) rfl (by show 2 * 0 + _ ≤ _; exact Nat.le_of_eq rfl) (hb hby d1_2) (fun _ _ => ⟨rfl, e0, (by decide : 0 + 0 ≤ _), (by decide : 0 + 0 ≤ _)⟩)
  dsimp only [Pt.U, Pt.locs, Pt.cells, Pt.slots] at X1 l1 y1 z1 st1 hQ1
  rw [l1, y1, z1] at X1
  obtain ⟨N1, eh1, hR1⟩ := hQ1
  have NA1 := Fr.app N0 N1
  obtain rfl := hR1
  refine G1 st1 ?_
  show Goes _ _ _ _ _ _ _ (T1.setTop (mkF m 5 _ [(.long (own_co x2 (0 : Int32)))]))
  refine G1 (fun _ k => XS.lstore X1.here hx rfl (hb hby d1_5) rfl (l' := #[.val (.ref x0), .val (.int (1 : Int32)), .val (.long x2), nS, .val (.long x3), nS, .val (.long (own_co x2 (0 : Int32))), nS, nU, nU, nU, nU, nU, nU, nU, nU, nU, nU, nU, nU, nU, nU, nU, nU, nU, nU, nU, nU, nU, nU, nU, nU, nU, nU]) rfl k) ?_
  show Goes _ _ _ _ _ _ _ (T1.setTop (mkF m 7 _ []))
  refine G1 (fun _ k => XS.lloadN X1.here hx rfl (hb hby d1_7) rfl  k) ?_
  refine G1 (fun _ k => XS.iconst X1.here hx rfl (hb hby d1_8) k) ?_
  obtain ⟨_, _, ⟨T2, L2, k2, n2⟩, -, X2, ⟨Lc2, hQ2, l2, y2, z2⟩, st2⟩ := Jvm.LawKit.callS X1 hx (y := (⟨"com/example/orbitloom/orbitloom/orbits/TrackAtPinLaw", "co", "(JI)J"⟩ : MethodName)) hown (mvT hZ w_5) (mvT hZ w_6) (mvT hZ w_3) (mvT hZ w_7) (by decide) (backOf (W := 0) (rm2 l Z a0 hw [] x2 (1 : Int32) h0 n0 Z0) hZ w_7 w_3 (by decide) (by decide)) (g := (mkF m 9 #[.val (.ref x0), .val (.int (1 : Int32)), .val (.long x2), nS, .val (.long x3), nS, .val (.long (own_co x2 (0 : Int32))), nS, nU, nU, nU, nU, nU, nU, nU, nU, nU, nU, nU, nU, nU, nU, nU, nU, nU, nU, nU, nU, nU, nU, nU, nU, nU, nU] [(.int (1 : Int32)), (.long x2)])) rfl (by rw [hml]; rfl) (argsL := [(.long x2), (.int (1 : Int32))]) (rest := []) (lenOf pd_1 rfl) rfl (by show 2 * 0 + _ ≤ _; exact Nat.le_of_eq rfl) (hb hby d1_9) (fun _ _ => ⟨rfl, eh1, (by decide : 0 + 0 ≤ _), (by decide : 0 + 0 ≤ _)⟩)
  dsimp only [Pt.U, Pt.locs, Pt.cells, Pt.slots] at X2 l2 y2 z2 st2 hQ2
  rw [l2, y2, z2] at X2
  obtain ⟨N2, eh2, hR2⟩ := hQ2
  have NA2 := Fr.app NA1 N2
  obtain rfl := hR2
  refine G1 st2 ?_
  show Goes _ _ _ _ _ _ _ (T2.setTop (mkF m 12 _ [(.long (own_co x2 (1 : Int32)))]))
  refine G1 (fun _ k => XS.lstore X2.here hx rfl (hb hby d1_12) rfl (l' := #[.val (.ref x0), .val (.int (1 : Int32)), .val (.long x2), nS, .val (.long x3), nS, .val (.long (own_co x2 (0 : Int32))), nS, .val (.long (own_co x2 (1 : Int32))), nS, nU, nU, nU, nU, nU, nU, nU, nU, nU, nU, nU, nU, nU, nU, nU, nU, nU, nU, nU, nU, nU, nU, nU, nU]) rfl k) ?_
  show Goes _ _ _ _ _ _ _ (T2.setTop (mkF m 14 _ []))
  refine G1 (fun _ k => XS.lloadN X2.here hx rfl (hb hby d1_14) rfl  k) ?_
  refine G1 (fun _ k => XS.iconst X2.here hx rfl (hb hby d1_15) k) ?_
  obtain ⟨_, _, ⟨T3, L3, k3, n3⟩, -, X3, ⟨Lc3, hQ3, l3, y3, z3⟩, st3⟩ := Jvm.LawKit.callS X2 hx (y := (⟨"com/example/orbitloom/orbitloom/orbits/TrackAtPinLaw", "co", "(JI)J"⟩ : MethodName)) hown (mvT hZ w_5) (mvT hZ w_6) (mvT hZ w_3) (mvT hZ w_7) (by decide) (backOf (W := 0) (rm2 l Z a0 hw [] x2 (2 : Int32) h0 n0 Z0) hZ w_7 w_3 (by decide) (by decide)) (g := (mkF m 16 #[.val (.ref x0), .val (.int (1 : Int32)), .val (.long x2), nS, .val (.long x3), nS, .val (.long (own_co x2 (0 : Int32))), nS, .val (.long (own_co x2 (1 : Int32))), nS, nU, nU, nU, nU, nU, nU, nU, nU, nU, nU, nU, nU, nU, nU, nU, nU, nU, nU, nU, nU, nU, nU, nU, nU] [(.int (2 : Int32)), (.long x2)])) rfl (by rw [hml]; rfl) (argsL := [(.long x2), (.int (2 : Int32))]) (rest := []) (lenOf pd_1 rfl) rfl (by show 2 * 0 + _ ≤ _; exact Nat.le_of_eq rfl) (hb hby d1_16) (fun _ _ => ⟨rfl, eh2, (by decide : 0 + 0 ≤ _), (by decide : 0 + 0 ≤ _)⟩)
  dsimp only [Pt.U, Pt.locs, Pt.cells, Pt.slots] at X3 l3 y3 z3 st3 hQ3
  rw [l3, y3, z3] at X3
  obtain ⟨N3, eh3, hR3⟩ := hQ3
  have NA3 := Fr.app NA2 N3
  obtain rfl := hR3
  refine G1 st3 ?_
  show Goes _ _ _ _ _ _ _ (T3.setTop (mkF m 19 _ [(.long (own_co x2 (2 : Int32)))]))
  refine G1 (fun _ k => XS.lstore X3.here hx rfl (hb hby d1_19) rfl (l' := #[.val (.ref x0), .val (.int (1 : Int32)), .val (.long x2), nS, .val (.long x3), nS, .val (.long (own_co x2 (0 : Int32))), nS, .val (.long (own_co x2 (1 : Int32))), nS, .val (.long (own_co x2 (2 : Int32))), nS, nU, nU, nU, nU, nU, nU, nU, nU, nU, nU, nU, nU, nU, nU, nU, nU, nU, nU, nU, nU, nU, nU]) rfl k) ?_
  show Goes _ _ _ _ _ _ _ (T3.setTop (mkF m 21 _ []))
  refine G1 (fun _ k => XS.lloadN X3.here hx rfl (hb hby d1_21) rfl  k) ?_
  refine G1 (fun _ k => XS.iconst X3.here hx rfl (hb hby d1_22) k) ?_
  obtain ⟨_, _, ⟨T4, L4, k4, n4⟩, -, X4, ⟨Lc4, hQ4, l4, y4, z4⟩, st4⟩ := Jvm.LawKit.callS X3 hx (y := (⟨"com/example/orbitloom/orbitloom/orbits/TrackAtPinLaw", "co", "(JI)J"⟩ : MethodName)) hown (mvT hZ w_5) (mvT hZ w_6) (mvT hZ w_3) (mvT hZ w_7) (by decide) (backOf (W := 0) (rm2 l Z a0 hw [] x2 (3 : Int32) h0 n0 Z0) hZ w_7 w_3 (by decide) (by decide)) (g := (mkF m 23 #[.val (.ref x0), .val (.int (1 : Int32)), .val (.long x2), nS, .val (.long x3), nS, .val (.long (own_co x2 (0 : Int32))), nS, .val (.long (own_co x2 (1 : Int32))), nS, .val (.long (own_co x2 (2 : Int32))), nS, nU, nU, nU, nU, nU, nU, nU, nU, nU, nU, nU, nU, nU, nU, nU, nU, nU, nU, nU, nU, nU, nU] [(.int (3 : Int32)), (.long x2)])) rfl (by rw [hml]; rfl) (argsL := [(.long x2), (.int (3 : Int32))]) (rest := []) (lenOf pd_1 rfl) rfl (by show 2 * 0 + _ ≤ _; exact Nat.le_of_eq rfl) (hb hby d1_23) (fun _ _ => ⟨rfl, eh3, (by decide : 0 + 0 ≤ _), (by decide : 0 + 0 ≤ _)⟩)
  dsimp only [Pt.U, Pt.locs, Pt.cells, Pt.slots] at X4 l4 y4 z4 st4 hQ4
  rw [l4, y4, z4] at X4
  obtain ⟨N4, eh4, hR4⟩ := hQ4
  have NA4 := Fr.app NA3 N4
  obtain rfl := hR4
  refine G1 st4 ?_
  show Goes _ _ _ _ _ _ _ (T4.setTop (mkF m 26 #[.val (.ref x0), .val (.int (1 : Int32)), .val (.long x2), nS, .val (.long x3), nS, .val (.long (own_co x2 (0 : Int32))), nS, .val (.long (own_co x2 (1 : Int32))), nS, .val (.long (own_co x2 (2 : Int32))), nS, nU, nU, nU, nU, nU, nU, nU, nU, nU, nU, nU, nU, nU, nU, nU, nU, nU, nU, nU, nU, nU, nU] [(.long (own_co x2 (3 : Int32)))]))
  refine G1 (fun _ k => XS.lstore X4.here hx rfl (hb hby d1_26) rfl (l' := #[.val (.ref x0), .val (.int (1 : Int32)), .val (.long x2), nS, .val (.long x3), nS, .val (.long (own_co x2 (0 : Int32))), nS, .val (.long (own_co x2 (1 : Int32))), nS, .val (.long (own_co x2 (2 : Int32))), nS, .val (.long (own_co x2 (3 : Int32))), nS, nU, nU, nU, nU, nU, nU, nU, nU, nU, nU, nU, nU, nU, nU, nU, nU, nU, nU, nU, nU]) rfl k) ?_
  show Goes _ _ _ _ _ _ _ (T4.setTop (mkF m 28 _ []))
  refine G1 (fun _ k => XS.lloadN X4.here hx rfl (hb hby d1_28) rfl  k) ?_
  refine G1 (fun _ k => XS.iconst X4.here hx rfl (hb hby d1_29) k) ?_
  obtain ⟨_, _, ⟨T5, L5, k5, n5⟩, -, X5, ⟨Lc5, hQ5, l5, y5, z5⟩, st5⟩ := Jvm.LawKit.callS X4 hx (y := (⟨"com/example/orbitloom/orbitloom/orbits/TrackAtPinLaw", "co", "(JI)J"⟩ : MethodName)) hown (mvT hZ w_5) (mvT hZ w_6) (mvT hZ w_3) (mvT hZ w_7) (by decide) (backOf (W := 0) (rm2 l Z a0 hw [] x2 (4 : Int32) h0 n0 Z0) hZ w_7 w_3 (by decide) (by decide)) (g := (mkF m 30 #[.val (.ref x0), .val (.int (1 : Int32)), .val (.long x2), nS, .val (.long x3), nS, .val (.long (own_co x2 (0 : Int32))), nS, .val (.long (own_co x2 (1 : Int32))), nS, .val (.long (own_co x2 (2 : Int32))), nS, .val (.long (own_co x2 (3 : Int32))), nS, nU, nU, nU, nU, nU, nU, nU, nU, nU, nU, nU, nU, nU, nU, nU, nU, nU, nU, nU, nU] [(.int (4 : Int32)), (.long x2)])) rfl (by rw [hml]; rfl) (argsL := [(.long x2), (.int (4 : Int32))]) (rest := []) (lenOf pd_1 rfl) rfl (by show 2 * 0 + _ ≤ _; exact Nat.le_of_eq rfl) (hb hby d1_30) (fun _ _ => ⟨rfl, eh4, (by decide : 0 + 0 ≤ _), (by decide : 0 + 0 ≤ _)⟩)
  dsimp only [Pt.U, Pt.locs, Pt.cells, Pt.slots] at X5 l5 y5 z5 st5 hQ5
  rw [l5, y5, z5] at X5
  obtain ⟨N5, eh5, hR5⟩ := hQ5
  have NA5 := Fr.app NA4 N5
  obtain rfl := hR5
  refine G1 st5 ?_
  show Goes _ _ _ _ _ _ _ (T5.setTop (mkF m 33 _ [(.long (own_co x2 (4 : Int32)))]))
  refine G1 (fun _ k => XS.lstore X5.here hx rfl (hb hby d1_33) rfl (l' := #[.val (.ref x0), .val (.int (1 : Int32)), .val (.long x2), nS, .val (.long x3), nS, .val (.long (own_co x2 (0 : Int32))), nS, .val (.long (own_co x2 (1 : Int32))), nS, .val (.long (own_co x2 (2 : Int32))), nS, .val (.long (own_co x2 (3 : Int32))), nS, .val (.long (own_co x2 (4 : Int32))), nS, nU, nU, nU, nU, nU, nU, nU, nU, nU, nU, nU, nU, nU, nU, nU, nU, nU, nU]) rfl k) ?_
  show Goes _ _ _ _ _ _ _ (T5.setTop (mkF m 35 _ []))
  refine G1 (fun _ k => XS.lloadN X5.here hx rfl (hb hby d1_35) rfl  k) ?_
  refine G1 (fun _ k => XS.iconst X5.here hx rfl (hb hby d1_36) k) ?_
  obtain ⟨_, _, ⟨T6, L6, k6, n6⟩, -, X6, ⟨Lc6, hQ6, l6, y6, z6⟩, st6⟩ := Jvm.LawKit.callS X5 hx (y := (⟨"com/example/orbitloom/orbitloom/orbits/TrackAtPinLaw", "co", "(JI)J"⟩ : MethodName)) hown (mvT hZ w_5) (mvT hZ w_6) (mvT hZ w_3) (mvT hZ w_7) (by decide) (backOf (W := 0) (rm2 l Z a0 hw [] x2 (5 : Int32) h0 n0 Z0) hZ w_7 w_3 (by decide) (by decide)) (g := (mkF m 37 #[.val (.ref x0), .val (.int (1 : Int32)), .val (.long x2), nS, .val (.long x3), nS, .val (.long (own_co x2 (0 : Int32))), nS, .val (.long (own_co x2 (1 : Int32))), nS, .val (.long (own_co x2 (2 : Int32))), nS, .val (.long (own_co x2 (3 : Int32))), nS, .val (.long (own_co x2 (4 : Int32))), nS, nU, nU, nU, nU, nU, nU, nU, nU, nU, nU, nU, nU, nU, nU, nU, nU, nU, nU] [(.int (5 : Int32)), (.long x2)])) rfl (by rw [hml]; rfl) (argsL := [(.long x2), (.int (5 : Int32))]) (rest := []) (lenOf pd_1 rfl) rfl (by show 2 * 0 + _ ≤ _; exact Nat.le_of_eq rfl) (hb hby d1_37) (fun _ _ => ⟨rfl, eh5, (by decide : 0 + 0 ≤ _), (by decide : 0 + 0 ≤ _)⟩)
  dsimp only [Pt.U, Pt.locs, Pt.cells, Pt.slots] at X6 l6 y6 z6 st6 hQ6
  rw [l6, y6, z6] at X6
  obtain ⟨N6, eh6, hR6⟩ := hQ6
  have NA6 := Fr.app NA5 N6
  obtain rfl := hR6
  refine G1 st6 ?_
  show Goes _ _ _ _ _ _ _ (T6.setTop (mkF m 40 _ [(.long (own_co x2 (5 : Int32)))]))
  refine G1 (fun _ k => XS.lstore X6.here hx rfl (hb hby d1_40) rfl (l' := #[.val (.ref x0), .val (.int (1 : Int32)), .val (.long x2), nS, .val (.long x3), nS, .val (.long (own_co x2 (0 : Int32))), nS, .val (.long (own_co x2 (1 : Int32))), nS, .val (.long (own_co x2 (2 : Int32))), nS, .val (.long (own_co x2 (3 : Int32))), nS, .val (.long (own_co x2 (4 : Int32))), nS, .val (.long (own_co x2 (5 : Int32))), nS, nU, nU, nU, nU, nU, nU, nU, nU, nU, nU, nU, nU, nU, nU, nU, nU]) rfl k) ?_
  show Goes _ _ _ _ _ _ _ (T6.setTop (mkF m 42 _ []))
  refine G1 (fun _ k => XS.lload X6.here hx rfl (hb hby d1_42) rfl  k) ?_
  refine G1 (fun _ k => XS.lstore X6.here hx rfl (hb hby d1_44) rfl (l' := #[.val (.ref x0), .val (.int (1 : Int32)), .val (.long x2), nS, .val (.long x3), nS, .val (.long (own_co x2 (0 : Int32))), nS, .val (.long (own_co x2 (1 : Int32))), nS, .val (.long (own_co x2 (2 : Int32))), nS, .val (.long (own_co x2 (3 : Int32))), nS, .val (.long (own_co x2 (4 : Int32))), nS, .val (.long (own_co x2 (5 : Int32))), nS, .val (.long (own_co x2 (0 : Int32))), nS, nU, nU, nU, nU, nU, nU, nU, nU, nU, nU, nU, nU, nU, nU]) rfl k) ?_
  show Goes _ _ _ _ _ _ _ (T6.setTop (mkF m 46 _ []))
  refine G1 (fun _ k => XS.lload X6.here hx rfl (hb hby d1_46) rfl  k) ?_
  refine G1 (fun _ k => XS.lstore X6.here hx rfl (hb hby d1_48) rfl (l' := #[.val (.ref x0), .val (.int (1 : Int32)), .val (.long x2), nS, .val (.long x3), nS, .val (.long (own_co x2 (0 : Int32))), nS, .val (.long (own_co x2 (1 : Int32))), nS, .val (.long (own_co x2 (2 : Int32))), nS, .val (.long (own_co x2 (3 : Int32))), nS, .val (.long (own_co x2 (4 : Int32))), nS, .val (.long (own_co x2 (5 : Int32))), nS, .val (.long (own_co x2 (0 : Int32))), nS, .val (.long (own_co x2 (1 : Int32))), nS, nU, nU, nU, nU, nU, nU, nU, nU, nU, nU, nU, nU]) rfl k) ?_
  show Goes _ _ _ _ _ _ _ (T6.setTop (mkF m 50 #[.val (.ref x0), .val (.int (1 : Int32)), .val (.long x2), nS, .val (.long x3), nS, .val (.long (own_co x2 (0 : Int32))), nS, .val (.long (own_co x2 (1 : Int32))), nS, .val (.long (own_co x2 (2 : Int32))), nS, .val (.long (own_co x2 (3 : Int32))), nS, .val (.long (own_co x2 (4 : Int32))), nS, .val (.long (own_co x2 (5 : Int32))), nS, .val (.long (own_co x2 (0 : Int32))), nS, .val (.long (own_co x2 (1 : Int32))), nS, nU, nU, nU, nU, nU, nU, nU, nU, nU, nU, nU, nU] []))
  refine G1 (fun _ k => XS.lload X6.here hx rfl (hb hby d1_50) rfl  k) ?_
  refine G1 (fun _ k => XS.lload X6.here hx rfl (hb hby d1_52) rfl  k) ?_
  refine G1 (fun _ k => XS.lload X6.here hx rfl (hb hby d1_54) rfl  k) ?_
  refine G1 (fun _ k => XS.lmul X6.here hx rfl (hb hby d1_56) rfl k) ?_
  show Goes _ _ _ _ _ _ _ (T6.setTop (mkF m 57 _ [(.long ((own_co x2 (1 : Int32)) * x3)), (.long (own_co x2 (0 : Int32)))]))
  refine G1 (fun _ k => XS.ladd X6.here hx rfl (hb hby d1_57) rfl k) ?_
  show Goes _ _ _ _ _ _ _ (T6.setTop (mkF m 58 _ [(.long ((own_co x2 (0 : Int32)) + ((own_co x2 (1 : Int32)) * x3)))]))
  refine G1 (fun _ k => XS.lload X6.here hx rfl (hb hby d1_58) rfl  k) ?_
  refine G1 (fun _ k => XS.lload X6.here hx rfl (hb hby d1_60) rfl  k) ?_
  refine G1 (fun _ k => XS.lmul X6.here hx rfl (hb hby d1_62) rfl k) ?_
  show Goes _ _ _ _ _ _ _ (T6.setTop (mkF m 63 _ [(.long ((own_co x2 (2 : Int32)) * x3)), (.long ((own_co x2 (0 : Int32)) + ((own_co x2 (1 : Int32)) * x3)))]))
  refine G1 (fun _ k => XS.lload X6.here hx rfl (hb hby d1_63) rfl  k) ?_
  refine G1 (fun _ k => XS.lmul X6.here hx rfl (hb hby d1_65) rfl k) ?_
  show Goes _ _ _ _ _ _ _ (T6.setTop (mkF m 66 _ [(.long (((own_co x2 (2 : Int32)) * x3) * x3)), (.long ((own_co x2 (0 : Int32)) + ((own_co x2 (1 : Int32)) * x3)))]))
  refine G1 (fun _ k => XS.ladd X6.here hx rfl (hb hby d1_66) rfl k) ?_
  show Goes _ _ _ _ _ _ _ (T6.setTop (mkF m 67 _ [(.long (((own_co x2 (0 : Int32)) + ((own_co x2 (1 : Int32)) * x3)) + (((own_co x2 (2 : Int32)) * x3) * x3)))]))
  refine G1 (fun _ k => XS.lload X6.here hx rfl (hb hby d1_67) rfl  k) ?_
  refine G1 (fun _ k => XS.lload X6.here hx rfl (hb hby d1_69) rfl  k) ?_
  refine G1 (fun _ k => XS.lmul X6.here hx rfl (hb hby d1_71) rfl k) ?_
  show Goes _ _ _ _ _ _ _ (T6.setTop (mkF m 72 _ [(.long ((own_co x2 (3 : Int32)) * x3)), (.long (((own_co x2 (0 : Int32)) + ((own_co x2 (1 : Int32)) * x3)) + (((own_co x2 (2 : Int32)) * x3) * x3)))]))
  refine G1 (fun _ k => XS.lload X6.here hx rfl (hb hby d1_72) rfl  k) ?_
  refine G1 (fun _ k => XS.lmul X6.here hx rfl (hb hby d1_74) rfl k) ?_
  show Goes _ _ _ _ _ _ _ (T6.setTop (mkF m 75 #[.val (.ref x0), .val (.int (1 : Int32)), .val (.long x2), nS, .val (.long x3), nS, .val (.long (own_co x2 (0 : Int32))), nS, .val (.long (own_co x2 (1 : Int32))), nS, .val (.long (own_co x2 (2 : Int32))), nS, .val (.long (own_co x2 (3 : Int32))), nS, .val (.long (own_co x2 (4 : Int32))), nS, .val (.long (own_co x2 (5 : Int32))), nS, .val (.long (own_co x2 (0 : Int32))), nS, .val (.long (own_co x2 (1 : Int32))), nS, nU, nU, nU, nU, nU, nU, nU, nU, nU, nU, nU, nU] [(.long (((own_co x2 (3 : Int32)) * x3) * x3)), (.long (((own_co x2 (0 : Int32)) + ((own_co x2 (1 : Int32)) * x3)) + (((own_co x2 (2 : Int32)) * x3) * x3)))]))
  refine G1 (fun _ k => XS.lload X6.here hx rfl (hb hby d1_75) rfl  k) ?_
  refine G1 (fun _ k => XS.lmul X6.here hx rfl (hb hby d1_77) rfl k) ?_
  show Goes _ _ _ _ _ _ _ (T6.setTop (mkF m 78 _ [(.long ((((own_co x2 (3 : Int32)) * x3) * x3) * x3)), (.long (((own_co x2 (0 : Int32)) + ((own_co x2 (1 : Int32)) * x3)) + (((own_co x2 (2 : Int32)) * x3) * x3)))]))
  refine G1 (fun _ k => XS.ladd X6.here hx rfl (hb hby d1_78) rfl k) ?_
  show Goes _ _ _ _ _ _ _ (T6.setTop (mkF m 79 _ [(.long ((((own_co x2 (0 : Int32)) + ((own_co x2 (1 : Int32)) * x3)) + (((own_co x2 (2 : Int32)) * x3) * x3)) + ((((own_co x2 (3 : Int32)) * x3) * x3) * x3)))]))
  refine G1 (fun _ k => XS.lstore X6.here hx rfl (hb hby d1_79) rfl (l' := #[.val (.ref x0), .val (.int (1 : Int32)), .val (.long x2), nS, .val (.long x3), nS, .val (.long (own_co x2 (0 : Int32))), nS, .val (.long (own_co x2 (1 : Int32))), nS, .val (.long (own_co x2 (2 : Int32))), nS, .val (.long (own_co x2 (3 : Int32))), nS, .val (.long (own_co x2 (4 : Int32))), nS, .val (.long (own_co x2 (5 : Int32))), nS, .val (.long (own_co x2 (0 : Int32))), nS, .val (.long (own_co x2 (1 : Int32))), nS, .val (.long ((((own_co x2 (0 : Int32)) + ((own_co x2 (1 : Int32)) * x3)) + (((own_co x2 (2 : Int32)) * x3) * x3)) + ((((own_co x2 (3 : Int32)) * x3) * x3) * x3))), nS, nU, nU, nU, nU, nU, nU, nU, nU, nU, nU]) rfl k) ?_
  show Goes _ _ _ _ _ _ _ (T6.setTop (mkF m 81 _ []))
  show Goes _ _ _ _ _ _ _ (T6.setTop (mkF m 81 #[.val (.ref x0), .val (.int (1 : Int32)), .val (.long x2), nS, .val (.long x3), nS, .val (.long (own_co x2 (0 : Int32))), nS, .val (.long (own_co x2 (1 : Int32))), nS, .val (.long (own_co x2 (2 : Int32))), nS, .val (.long (own_co x2 (3 : Int32))), nS, .val (.long (own_co x2 (4 : Int32))), nS, .val (.long (own_co x2 (5 : Int32))), nS, .val (.long (own_co x2 (0 : Int32))), nS, .val (.long (own_co x2 (1 : Int32))), nS, .val (.long ((((own_co x2 (0 : Int32)) + ((own_co x2 (1 : Int32)) * x3)) + (((own_co x2 (2 : Int32)) * x3) * x3)) + ((((own_co x2 (3 : Int32)) * x3) * x3) * x3))), nS, nU, nU, nU, nU, nU, nU, nU, nU, nU, nU] []))
  generalize hg_lv7 : ((((own_co x2 (0 : Int32)) + ((own_co x2 (1 : Int32)) * x3)) + (((own_co x2 (2 : Int32)) * x3) * x3)) + ((((own_co x2 (3 : Int32)) * x3) * x3) * x3)) = lv7
  show Goes _ _ _ _ _ _ _ (T6.setTop (mkF m 81 #[.val (.ref x0), .val (.int (1 : Int32)), .val (.long x2), nS, .val (.long x3), nS, .val (.long (own_co x2 (0 : Int32))), nS, .val (.long (own_co x2 (1 : Int32))), nS, .val (.long (own_co x2 (2 : Int32))), nS, .val (.long (own_co x2 (3 : Int32))), nS, .val (.long (own_co x2 (4 : Int32))), nS, .val (.long (own_co x2 (5 : Int32))), nS, .val (.long (own_co x2 (0 : Int32))), nS, .val (.long (own_co x2 (1 : Int32))), nS, .val (.long lv7), nS, nU, nU, nU, nU, nU, nU, nU, nU, nU, nU] []))
  have Llv7 : own_L lv7 ((((own_co x2 (0 : Int32)).toInt + ((own_co x2 (1 : Int32)).toInt * x3.toInt)) + (((own_co x2 (2 : Int32)).toInt * x3.toInt) * x3.toInt)) + ((((own_co x2 (3 : Int32)).toInt * x3.toInt) * x3.toInt) * x3.toInt)) 2236928 := hg_lv7 ▸ (own_L.add (own_L.add (own_L.add (own_coL x2 (0 : Int32)) (own_L.mul (own_coL x2 (1 : Int32)) hs (by decide)) (by decide)) (own_L.mul (own_L.mul (own_coL x2 (2 : Int32)) hs (by decide)) hs (by decide)) (by decide)) (own_L.mul (own_L.mul (own_L.mul (own_coL x2 (3 : Int32)) hs (by decide)) hs (by decide)) hs (by decide)) (by decide))
  refine G1 (fun _ k => XS.lload X6.here hx rfl (hb hby d1_81) rfl  k) ?_
  refine G1 (fun _ k => X6.ldc2Long hx hown (mvT hZ w_8) (g := (mkF m 83 #[.val (.ref x0), .val (.int (1 : Int32)), .val (.long x2), nS, .val (.long x3), nS, .val (.long (own_co x2 (0 : Int32))), nS, .val (.long (own_co x2 (1 : Int32))), nS, .val (.long (own_co x2 (2 : Int32))), nS, .val (.long (own_co x2 (3 : Int32))), nS, .val (.long (own_co x2 (4 : Int32))), nS, .val (.long (own_co x2 (5 : Int32))), nS, .val (.long (own_co x2 (0 : Int32))), nS, .val (.long (own_co x2 (1 : Int32))), nS, .val (.long lv7), nS, nU, nU, nU, nU, nU, nU, nU, nU, nU, nU] [(.long (own_co x2 (1 : Int32)))])) rfl (hb hby d1_83) _ k) ?_
  refine G1 (fun _ k => XS.lload X6.here hx rfl (hb hby d1_86) rfl  k) ?_
  refine G1 (fun _ k => XS.lmul X6.here hx rfl (hb hby d1_88) rfl k) ?_
  show Goes _ _ _ _ _ _ _ (T6.setTop (mkF m 89 _ [(.long ((2 : Int64) * (own_co x2 (2 : Int32)))), (.long (own_co x2 (1 : Int32)))]))
  refine G1 (fun _ k => XS.lload X6.here hx rfl (hb hby d1_89) rfl  k) ?_
  refine G1 (fun _ k => XS.lmul X6.here hx rfl (hb hby d1_91) rfl k) ?_
  show Goes _ _ _ _ _ _ _ (T6.setTop (mkF m 92 _ [(.long (((2 : Int64) * (own_co x2 (2 : Int32))) * x3)), (.long (own_co x2 (1 : Int32)))]))
  refine G1 (fun _ k => XS.ladd X6.here hx rfl (hb hby d1_92) rfl k) ?_
  show Goes _ _ _ _ _ _ _ (T6.setTop (mkF m 93 _ [(.long ((own_co x2 (1 : Int32)) + (((2 : Int64) * (own_co x2 (2 : Int32))) * x3)))]))
  refine G1 (fun _ k => X6.ldc2Long hx hown (mvT hZ w_9) (g := (mkF m 93 #[.val (.ref x0), .val (.int (1 : Int32)), .val (.long x2), nS, .val (.long x3), nS, .val (.long (own_co x2 (0 : Int32))), nS, .val (.long (own_co x2 (1 : Int32))), nS, .val (.long (own_co x2 (2 : Int32))), nS, .val (.long (own_co x2 (3 : Int32))), nS, .val (.long (own_co x2 (4 : Int32))), nS, .val (.long (own_co x2 (5 : Int32))), nS, .val (.long (own_co x2 (0 : Int32))), nS, .val (.long (own_co x2 (1 : Int32))), nS, .val (.long lv7), nS, nU, nU, nU, nU, nU, nU, nU, nU, nU, nU] [(.long ((own_co x2 (1 : Int32)) + (((2 : Int64) * (own_co x2 (2 : Int32))) * x3)))])) rfl (hb hby d1_93) _ k) ?_
  refine G1 (fun _ k => XS.lload X6.here hx rfl (hb hby d1_96) rfl  k) ?_
  refine G1 (fun _ k => XS.lmul X6.here hx rfl (hb hby d1_98) rfl k) ?_
  show Goes _ _ _ _ _ _ _ (T6.setTop (mkF m 99 _ [(.long ((3 : Int64) * (own_co x2 (3 : Int32)))), (.long ((own_co x2 (1 : Int32)) + (((2 : Int64) * (own_co x2 (2 : Int32))) * x3)))]))
  refine G1 (fun _ k => XS.lload X6.here hx rfl (hb hby d1_99) rfl  k) ?_
  refine G1 (fun _ k => XS.lmul X6.here hx rfl (hb hby d1_101) rfl k) ?_
  show Goes _ _ _ _ _ _ _ (T6.setTop (mkF m 102 _ [(.long (((3 : Int64) * (own_co x2 (3 : Int32))) * x3)), (.long ((own_co x2 (1 : Int32)) + (((2 : Int64) * (own_co x2 (2 : Int32))) * x3)))]))
  refine G1 (fun _ k => XS.lload X6.here hx rfl (hb hby d1_102) rfl  k) ?_
  refine G1 (fun _ k => XS.lmul X6.here hx rfl (hb hby d1_104) rfl k) ?_
  show Goes _ _ _ _ _ _ _ (T6.setTop (mkF m 105 _ [(.long ((((3 : Int64) * (own_co x2 (3 : Int32))) * x3) * x3)), (.long ((own_co x2 (1 : Int32)) + (((2 : Int64) * (own_co x2 (2 : Int32))) * x3)))]))
  refine G1 (fun _ k => XS.ladd X6.here hx rfl (hb hby d1_105) rfl k) ?_
  show Goes _ _ _ _ _ _ _ (T6.setTop (mkF m 106 #[.val (.ref x0), .val (.int (1 : Int32)), .val (.long x2), nS, .val (.long x3), nS, .val (.long (own_co x2 (0 : Int32))), nS, .val (.long (own_co x2 (1 : Int32))), nS, .val (.long (own_co x2 (2 : Int32))), nS, .val (.long (own_co x2 (3 : Int32))), nS, .val (.long (own_co x2 (4 : Int32))), nS, .val (.long (own_co x2 (5 : Int32))), nS, .val (.long (own_co x2 (0 : Int32))), nS, .val (.long (own_co x2 (1 : Int32))), nS, .val (.long lv7), nS, nU, nU, nU, nU, nU, nU, nU, nU, nU, nU] [(.long (((own_co x2 (1 : Int32)) + (((2 : Int64) * (own_co x2 (2 : Int32))) * x3)) + ((((3 : Int64) * (own_co x2 (3 : Int32))) * x3) * x3)))]))
  refine G1 (fun _ k => XS.lstore X6.here hx rfl (hb hby d1_106) rfl (l' := #[.val (.ref x0), .val (.int (1 : Int32)), .val (.long x2), nS, .val (.long x3), nS, .val (.long (own_co x2 (0 : Int32))), nS, .val (.long (own_co x2 (1 : Int32))), nS, .val (.long (own_co x2 (2 : Int32))), nS, .val (.long (own_co x2 (3 : Int32))), nS, .val (.long (own_co x2 (4 : Int32))), nS, .val (.long (own_co x2 (5 : Int32))), nS, .val (.long (own_co x2 (0 : Int32))), nS, .val (.long (own_co x2 (1 : Int32))), nS, .val (.long lv7), nS, .val (.long (((own_co x2 (1 : Int32)) + (((2 : Int64) * (own_co x2 (2 : Int32))) * x3)) + ((((3 : Int64) * (own_co x2 (3 : Int32))) * x3) * x3))), nS, nU, nU, nU, nU, nU, nU, nU, nU]) rfl k) ?_
  show Goes _ _ _ _ _ _ _ (T6.setTop (mkF m 108 _ []))
  show Goes _ _ _ _ _ _ _ (T6.setTop (mkF m 108 #[.val (.ref x0), .val (.int (1 : Int32)), .val (.long x2), nS, .val (.long x3), nS, .val (.long (own_co x2 (0 : Int32))), nS, .val (.long (own_co x2 (1 : Int32))), nS, .val (.long (own_co x2 (2 : Int32))), nS, .val (.long (own_co x2 (3 : Int32))), nS, .val (.long (own_co x2 (4 : Int32))), nS, .val (.long (own_co x2 (5 : Int32))), nS, .val (.long (own_co x2 (0 : Int32))), nS, .val (.long (own_co x2 (1 : Int32))), nS, .val (.long lv7), nS, .val (.long (((own_co x2 (1 : Int32)) + (((2 : Int64) * (own_co x2 (2 : Int32))) * x3)) + ((((3 : Int64) * (own_co x2 (3 : Int32))) * x3) * x3))), nS, nU, nU, nU, nU, nU, nU, nU, nU] []))
  generalize hg_lv8 : (((own_co x2 (1 : Int32)) + (((2 : Int64) * (own_co x2 (2 : Int32))) * x3)) + ((((3 : Int64) * (own_co x2 (3 : Int32))) * x3) * x3)) = lv8
  show Goes _ _ _ _ _ _ _ (T6.setTop (mkF m 108 #[.val (.ref x0), .val (.int (1 : Int32)), .val (.long x2), nS, .val (.long x3), nS, .val (.long (own_co x2 (0 : Int32))), nS, .val (.long (own_co x2 (1 : Int32))), nS, .val (.long (own_co x2 (2 : Int32))), nS, .val (.long (own_co x2 (3 : Int32))), nS, .val (.long (own_co x2 (4 : Int32))), nS, .val (.long (own_co x2 (5 : Int32))), nS, .val (.long (own_co x2 (0 : Int32))), nS, .val (.long (own_co x2 (1 : Int32))), nS, .val (.long lv7), nS, .val (.long lv8), nS, nU, nU, nU, nU, nU, nU, nU, nU] []))
  have Llv8 : own_L lv8 (((own_co x2 (1 : Int32)).toInt + (((2 : Int) * (own_co x2 (2 : Int32)).toInt) * x3.toInt)) + ((((3 : Int) * (own_co x2 (3 : Int32)).toInt) * x3.toInt) * x3.toInt)) 410112 := hg_lv8 ▸ (own_L.add (own_L.add (own_coL x2 (1 : Int32)) (own_L.mul (own_L.mul (⟨by decide, by decide⟩ : own_L (2 : Int64) 2 2) (own_coL x2 (2 : Int32)) (by decide)) hs (by decide)) (by decide)) (own_L.mul (own_L.mul (own_L.mul (⟨by decide, by decide⟩ : own_L (3 : Int64) 3 3) (own_coL x2 (3 : Int32)) (by decide)) hs (by decide)) hs (by decide)) (by decide))
  refine G1 (fun _ k => XS.lload X6.here hx rfl (hb hby d1_108) rfl  k) ?_
  refine G1 (fun _ k => X6.ldc2Long hx hown (mvT hZ w_8) (g := (mkF m 110 #[.val (.ref x0), .val (.int (1 : Int32)), .val (.long x2), nS, .val (.long x3), nS, .val (.long (own_co x2 (0 : Int32))), nS, .val (.long (own_co x2 (1 : Int32))), nS, .val (.long (own_co x2 (2 : Int32))), nS, .val (.long (own_co x2 (3 : Int32))), nS, .val (.long (own_co x2 (4 : Int32))), nS, .val (.long (own_co x2 (5 : Int32))), nS, .val (.long (own_co x2 (0 : Int32))), nS, .val (.long (own_co x2 (1 : Int32))), nS, .val (.long lv7), nS, .val (.long lv8), nS, nU, nU, nU, nU, nU, nU, nU, nU] [(.long (own_co x2 (0 : Int32)))])) rfl (hb hby d1_110) _ k) ?_
  refine G1 (fun _ k => XS.lload X6.here hx rfl (hb hby d1_113) rfl  k) ?_
  refine G1 (fun _ k => XS.lmul X6.here hx rfl (hb hby d1_115) rfl k) ?_
  show Goes _ _ _ _ _ _ _ (T6.setTop (mkF m 116 _ [(.long ((2 : Int64) * (own_co x2 (1 : Int32)))), (.long (own_co x2 (0 : Int32)))]))
  refine G1 (fun _ k => XS.lload X6.here hx rfl (hb hby d1_116) rfl  k) ?_
  refine G1 (fun _ k => XS.lmul X6.here hx rfl (hb hby d1_118) rfl k) ?_
  show Goes _ _ _ _ _ _ _ (T6.setTop (mkF m 119 _ [(.long (((2 : Int64) * (own_co x2 (1 : Int32))) * x3)), (.long (own_co x2 (0 : Int32)))]))
  refine G1 (fun _ k => XS.ladd X6.here hx rfl (hb hby d1_119) rfl k) ?_
  show Goes _ _ _ _ _ _ _ (T6.setTop (mkF m 120 _ [(.long ((own_co x2 (0 : Int32)) + (((2 : Int64) * (own_co x2 (1 : Int32))) * x3)))]))
  refine G1 (fun _ k => X6.ldc2Long hx hown (mvT hZ w_10) (g := (mkF m 120 #[.val (.ref x0), .val (.int (1 : Int32)), .val (.long x2), nS, .val (.long x3), nS, .val (.long (own_co x2 (0 : Int32))), nS, .val (.long (own_co x2 (1 : Int32))), nS, .val (.long (own_co x2 (2 : Int32))), nS, .val (.long (own_co x2 (3 : Int32))), nS, .val (.long (own_co x2 (4 : Int32))), nS, .val (.long (own_co x2 (5 : Int32))), nS, .val (.long (own_co x2 (0 : Int32))), nS, .val (.long (own_co x2 (1 : Int32))), nS, .val (.long lv7), nS, .val (.long lv8), nS, nU, nU, nU, nU, nU, nU, nU, nU] [(.long ((own_co x2 (0 : Int32)) + (((2 : Int64) * (own_co x2 (1 : Int32))) * x3)))])) rfl (hb hby d1_120) _ k) ?_
  refine G1 (fun _ k => XS.lload X6.here hx rfl (hb hby d1_123) rfl  k) ?_
  refine G1 (fun _ k => XS.lmul X6.here hx rfl (hb hby d1_125) rfl k) ?_
  show Goes _ _ _ _ _ _ _ (T6.setTop (mkF m 126 _ [(.long ((4 : Int64) * (own_co x2 (2 : Int32)))), (.long ((own_co x2 (0 : Int32)) + (((2 : Int64) * (own_co x2 (1 : Int32))) * x3)))]))
  refine G1 (fun _ k => XS.lload X6.here hx rfl (hb hby d1_126) rfl  k) ?_
  refine G1 (fun _ k => XS.lmul X6.here hx rfl (hb hby d1_128) rfl k) ?_
  show Goes _ _ _ _ _ _ _ (T6.setTop (mkF m 129 _ [(.long (((4 : Int64) * (own_co x2 (2 : Int32))) * x3)), (.long ((own_co x2 (0 : Int32)) + (((2 : Int64) * (own_co x2 (1 : Int32))) * x3)))]))
  refine G1 (fun _ k => XS.lload X6.here hx rfl (hb hby d1_129) rfl  k) ?_
  refine G1 (fun _ k => XS.lmul X6.here hx rfl (hb hby d1_131) rfl k) ?_
  show Goes _ _ _ _ _ _ _ (T6.setTop (mkF m 132 _ [(.long ((((4 : Int64) * (own_co x2 (2 : Int32))) * x3) * x3)), (.long ((own_co x2 (0 : Int32)) + (((2 : Int64) * (own_co x2 (1 : Int32))) * x3)))]))
  refine G1 (fun _ k => XS.ladd X6.here hx rfl (hb hby d1_132) rfl k) ?_
  show Goes _ _ _ _ _ _ _ (T6.setTop (mkF m 133 #[.val (.ref x0), .val (.int (1 : Int32)), .val (.long x2), nS, .val (.long x3), nS, .val (.long (own_co x2 (0 : Int32))), nS, .val (.long (own_co x2 (1 : Int32))), nS, .val (.long (own_co x2 (2 : Int32))), nS, .val (.long (own_co x2 (3 : Int32))), nS, .val (.long (own_co x2 (4 : Int32))), nS, .val (.long (own_co x2 (5 : Int32))), nS, .val (.long (own_co x2 (0 : Int32))), nS, .val (.long (own_co x2 (1 : Int32))), nS, .val (.long lv7), nS, .val (.long lv8), nS, nU, nU, nU, nU, nU, nU, nU, nU] [(.long (((own_co x2 (0 : Int32)) + (((2 : Int64) * (own_co x2 (1 : Int32))) * x3)) + ((((4 : Int64) * (own_co x2 (2 : Int32))) * x3) * x3)))]))
  refine G1 (fun _ k => X6.ldc2Long hx hown (mvT hZ w_11) (g := (mkF m 133 #[.val (.ref x0), .val (.int (1 : Int32)), .val (.long x2), nS, .val (.long x3), nS, .val (.long (own_co x2 (0 : Int32))), nS, .val (.long (own_co x2 (1 : Int32))), nS, .val (.long (own_co x2 (2 : Int32))), nS, .val (.long (own_co x2 (3 : Int32))), nS, .val (.long (own_co x2 (4 : Int32))), nS, .val (.long (own_co x2 (5 : Int32))), nS, .val (.long (own_co x2 (0 : Int32))), nS, .val (.long (own_co x2 (1 : Int32))), nS, .val (.long lv7), nS, .val (.long lv8), nS, nU, nU, nU, nU, nU, nU, nU, nU] [(.long (((own_co x2 (0 : Int32)) + (((2 : Int64) * (own_co x2 (1 : Int32))) * x3)) + ((((4 : Int64) * (own_co x2 (2 : Int32))) * x3) * x3)))])) rfl (hb hby d1_133) _ k) ?_
  refine G1 (fun _ k => XS.lload X6.here hx rfl (hb hby d1_136) rfl  k) ?_
  refine G1 (fun _ k => XS.lmul X6.here hx rfl (hb hby d1_138) rfl k) ?_
  show Goes _ _ _ _ _ _ _ (T6.setTop (mkF m 139 _ [(.long ((8 : Int64) * (own_co x2 (3 : Int32)))), (.long (((own_co x2 (0 : Int32)) + (((2 : Int64) * (own_co x2 (1 : Int32))) * x3)) + ((((4 : Int64) * (own_co x2 (2 : Int32))) * x3) * x3)))]))
  refine G1 (fun _ k => XS.lload X6.here hx rfl (hb hby d1_139) rfl  k) ?_
  refine G1 (fun _ k => XS.lmul X6.here hx rfl (hb hby d1_141) rfl k) ?_
  show Goes _ _ _ _ _ _ _ (T6.setTop (mkF m 142 _ [(.long (((8 : Int64) * (own_co x2 (3 : Int32))) * x3)), (.long (((own_co x2 (0 : Int32)) + (((2 : Int64) * (own_co x2 (1 : Int32))) * x3)) + ((((4 : Int64) * (own_co x2 (2 : Int32))) * x3) * x3)))]))
  refine G1 (fun _ k => XS.lload X6.here hx rfl (hb hby d1_142) rfl  k) ?_
  refine G1 (fun _ k => XS.lmul X6.here hx rfl (hb hby d1_144) rfl k) ?_
  show Goes _ _ _ _ _ _ _ (T6.setTop (mkF m 145 _ [(.long ((((8 : Int64) * (own_co x2 (3 : Int32))) * x3) * x3)), (.long (((own_co x2 (0 : Int32)) + (((2 : Int64) * (own_co x2 (1 : Int32))) * x3)) + ((((4 : Int64) * (own_co x2 (2 : Int32))) * x3) * x3)))]))
  refine G1 (fun _ k => XS.lload X6.here hx rfl (hb hby d1_145) rfl  k) ?_
  refine G1 (fun _ k => XS.lmul X6.here hx rfl (hb hby d1_147) rfl k) ?_
  show Goes _ _ _ _ _ _ _ (T6.setTop (mkF m 148 _ [(.long (((((8 : Int64) * (own_co x2 (3 : Int32))) * x3) * x3) * x3)), (.long (((own_co x2 (0 : Int32)) + (((2 : Int64) * (own_co x2 (1 : Int32))) * x3)) + ((((4 : Int64) * (own_co x2 (2 : Int32))) * x3) * x3)))]))
  refine G1 (fun _ k => XS.ladd X6.here hx rfl (hb hby d1_148) rfl k) ?_
  show Goes _ _ _ _ _ _ _ (T6.setTop (mkF m 149 _ [(.long ((((own_co x2 (0 : Int32)) + (((2 : Int64) * (own_co x2 (1 : Int32))) * x3)) + ((((4 : Int64) * (own_co x2 (2 : Int32))) * x3) * x3)) + (((((8 : Int64) * (own_co x2 (3 : Int32))) * x3) * x3) * x3)))]))
  refine G1 (fun _ k => XS.lstore X6.here hx rfl (hb hby d1_149) rfl (l' := #[.val (.ref x0), .val (.int (1 : Int32)), .val (.long x2), nS, .val (.long x3), nS, .val (.long (own_co x2 (0 : Int32))), nS, .val (.long (own_co x2 (1 : Int32))), nS, .val (.long (own_co x2 (2 : Int32))), nS, .val (.long (own_co x2 (3 : Int32))), nS, .val (.long (own_co x2 (4 : Int32))), nS, .val (.long (own_co x2 (5 : Int32))), nS, .val (.long (own_co x2 (0 : Int32))), nS, .val (.long (own_co x2 (1 : Int32))), nS, .val (.long lv7), nS, .val (.long lv8), nS, .val (.long ((((own_co x2 (0 : Int32)) + (((2 : Int64) * (own_co x2 (1 : Int32))) * x3)) + ((((4 : Int64) * (own_co x2 (2 : Int32))) * x3) * x3)) + (((((8 : Int64) * (own_co x2 (3 : Int32))) * x3) * x3) * x3))), nS, nU, nU, nU, nU, nU, nU]) rfl k) ?_
  show Goes _ _ _ _ _ _ _ (T6.setTop (mkF m 151 _ []))
  show Goes _ _ _ _ _ _ _ (T6.setTop (mkF m 151 #[.val (.ref x0), .val (.int (1 : Int32)), .val (.long x2), nS, .val (.long x3), nS, .val (.long (own_co x2 (0 : Int32))), nS, .val (.long (own_co x2 (1 : Int32))), nS, .val (.long (own_co x2 (2 : Int32))), nS, .val (.long (own_co x2 (3 : Int32))), nS, .val (.long (own_co x2 (4 : Int32))), nS, .val (.long (own_co x2 (5 : Int32))), nS, .val (.long (own_co x2 (0 : Int32))), nS, .val (.long (own_co x2 (1 : Int32))), nS, .val (.long lv7), nS, .val (.long lv8), nS, .val (.long ((((own_co x2 (0 : Int32)) + (((2 : Int64) * (own_co x2 (1 : Int32))) * x3)) + ((((4 : Int64) * (own_co x2 (2 : Int32))) * x3) * x3)) + (((((8 : Int64) * (own_co x2 (3 : Int32))) * x3) * x3) * x3))), nS, nU, nU, nU, nU, nU, nU] []))
  generalize hg_lv9 : ((((own_co x2 (0 : Int32)) + (((2 : Int64) * (own_co x2 (1 : Int32))) * x3)) + ((((4 : Int64) * (own_co x2 (2 : Int32))) * x3) * x3)) + (((((8 : Int64) * (own_co x2 (3 : Int32))) * x3) * x3) * x3)) = lv9
  show Goes _ _ _ _ _ _ _ (T6.setTop (mkF m 151 #[.val (.ref x0), .val (.int (1 : Int32)), .val (.long x2), nS, .val (.long x3), nS, .val (.long (own_co x2 (0 : Int32))), nS, .val (.long (own_co x2 (1 : Int32))), nS, .val (.long (own_co x2 (2 : Int32))), nS, .val (.long (own_co x2 (3 : Int32))), nS, .val (.long (own_co x2 (4 : Int32))), nS, .val (.long (own_co x2 (5 : Int32))), nS, .val (.long (own_co x2 (0 : Int32))), nS, .val (.long (own_co x2 (1 : Int32))), nS, .val (.long lv7), nS, .val (.long lv8), nS, .val (.long lv9), nS, nU, nU, nU, nU, nU, nU] []))
  have Llv9 : own_L lv9 ((((own_co x2 (0 : Int32)).toInt + (((2 : Int) * (own_co x2 (1 : Int32)).toInt) * x3.toInt)) + ((((4 : Int) * (own_co x2 (2 : Int32)).toInt) * x3.toInt) * x3.toInt)) + (((((8 : Int) * (own_co x2 (3 : Int32)).toInt) * x3.toInt) * x3.toInt) * x3.toInt)) 17318400 := hg_lv9 ▸ (own_L.add (own_L.add (own_L.add (own_coL x2 (0 : Int32)) (own_L.mul (own_L.mul (⟨by decide, by decide⟩ : own_L (2 : Int64) 2 2) (own_coL x2 (1 : Int32)) (by decide)) hs (by decide)) (by decide)) (own_L.mul (own_L.mul (own_L.mul (⟨by decide, by decide⟩ : own_L (4 : Int64) 4 4) (own_coL x2 (2 : Int32)) (by decide)) hs (by decide)) hs (by decide)) (by decide)) (own_L.mul (own_L.mul (own_L.mul (own_L.mul (⟨by decide, by decide⟩ : own_L (8 : Int64) 8 8) (own_coL x2 (3 : Int32)) (by decide)) hs (by decide)) hs (by decide)) hs (by decide)) (by decide))
  refine G1 (fun _ k => XS.lload X6.here hx rfl (hb hby d1_151) rfl  k) ?_
  refine G1 (fun _ k => X6.ldc2Long hx hown (mvT hZ w_10) (g := (mkF m 153 #[.val (.ref x0), .val (.int (1 : Int32)), .val (.long x2), nS, .val (.long x3), nS, .val (.long (own_co x2 (0 : Int32))), nS, .val (.long (own_co x2 (1 : Int32))), nS, .val (.long (own_co x2 (2 : Int32))), nS, .val (.long (own_co x2 (3 : Int32))), nS, .val (.long (own_co x2 (4 : Int32))), nS, .val (.long (own_co x2 (5 : Int32))), nS, .val (.long (own_co x2 (0 : Int32))), nS, .val (.long (own_co x2 (1 : Int32))), nS, .val (.long lv7), nS, .val (.long lv8), nS, .val (.long lv9), nS, nU, nU, nU, nU, nU, nU] [(.long (own_co x2 (1 : Int32)))])) rfl (hb hby d1_153) _ k) ?_
  refine G1 (fun _ k => XS.lload X6.here hx rfl (hb hby d1_156) rfl  k) ?_
  refine G1 (fun _ k => XS.lmul X6.here hx rfl (hb hby d1_158) rfl k) ?_
  show Goes _ _ _ _ _ _ _ (T6.setTop (mkF m 159 _ [(.long ((4 : Int64) * (own_co x2 (2 : Int32)))), (.long (own_co x2 (1 : Int32)))]))
  refine G1 (fun _ k => XS.lload X6.here hx rfl (hb hby d1_159) rfl  k) ?_
  refine G1 (fun _ k => XS.lmul X6.here hx rfl (hb hby d1_161) rfl k) ?_
  show Goes _ _ _ _ _ _ _ (T6.setTop (mkF m 162 _ [(.long (((4 : Int64) * (own_co x2 (2 : Int32))) * x3)), (.long (own_co x2 (1 : Int32)))]))
  refine G1 (fun _ k => XS.ladd X6.here hx rfl (hb hby d1_162) rfl k) ?_
  show Goes _ _ _ _ _ _ _ (T6.setTop (mkF m 163 _ [(.long ((own_co x2 (1 : Int32)) + (((4 : Int64) * (own_co x2 (2 : Int32))) * x3)))]))
  refine G1 (fun _ k => X6.ldc2Long hx hown (mvT hZ w_12) (g := (mkF m 163 #[.val (.ref x0), .val (.int (1 : Int32)), .val (.long x2), nS, .val (.long x3), nS, .val (.long (own_co x2 (0 : Int32))), nS, .val (.long (own_co x2 (1 : Int32))), nS, .val (.long (own_co x2 (2 : Int32))), nS, .val (.long (own_co x2 (3 : Int32))), nS, .val (.long (own_co x2 (4 : Int32))), nS, .val (.long (own_co x2 (5 : Int32))), nS, .val (.long (own_co x2 (0 : Int32))), nS, .val (.long (own_co x2 (1 : Int32))), nS, .val (.long lv7), nS, .val (.long lv8), nS, .val (.long lv9), nS, nU, nU, nU, nU, nU, nU] [(.long ((own_co x2 (1 : Int32)) + (((4 : Int64) * (own_co x2 (2 : Int32))) * x3)))])) rfl (hb hby d1_163) _ k) ?_
  refine G1 (fun _ k => XS.lload X6.here hx rfl (hb hby d1_166) rfl  k) ?_
  refine G1 (fun _ k => XS.lmul X6.here hx rfl (hb hby d1_168) rfl k) ?_
  show Goes _ _ _ _ _ _ _ (T6.setTop (mkF m 169 _ [(.long ((12 : Int64) * (own_co x2 (3 : Int32)))), (.long ((own_co x2 (1 : Int32)) + (((4 : Int64) * (own_co x2 (2 : Int32))) * x3)))]))
  refine G1 (fun _ k => XS.lload X6.here hx rfl (hb hby d1_169) rfl  k) ?_
  refine G1 (fun _ k => XS.lmul X6.here hx rfl (hb hby d1_171) rfl k) ?_
  show Goes _ _ _ _ _ _ _ (T6.setTop (mkF m 172 _ [(.long (((12 : Int64) * (own_co x2 (3 : Int32))) * x3)), (.long ((own_co x2 (1 : Int32)) + (((4 : Int64) * (own_co x2 (2 : Int32))) * x3)))]))
  refine G1 (fun _ k => XS.lload X6.here hx rfl (hb hby d1_172) rfl  k) ?_
  refine G1 (fun _ k => XS.lmul X6.here hx rfl (hb hby d1_174) rfl k) ?_
  show Goes _ _ _ _ _ _ _ (T6.setTop (mkF m 175 _ [(.long ((((12 : Int64) * (own_co x2 (3 : Int32))) * x3) * x3)), (.long ((own_co x2 (1 : Int32)) + (((4 : Int64) * (own_co x2 (2 : Int32))) * x3)))]))
  refine G1 (fun _ k => XS.ladd X6.here hx rfl (hb hby d1_175) rfl k) ?_
  show Goes _ _ _ _ _ _ _ (T6.setTop (mkF m 176 #[.val (.ref x0), .val (.int (1 : Int32)), .val (.long x2), nS, .val (.long x3), nS, .val (.long (own_co x2 (0 : Int32))), nS, .val (.long (own_co x2 (1 : Int32))), nS, .val (.long (own_co x2 (2 : Int32))), nS, .val (.long (own_co x2 (3 : Int32))), nS, .val (.long (own_co x2 (4 : Int32))), nS, .val (.long (own_co x2 (5 : Int32))), nS, .val (.long (own_co x2 (0 : Int32))), nS, .val (.long (own_co x2 (1 : Int32))), nS, .val (.long lv7), nS, .val (.long lv8), nS, .val (.long lv9), nS, nU, nU, nU, nU, nU, nU] [(.long (((own_co x2 (1 : Int32)) + (((4 : Int64) * (own_co x2 (2 : Int32))) * x3)) + ((((12 : Int64) * (own_co x2 (3 : Int32))) * x3) * x3)))]))
  refine G1 (fun _ k => XS.lstore X6.here hx rfl (hb hby d1_176) rfl (l' := #[.val (.ref x0), .val (.int (1 : Int32)), .val (.long x2), nS, .val (.long x3), nS, .val (.long (own_co x2 (0 : Int32))), nS, .val (.long (own_co x2 (1 : Int32))), nS, .val (.long (own_co x2 (2 : Int32))), nS, .val (.long (own_co x2 (3 : Int32))), nS, .val (.long (own_co x2 (4 : Int32))), nS, .val (.long (own_co x2 (5 : Int32))), nS, .val (.long (own_co x2 (0 : Int32))), nS, .val (.long (own_co x2 (1 : Int32))), nS, .val (.long lv7), nS, .val (.long lv8), nS, .val (.long lv9), nS, .val (.long (((own_co x2 (1 : Int32)) + (((4 : Int64) * (own_co x2 (2 : Int32))) * x3)) + ((((12 : Int64) * (own_co x2 (3 : Int32))) * x3) * x3))), nS, nU, nU, nU, nU]) rfl k) ?_
  show Goes _ _ _ _ _ _ _ (T6.setTop (mkF m 178 _ []))
  show Goes _ _ _ _ _ _ _ (T6.setTop (mkF m 178 #[.val (.ref x0), .val (.int (1 : Int32)), .val (.long x2), nS, .val (.long x3), nS, .val (.long (own_co x2 (0 : Int32))), nS, .val (.long (own_co x2 (1 : Int32))), nS, .val (.long (own_co x2 (2 : Int32))), nS, .val (.long (own_co x2 (3 : Int32))), nS, .val (.long (own_co x2 (4 : Int32))), nS, .val (.long (own_co x2 (5 : Int32))), nS, .val (.long (own_co x2 (0 : Int32))), nS, .val (.long (own_co x2 (1 : Int32))), nS, .val (.long lv7), nS, .val (.long lv8), nS, .val (.long lv9), nS, .val (.long (((own_co x2 (1 : Int32)) + (((4 : Int64) * (own_co x2 (2 : Int32))) * x3)) + ((((12 : Int64) * (own_co x2 (3 : Int32))) * x3) * x3))), nS, nU, nU, nU, nU] []))
  generalize hg_lv10 : (((own_co x2 (1 : Int32)) + (((4 : Int64) * (own_co x2 (2 : Int32))) * x3)) + ((((12 : Int64) * (own_co x2 (3 : Int32))) * x3) * x3)) = lv10
  show Goes _ _ _ _ _ _ _ (T6.setTop (mkF m 178 #[.val (.ref x0), .val (.int (1 : Int32)), .val (.long x2), nS, .val (.long x3), nS, .val (.long (own_co x2 (0 : Int32))), nS, .val (.long (own_co x2 (1 : Int32))), nS, .val (.long (own_co x2 (2 : Int32))), nS, .val (.long (own_co x2 (3 : Int32))), nS, .val (.long (own_co x2 (4 : Int32))), nS, .val (.long (own_co x2 (5 : Int32))), nS, .val (.long (own_co x2 (0 : Int32))), nS, .val (.long (own_co x2 (1 : Int32))), nS, .val (.long lv7), nS, .val (.long lv8), nS, .val (.long lv9), nS, .val (.long lv10), nS, nU, nU, nU, nU] []))
  have Llv10 : own_L lv10 (((own_co x2 (1 : Int32)).toInt + (((4 : Int) * (own_co x2 (2 : Int32)).toInt) * x3.toInt)) + ((((12 : Int) * (own_co x2 (3 : Int32)).toInt) * x3.toInt) * x3.toInt)) 1606144 := hg_lv10 ▸ (own_L.add (own_L.add (own_coL x2 (1 : Int32)) (own_L.mul (own_L.mul (⟨by decide, by decide⟩ : own_L (4 : Int64) 4 4) (own_coL x2 (2 : Int32)) (by decide)) hs (by decide)) (by decide)) (own_L.mul (own_L.mul (own_L.mul (⟨by decide, by decide⟩ : own_L (12 : Int64) 12 12) (own_coL x2 (3 : Int32)) (by decide)) hs (by decide)) hs (by decide)) (by decide))
  refine G1 (fun _ k => XS.lload X6.here hx rfl (hb hby d1_178) rfl  k) ?_
  refine G1 (fun _ k => XS.lload X6.here hx rfl (hb hby d1_180) rfl  k) ?_
  refine G1 (fun _ k => XS.lload X6.here hx rfl (hb hby d1_182) rfl  k) ?_
  refine G1 (fun _ k => XS.lmul X6.here hx rfl (hb hby d1_184) rfl k) ?_
  show Goes _ _ _ _ _ _ _ (T6.setTop (mkF m 185 _ [(.long (x3 * x3)), (.long lv9)]))
  refine G1 (fun _ k => XS.lload X6.here hx rfl (hb hby d1_185) rfl  k) ?_
  refine G1 (fun _ k => XS.lload X6.here hx rfl (hb hby d1_187) rfl  k) ?_
  refine G1 (fun _ k => XS.lload X6.here hx rfl (hb hby d1_189) rfl  k) ?_
  refine G1 (fun _ k => XS.lmul X6.here hx rfl (hb hby d1_191) rfl k) ?_
  show Goes _ _ _ _ _ _ _ (T6.setTop (mkF m 192 _ [(.long ((own_co x2 (5 : Int32)) * x3)), (.long (own_co x2 (4 : Int32))), (.long (x3 * x3)), (.long lv9)]))
  refine G1 (fun _ k => XS.ladd X6.here hx rfl (hb hby d1_192) rfl k) ?_
  show Goes _ _ _ _ _ _ _ (T6.setTop (mkF m 193 _ [(.long ((own_co x2 (4 : Int32)) + ((own_co x2 (5 : Int32)) * x3))), (.long (x3 * x3)), (.long lv9)]))
  refine G1 (fun _ k => XS.lmul X6.here hx rfl (hb hby d1_193) rfl k) ?_
  show Goes _ _ _ _ _ _ _ (T6.setTop (mkF m 194 _ [(.long ((x3 * x3) * ((own_co x2 (4 : Int32)) + ((own_co x2 (5 : Int32)) * x3)))), (.long lv9)]))
  refine G1 (fun _ k => XS.ladd X6.here hx rfl (hb hby d1_194) rfl k) ?_
  show Goes _ _ _ _ _ _ _ (T6.setTop (mkF m 195 _ [(.long (lv9 + ((x3 * x3) * ((own_co x2 (4 : Int32)) + ((own_co x2 (5 : Int32)) * x3)))))]))
  refine G1 (fun _ k => XS.lstore X6.here hx rfl (hb hby d1_195) rfl (l' := #[.val (.ref x0), .val (.int (1 : Int32)), .val (.long x2), nS, .val (.long x3), nS, .val (.long (own_co x2 (0 : Int32))), nS, .val (.long (own_co x2 (1 : Int32))), nS, .val (.long (own_co x2 (2 : Int32))), nS, .val (.long (own_co x2 (3 : Int32))), nS, .val (.long (own_co x2 (4 : Int32))), nS, .val (.long (own_co x2 (5 : Int32))), nS, .val (.long (own_co x2 (0 : Int32))), nS, .val (.long (own_co x2 (1 : Int32))), nS, .val (.long lv7), nS, .val (.long lv8), nS, .val (.long lv9), nS, .val (.long lv10), nS, .val (.long (lv9 + ((x3 * x3) * ((own_co x2 (4 : Int32)) + ((own_co x2 (5 : Int32)) * x3))))), nS, nU, nU]) rfl k) ?_
  show Goes _ _ _ _ _ _ _ (T6.setTop (mkF m 197 _ []))
  show Goes _ _ _ _ _ _ _ (T6.setTop (mkF m 197 #[.val (.ref x0), .val (.int (1 : Int32)), .val (.long x2), nS, .val (.long x3), nS, .val (.long (own_co x2 (0 : Int32))), nS, .val (.long (own_co x2 (1 : Int32))), nS, .val (.long (own_co x2 (2 : Int32))), nS, .val (.long (own_co x2 (3 : Int32))), nS, .val (.long (own_co x2 (4 : Int32))), nS, .val (.long (own_co x2 (5 : Int32))), nS, .val (.long (own_co x2 (0 : Int32))), nS, .val (.long (own_co x2 (1 : Int32))), nS, .val (.long lv7), nS, .val (.long lv8), nS, .val (.long lv9), nS, .val (.long lv10), nS, .val (.long (lv9 + ((x3 * x3) * ((own_co x2 (4 : Int32)) + ((own_co x2 (5 : Int32)) * x3))))), nS, nU, nU] []))
  generalize hg_lv11 : (lv9 + ((x3 * x3) * ((own_co x2 (4 : Int32)) + ((own_co x2 (5 : Int32)) * x3)))) = lv11
  show Goes _ _ _ _ _ _ _ (T6.setTop (mkF m 197 #[.val (.ref x0), .val (.int (1 : Int32)), .val (.long x2), nS, .val (.long x3), nS, .val (.long (own_co x2 (0 : Int32))), nS, .val (.long (own_co x2 (1 : Int32))), nS, .val (.long (own_co x2 (2 : Int32))), nS, .val (.long (own_co x2 (3 : Int32))), nS, .val (.long (own_co x2 (4 : Int32))), nS, .val (.long (own_co x2 (5 : Int32))), nS, .val (.long (own_co x2 (0 : Int32))), nS, .val (.long (own_co x2 (1 : Int32))), nS, .val (.long lv7), nS, .val (.long lv8), nS, .val (.long lv9), nS, .val (.long lv10), nS, .val (.long lv11), nS, nU, nU] []))
  have Llv11 : own_L lv11 (((((own_co x2 (0 : Int32)).toInt + (((2 : Int) * (own_co x2 (1 : Int32)).toInt) * x3.toInt)) + ((((4 : Int) * (own_co x2 (2 : Int32)).toInt) * x3.toInt) * x3.toInt)) + (((((8 : Int) * (own_co x2 (3 : Int32)).toInt) * x3.toInt) * x3.toInt) * x3.toInt)) + ((x3.toInt * x3.toInt) * ((own_co x2 (4 : Int32)).toInt + ((own_co x2 (5 : Int32)).toInt * x3.toInt)))) 19546624 := hg_lv11 ▸ (own_L.add Llv9 (own_L.mul (own_L.mul hs hs (by decide)) (own_L.add (own_coL x2 (4 : Int32)) (own_L.mul (own_coL x2 (5 : Int32)) hs (by decide)) (by decide)) (by decide)) (by decide))
  refine G1 (fun _ k => XS.lload X6.here hx rfl (hb hby d1_197) rfl  k) ?_
  refine G1 (fun _ k => X6.ldc2Long hx hown (mvT hZ w_8) (g := (mkF m 199 #[.val (.ref x0), .val (.int (1 : Int32)), .val (.long x2), nS, .val (.long x3), nS, .val (.long (own_co x2 (0 : Int32))), nS, .val (.long (own_co x2 (1 : Int32))), nS, .val (.long (own_co x2 (2 : Int32))), nS, .val (.long (own_co x2 (3 : Int32))), nS, .val (.long (own_co x2 (4 : Int32))), nS, .val (.long (own_co x2 (5 : Int32))), nS, .val (.long (own_co x2 (0 : Int32))), nS, .val (.long (own_co x2 (1 : Int32))), nS, .val (.long lv7), nS, .val (.long lv8), nS, .val (.long lv9), nS, .val (.long lv10), nS, .val (.long lv11), nS, nU, nU] [(.long lv10)])) rfl (hb hby d1_199) _ k) ?_
  refine G1 (fun _ k => XS.lload X6.here hx rfl (hb hby d1_202) rfl  k) ?_
  refine G1 (fun _ k => XS.lmul X6.here hx rfl (hb hby d1_204) rfl k) ?_
  show Goes _ _ _ _ _ _ _ (T6.setTop (mkF m 205 _ [(.long ((2 : Int64) * x3)), (.long lv10)]))
  refine G1 (fun _ k => XS.lload X6.here hx rfl (hb hby d1_205) rfl  k) ?_
  refine G1 (fun _ k => XS.lmul X6.here hx rfl (hb hby d1_207) rfl k) ?_
  show Goes _ _ _ _ _ _ _ (T6.setTop (mkF m 208 _ [(.long (((2 : Int64) * x3) * (own_co x2 (4 : Int32)))), (.long lv10)]))
  refine G1 (fun _ k => XS.ladd X6.here hx rfl (hb hby d1_208) rfl k) ?_
  show Goes _ _ _ _ _ _ _ (T6.setTop (mkF m 209 _ [(.long (lv10 + (((2 : Int64) * x3) * (own_co x2 (4 : Int32)))))]))
  refine G1 (fun _ k => X6.ldc2Long hx hown (mvT hZ w_9) (g := (mkF m 209 #[.val (.ref x0), .val (.int (1 : Int32)), .val (.long x2), nS, .val (.long x3), nS, .val (.long (own_co x2 (0 : Int32))), nS, .val (.long (own_co x2 (1 : Int32))), nS, .val (.long (own_co x2 (2 : Int32))), nS, .val (.long (own_co x2 (3 : Int32))), nS, .val (.long (own_co x2 (4 : Int32))), nS, .val (.long (own_co x2 (5 : Int32))), nS, .val (.long (own_co x2 (0 : Int32))), nS, .val (.long (own_co x2 (1 : Int32))), nS, .val (.long lv7), nS, .val (.long lv8), nS, .val (.long lv9), nS, .val (.long lv10), nS, .val (.long lv11), nS, nU, nU] [(.long (lv10 + (((2 : Int64) * x3) * (own_co x2 (4 : Int32)))))])) rfl (hb hby d1_209) _ k) ?_
  refine G1 (fun _ k => XS.lload X6.here hx rfl (hb hby d1_212) rfl  k) ?_
  refine G1 (fun _ k => XS.lmul X6.here hx rfl (hb hby d1_214) rfl k) ?_
  show Goes _ _ _ _ _ _ _ (T6.setTop (mkF m 215 _ [(.long ((3 : Int64) * (own_co x2 (5 : Int32)))), (.long (lv10 + (((2 : Int64) * x3) * (own_co x2 (4 : Int32)))))]))
  refine G1 (fun _ k => XS.lload X6.here hx rfl (hb hby d1_215) rfl  k) ?_
  refine G1 (fun _ k => XS.lmul X6.here hx rfl (hb hby d1_217) rfl k) ?_
  show Goes _ _ _ _ _ _ _ (T6.setTop (mkF m 218 _ [(.long (((3 : Int64) * (own_co x2 (5 : Int32))) * x3)), (.long (lv10 + (((2 : Int64) * x3) * (own_co x2 (4 : Int32)))))]))
  refine G1 (fun _ k => XS.lload X6.here hx rfl (hb hby d1_218) rfl  k) ?_
  refine G1 (fun _ k => XS.lmul X6.here hx rfl (hb hby d1_220) rfl k) ?_
  show Goes _ _ _ _ _ _ _ (T6.setTop (mkF m 221 _ [(.long ((((3 : Int64) * (own_co x2 (5 : Int32))) * x3) * x3)), (.long (lv10 + (((2 : Int64) * x3) * (own_co x2 (4 : Int32)))))]))
  refine G1 (fun _ k => XS.ladd X6.here hx rfl (hb hby d1_221) rfl k) ?_
  show Goes _ _ _ _ _ _ _ (T6.setTop (mkF m 222 #[.val (.ref x0), .val (.int (1 : Int32)), .val (.long x2), nS, .val (.long x3), nS, .val (.long (own_co x2 (0 : Int32))), nS, .val (.long (own_co x2 (1 : Int32))), nS, .val (.long (own_co x2 (2 : Int32))), nS, .val (.long (own_co x2 (3 : Int32))), nS, .val (.long (own_co x2 (4 : Int32))), nS, .val (.long (own_co x2 (5 : Int32))), nS, .val (.long (own_co x2 (0 : Int32))), nS, .val (.long (own_co x2 (1 : Int32))), nS, .val (.long lv7), nS, .val (.long lv8), nS, .val (.long lv9), nS, .val (.long lv10), nS, .val (.long lv11), nS, nU, nU] [(.long ((lv10 + (((2 : Int64) * x3) * (own_co x2 (4 : Int32)))) + ((((3 : Int64) * (own_co x2 (5 : Int32))) * x3) * x3)))]))
  refine G1 (fun _ k => XS.lstore X6.here hx rfl (hb hby d1_222) rfl (l' := #[.val (.ref x0), .val (.int (1 : Int32)), .val (.long x2), nS, .val (.long x3), nS, .val (.long (own_co x2 (0 : Int32))), nS, .val (.long (own_co x2 (1 : Int32))), nS, .val (.long (own_co x2 (2 : Int32))), nS, .val (.long (own_co x2 (3 : Int32))), nS, .val (.long (own_co x2 (4 : Int32))), nS, .val (.long (own_co x2 (5 : Int32))), nS, .val (.long (own_co x2 (0 : Int32))), nS, .val (.long (own_co x2 (1 : Int32))), nS, .val (.long lv7), nS, .val (.long lv8), nS, .val (.long lv9), nS, .val (.long lv10), nS, .val (.long lv11), nS, .val (.long ((lv10 + (((2 : Int64) * x3) * (own_co x2 (4 : Int32)))) + ((((3 : Int64) * (own_co x2 (5 : Int32))) * x3) * x3))), nS]) rfl k) ?_
  show Goes _ _ _ _ _ _ _ (T6.setTop (mkF m 224 _ []))
  show Goes _ _ _ _ _ _ _ (T6.setTop (mkF m 224 #[.val (.ref x0), .val (.int (1 : Int32)), .val (.long x2), nS, .val (.long x3), nS, .val (.long (own_co x2 (0 : Int32))), nS, .val (.long (own_co x2 (1 : Int32))), nS, .val (.long (own_co x2 (2 : Int32))), nS, .val (.long (own_co x2 (3 : Int32))), nS, .val (.long (own_co x2 (4 : Int32))), nS, .val (.long (own_co x2 (5 : Int32))), nS, .val (.long (own_co x2 (0 : Int32))), nS, .val (.long (own_co x2 (1 : Int32))), nS, .val (.long lv7), nS, .val (.long lv8), nS, .val (.long lv9), nS, .val (.long lv10), nS, .val (.long lv11), nS, .val (.long ((lv10 + (((2 : Int64) * x3) * (own_co x2 (4 : Int32)))) + ((((3 : Int64) * (own_co x2 (5 : Int32))) * x3) * x3))), nS] []))
  generalize hg_lv12 : ((lv10 + (((2 : Int64) * x3) * (own_co x2 (4 : Int32)))) + ((((3 : Int64) * (own_co x2 (5 : Int32))) * x3) * x3)) = lv12
  show Goes _ _ _ _ _ _ _ (T6.setTop (mkF m 224 #[.val (.ref x0), .val (.int (1 : Int32)), .val (.long x2), nS, .val (.long x3), nS, .val (.long (own_co x2 (0 : Int32))), nS, .val (.long (own_co x2 (1 : Int32))), nS, .val (.long (own_co x2 (2 : Int32))), nS, .val (.long (own_co x2 (3 : Int32))), nS, .val (.long (own_co x2 (4 : Int32))), nS, .val (.long (own_co x2 (5 : Int32))), nS, .val (.long (own_co x2 (0 : Int32))), nS, .val (.long (own_co x2 (1 : Int32))), nS, .val (.long lv7), nS, .val (.long lv8), nS, .val (.long lv9), nS, .val (.long lv10), nS, .val (.long lv11), nS, .val (.long lv12), nS] []))
  have Llv12 : own_L lv12 (((((own_co x2 (1 : Int32)).toInt + (((4 : Int) * (own_co x2 (2 : Int32)).toInt) * x3.toInt)) + ((((12 : Int) * (own_co x2 (3 : Int32)).toInt) * x3.toInt) * x3.toInt)) + (((2 : Int) * x3.toInt) * (own_co x2 (4 : Int32)).toInt)) + ((((3 : Int) * (own_co x2 (5 : Int32)).toInt) * x3.toInt) * x3.toInt)) 2015744 := hg_lv12 ▸ (own_L.add (own_L.add Llv10 (own_L.mul (own_L.mul (⟨by decide, by decide⟩ : own_L (2 : Int64) 2 2) hs (by decide)) (own_coL x2 (4 : Int32)) (by decide)) (by decide)) (own_L.mul (own_L.mul (own_L.mul (⟨by decide, by decide⟩ : own_L (3 : Int64) 3 3) (own_coL x2 (5 : Int32)) (by decide)) hs (by decide)) hs (by decide)) (by decide))
  refine G1 (fun _ k => XS.aloadN X6.here hx rfl (hb hby d1_224) rfl rfl k) ?_
  refine G1 (fun _ k => XS.iloadN X6.here hx rfl (hb hby d1_225) rfl  k) ?_
  refine G1 (fun _ k => XS.lload X6.here hx rfl (hb hby d1_226) rfl  k) ?_
  obtain ⟨d13, hd13⟩ : ∃ z, FP.l2d (own_co x2 (0 : Int32)) = z := ⟨_, rfl⟩
  have fr13 : OwnF.Fr 0 (own_co x2 (0 : Int32)).toInt 512 d13 := by rw [← hd13]; exact own_frL (own_coL x2 (0 : Int32)) (by decide)
  refine G1 (fun _ k => XS.l2dS X6.here hx rfl (hb hby d1_228) rfl hd13 k) ?_
  show Goes _ _ _ _ _ _ _ (T6.setTop (mkF m 229 _ [(.double d13), (.int (1 : Int32)), (.ref x0)]))
  obtain ⟨cl14, Ar14, q14, S14, P14, H14, G14⟩ := id V_x0
  have hin14 : ¬ ((1 : Int32) < 0 ∨ cl14.slots.size ≤ ((1 : Int32)).toNatClampNeg) := inb_of S14 ⟨by decide, by decide⟩
  obtain ⟨T15, h15, X15, e15, W15, st15⟩ := stD X6 hx hZ eh6 Ar14 (j := (1 : Int32)) hin14 (g := (mkF m 229 #[.val (.ref x0), .val (.int (1 : Int32)), .val (.long x2), nS, .val (.long x3), nS, .val (.long (own_co x2 (0 : Int32))), nS, .val (.long (own_co x2 (1 : Int32))), nS, .val (.long (own_co x2 (2 : Int32))), nS, .val (.long (own_co x2 (3 : Int32))), nS, .val (.long (own_co x2 (4 : Int32))), nS, .val (.long (own_co x2 (5 : Int32))), nS, .val (.long (own_co x2 (0 : Int32))), nS, .val (.long (own_co x2 (1 : Int32))), nS, .val (.long lv7), nS, .val (.long lv8), nS, .val (.long lv9), nS, .val (.long lv10), nS, .val (.long lv11), nS, .val (.long lv12), nS] [(.double d13), (.int (1 : Int32)), (.ref x0)])) rfl rfl (hb hby d1_229)
  refine G1 st15 ?_
  have V15 : Arv Z h15 x0 ka .double (18 : Int32) [(.double ve0), (.double d13), (.double ve2), (.double ve3), (.double ve4), (.double ve5), (.double ve6), (.double ve7), (.double ve8), (.double ve9), (.double ve10), (.double ve11), (.double ve12), (.double ve13), (.double ve14), (.double ve15), (.double ve16), (.double ve17)] (.double (0 : UInt64)) := Arv.set Ar14 q14 S14 P14 H14 G14 rfl W15 1 rfl (Nat.le_of_ble_eq_true rfl)
  have f16 := V15
  have K17 : Keep h0 h15 [x0] := K0.wr W15 (Or.inl (List.mem_of_getElem? (i := 0) rfl))
  have Z17 : n0 ≤ h15.size := by rw [Wr.size W15]; exact Z0
  have N17 := Fr.snoc X15 NA6 g_x0
  show Goes _ _ _ _ _ _ _ (T15.setTop (mkF m 230 _ []))
  refine G1 (fun _ k => XS.aloadN X15.here hx rfl (hb hby d1_230) rfl rfl k) ?_
  refine G1 (fun _ k => XS.iconst X15.here hx rfl (hb hby d1_231) k) ?_
  refine G1 (fun _ k => XS.iloadN X15.here hx rfl (hb hby d1_232) rfl  k) ?_
  refine G1 (fun _ k => XS.iadd X15.here hx rfl (hb hby d1_233) rfl k) ?_
  show Goes _ _ _ _ _ _ _ (T15.setTop (mkF m 234 _ [(.int (4 : Int32)), (.ref x0)]))
  refine G1 (fun _ k => XS.lload X15.here hx rfl (hb hby d1_234) rfl  k) ?_
  obtain ⟨d18, hd18⟩ : ∃ z, FP.l2d (own_co x2 (1 : Int32)) = z := ⟨_, rfl⟩
  have fr18 : OwnF.Fr 0 (own_co x2 (1 : Int32)).toInt 512 d18 := by rw [← hd18]; exact own_frL (own_coL x2 (1 : Int32)) (by decide)
  refine G1 (fun _ k => XS.l2dS X15.here hx rfl (hb hby d1_236) rfl hd18 k) ?_
  show Goes _ _ _ _ _ _ _ (T15.setTop (mkF m 237 _ [(.double d18), (.int (4 : Int32)), (.ref x0)]))
  obtain ⟨cl19, Ar19, q19, S19, P19, H19, G19⟩ := id f16
  have hin19 : ¬ ((4 : Int32) < 0 ∨ cl19.slots.size ≤ ((4 : Int32)).toNatClampNeg) := inb_of S19 ⟨by decide, by decide⟩
  obtain ⟨T20, h20, X20, e20, W20, st20⟩ := stD X15 hx hZ e15 Ar19 (j := (4 : Int32)) hin19 (g := (mkF m 237 #[.val (.ref x0), .val (.int (1 : Int32)), .val (.long x2), nS, .val (.long x3), nS, .val (.long (own_co x2 (0 : Int32))), nS, .val (.long (own_co x2 (1 : Int32))), nS, .val (.long (own_co x2 (2 : Int32))), nS, .val (.long (own_co x2 (3 : Int32))), nS, .val (.long (own_co x2 (4 : Int32))), nS, .val (.long (own_co x2 (5 : Int32))), nS, .val (.long (own_co x2 (0 : Int32))), nS, .val (.long (own_co x2 (1 : Int32))), nS, .val (.long lv7), nS, .val (.long lv8), nS, .val (.long lv9), nS, .val (.long lv10), nS, .val (.long lv11), nS, .val (.long lv12), nS] [(.double d18), (.int (4 : Int32)), (.ref x0)])) rfl rfl (hb hby d1_237)
  refine G1 st20 ?_
  have V20 : Arv Z h20 x0 ka .double (18 : Int32) [(.double ve0), (.double d13), (.double ve2), (.double ve3), (.double d18), (.double ve5), (.double ve6), (.double ve7), (.double ve8), (.double ve9), (.double ve10), (.double ve11), (.double ve12), (.double ve13), (.double ve14), (.double ve15), (.double ve16), (.double ve17)] (.double (0 : UInt64)) := Arv.set Ar19 q19 S19 P19 H19 G19 rfl W20 4 rfl (Nat.le_of_ble_eq_true rfl)
  have f21 := V20
  have K22 : Keep h0 h20 [x0] := K17.wr W20 (Or.inl (List.mem_of_getElem? (i := 0) rfl))
  have Z22 : n0 ≤ h20.size := by rw [Wr.size W20]; exact Z17
  have N22 := Fr.snoc X20 N17 g_x0
  show Goes _ _ _ _ _ _ _ (T20.setTop (mkF m 238 _ []))
  refine G1 (fun _ k => XS.aloadN X20.here hx rfl (hb hby d1_238) rfl rfl k) ?_
  refine G1 (fun _ k => XS.bipush X20.here hx rfl (hb hby d1_239) k) ?_
  refine G1 (fun _ k => XS.iloadN X20.here hx rfl (hb hby d1_241) rfl  k) ?_
  refine G1 (fun _ k => XS.iadd X20.here hx rfl (hb hby d1_242) rfl k) ?_
  show Goes _ _ _ _ _ _ _ (T20.setTop (mkF m 243 _ [(.int (7 : Int32)), (.ref x0)]))
  refine G1 (fun _ k => XS.lload X20.here hx rfl (hb hby d1_243) rfl  k) ?_
  obtain ⟨d23, hd23⟩ : ∃ z, FP.l2d lv7 = z := ⟨_, rfl⟩
  have fr23 : OwnF.Fr 0 ((((own_co x2 (0 : Int32)).toInt + ((own_co x2 (1 : Int32)).toInt * x3.toInt)) + (((own_co x2 (2 : Int32)).toInt * x3.toInt) * x3.toInt)) + ((((own_co x2 (3 : Int32)).toInt * x3.toInt) * x3.toInt) * x3.toInt)) 2236928 d23 := by rw [← hd23]; exact own_frL Llv7 (by decide)
  refine G1 (fun _ k => XS.l2dS X20.here hx rfl (hb hby d1_245) rfl hd23 k) ?_
  show Goes _ _ _ _ _ _ _ (T20.setTop (mkF m 246 #[.val (.ref x0), .val (.int (1 : Int32)), .val (.long x2), nS, .val (.long x3), nS, .val (.long (own_co x2 (0 : Int32))), nS, .val (.long (own_co x2 (1 : Int32))), nS, .val (.long (own_co x2 (2 : Int32))), nS, .val (.long (own_co x2 (3 : Int32))), nS, .val (.long (own_co x2 (4 : Int32))), nS, .val (.long (own_co x2 (5 : Int32))), nS, .val (.long (own_co x2 (0 : Int32))), nS, .val (.long (own_co x2 (1 : Int32))), nS, .val (.long lv7), nS, .val (.long lv8), nS, .val (.long lv9), nS, .val (.long lv10), nS, .val (.long lv11), nS, .val (.long lv12), nS] [(.double d23), (.int (7 : Int32)), (.ref x0)]))
  obtain ⟨cl24, Ar24, q24, S24, P24, H24, G24⟩ := id f21
  have hin24 : ¬ ((7 : Int32) < 0 ∨ cl24.slots.size ≤ ((7 : Int32)).toNatClampNeg) := inb_of S24 ⟨by decide, by decide⟩
  obtain ⟨T25, h25, X25, e25, W25, st25⟩ := stD X20 hx hZ e20 Ar24 (j := (7 : Int32)) hin24 (g := (mkF m 246 #[.val (.ref x0), .val (.int (1 : Int32)), .val (.long x2), nS, .val (.long x3), nS, .val (.long (own_co x2 (0 : Int32))), nS, .val (.long (own_co x2 (1 : Int32))), nS, .val (.long (own_co x2 (2 : Int32))), nS, .val (.long (own_co x2 (3 : Int32))), nS, .val (.long (own_co x2 (4 : Int32))), nS, .val (.long (own_co x2 (5 : Int32))), nS, .val (.long (own_co x2 (0 : Int32))), nS, .val (.long (own_co x2 (1 : Int32))), nS, .val (.long lv7), nS, .val (.long lv8), nS, .val (.long lv9), nS, .val (.long lv10), nS, .val (.long lv11), nS, .val (.long lv12), nS] [(.double d23), (.int (7 : Int32)), (.ref x0)])) rfl rfl (hb hby d1_246)
  refine G1 st25 ?_
  have V25 : Arv Z h25 x0 ka .double (18 : Int32) [(.double ve0), (.double d13), (.double ve2), (.double ve3), (.double d18), (.double ve5), (.double ve6), (.double d23), (.double ve8), (.double ve9), (.double ve10), (.double ve11), (.double ve12), (.double ve13), (.double ve14), (.double ve15), (.double ve16), (.double ve17)] (.double (0 : UInt64)) := Arv.set Ar24 q24 S24 P24 H24 G24 rfl W25 7 rfl (Nat.le_of_ble_eq_true rfl)
  have f26 := V25
  have K27 : Keep h0 h25 [x0] := K22.wr W25 (Or.inl (List.mem_of_getElem? (i := 0) rfl))
  have Z27 : n0 ≤ h25.size := by rw [Wr.size W25]; exact Z22
  have N27 := Fr.snoc X25 N22 g_x0
  show Goes _ _ _ _ _ _ _ (T25.setTop (mkF m 247 _ []))
  refine G1 (fun _ k => XS.aloadN X25.here hx rfl (hb hby d1_247) rfl rfl k) ?_
  refine G1 (fun _ k => XS.bipush X25.here hx rfl (hb hby d1_248) k) ?_
  refine G1 (fun _ k => XS.iloadN X25.here hx rfl (hb hby d1_250) rfl  k) ?_
  refine G1 (fun _ k => XS.iadd X25.here hx rfl (hb hby d1_251) rfl k) ?_
  show Goes _ _ _ _ _ _ _ (T25.setTop (mkF m 252 _ [(.int (10 : Int32)), (.ref x0)]))
  refine G1 (fun _ k => XS.lload X25.here hx rfl (hb hby d1_252) rfl  k) ?_
  obtain ⟨d28, hd28⟩ : ∃ z, FP.l2d lv8 = z := ⟨_, rfl⟩
  have fr28 : OwnF.Fr 0 (((own_co x2 (1 : Int32)).toInt + (((2 : Int) * (own_co x2 (2 : Int32)).toInt) * x3.toInt)) + ((((3 : Int) * (own_co x2 (3 : Int32)).toInt) * x3.toInt) * x3.toInt)) 410112 d28 := by rw [← hd28]; exact own_frL Llv8 (by decide)
  refine G1 (fun _ k => XS.l2dS X25.here hx rfl (hb hby d1_254) rfl hd28 k) ?_
  show Goes _ _ _ _ _ _ _ (T25.setTop (mkF m 255 _ [(.double d28), (.int (10 : Int32)), (.ref x0)]))
  obtain ⟨cl29, Ar29, q29, S29, P29, H29, G29⟩ := id f26
  have hin29 : ¬ ((10 : Int32) < 0 ∨ cl29.slots.size ≤ ((10 : Int32)).toNatClampNeg) := inb_of S29 ⟨by decide, by decide⟩
  obtain ⟨T30, h30, X30, e30, W30, st30⟩ := stD X25 hx hZ e25 Ar29 (j := (10 : Int32)) hin29 (g := (mkF m 255 #[.val (.ref x0), .val (.int (1 : Int32)), .val (.long x2), nS, .val (.long x3), nS, .val (.long (own_co x2 (0 : Int32))), nS, .val (.long (own_co x2 (1 : Int32))), nS, .val (.long (own_co x2 (2 : Int32))), nS, .val (.long (own_co x2 (3 : Int32))), nS, .val (.long (own_co x2 (4 : Int32))), nS, .val (.long (own_co x2 (5 : Int32))), nS, .val (.long (own_co x2 (0 : Int32))), nS, .val (.long (own_co x2 (1 : Int32))), nS, .val (.long lv7), nS, .val (.long lv8), nS, .val (.long lv9), nS, .val (.long lv10), nS, .val (.long lv11), nS, .val (.long lv12), nS] [(.double d28), (.int (10 : Int32)), (.ref x0)])) rfl rfl (hb hby d1_255)
  refine G1 st30 ?_
  have V30 : Arv Z h30 x0 ka .double (18 : Int32) [(.double ve0), (.double d13), (.double ve2), (.double ve3), (.double d18), (.double ve5), (.double ve6), (.double d23), (.double ve8), (.double ve9), (.double d28), (.double ve11), (.double ve12), (.double ve13), (.double ve14), (.double ve15), (.double ve16), (.double ve17)] (.double (0 : UInt64)) := Arv.set Ar29 q29 S29 P29 H29 G29 rfl W30 10 rfl (Nat.le_of_ble_eq_true rfl)
  have f31 := V30
  have K32 : Keep h0 h30 [x0] := K27.wr W30 (Or.inl (List.mem_of_getElem? (i := 0) rfl))
  have Z32 : n0 ≤ h30.size := by rw [Wr.size W30]; exact Z27
  have N32 := Fr.snoc X30 N27 g_x0
  show Goes _ _ _ _ _ _ _ (T30.setTop (mkF m 256 _ []))
  refine G1 (fun _ k => XS.aloadN X30.here hx rfl (hb hby d1_256) rfl rfl k) ?_
  refine G1 (fun _ k => XS.bipush X30.here hx rfl (hb hby d1_257) k) ?_
  refine G1 (fun _ k => XS.iloadN X30.here hx rfl (hb hby d1_259) rfl  k) ?_
  refine G1 (fun _ k => XS.iadd X30.here hx rfl (hb hby d1_260) rfl k) ?_
  show Goes _ _ _ _ _ _ _ (T30.setTop (mkF m 261 _ [(.int (13 : Int32)), (.ref x0)]))
  refine G1 (fun _ k => XS.lload X30.here hx rfl (hb hby d1_261) rfl  k) ?_
  obtain ⟨d33, hd33⟩ : ∃ z, FP.l2d lv11 = z := ⟨_, rfl⟩
  have fr33 : OwnF.Fr 0 (((((own_co x2 (0 : Int32)).toInt + (((2 : Int) * (own_co x2 (1 : Int32)).toInt) * x3.toInt)) + ((((4 : Int) * (own_co x2 (2 : Int32)).toInt) * x3.toInt) * x3.toInt)) + (((((8 : Int) * (own_co x2 (3 : Int32)).toInt) * x3.toInt) * x3.toInt) * x3.toInt)) + ((x3.toInt * x3.toInt) * ((own_co x2 (4 : Int32)).toInt + ((own_co x2 (5 : Int32)).toInt * x3.toInt)))) 19546624 d33 := by rw [← hd33]; exact own_frL Llv11 (by decide)
  refine G1 (fun _ k => XS.l2dS X30.here hx rfl (hb hby d1_263) rfl hd33 k) ?_
  show Goes _ _ _ _ _ _ _ (T30.setTop (mkF m 264 _ [(.double d33), (.int (13 : Int32)), (.ref x0)]))
  obtain ⟨cl34, Ar34, q34, S34, P34, H34, G34⟩ := id f31
  have hin34 : ¬ ((13 : Int32) < 0 ∨ cl34.slots.size ≤ ((13 : Int32)).toNatClampNeg) := inb_of S34 ⟨by decide, by decide⟩
  obtain ⟨T35, h35, X35, e35, W35, st35⟩ := stD X30 hx hZ e30 Ar34 (j := (13 : Int32)) hin34 (g := (mkF m 264 #[.val (.ref x0), .val (.int (1 : Int32)), .val (.long x2), nS, .val (.long x3), nS, .val (.long (own_co x2 (0 : Int32))), nS, .val (.long (own_co x2 (1 : Int32))), nS, .val (.long (own_co x2 (2 : Int32))), nS, .val (.long (own_co x2 (3 : Int32))), nS, .val (.long (own_co x2 (4 : Int32))), nS, .val (.long (own_co x2 (5 : Int32))), nS, .val (.long (own_co x2 (0 : Int32))), nS, .val (.long (own_co x2 (1 : Int32))), nS, .val (.long lv7), nS, .val (.long lv8), nS, .val (.long lv9), nS, .val (.long lv10), nS, .val (.long lv11), nS, .val (.long lv12), nS] [(.double d33), (.int (13 : Int32)), (.ref x0)])) rfl rfl (hb hby d1_264)
  refine G1 st35 ?_
  have V35 : Arv Z h35 x0 ka .double (18 : Int32) [(.double ve0), (.double d13), (.double ve2), (.double ve3), (.double d18), (.double ve5), (.double ve6), (.double d23), (.double ve8), (.double ve9), (.double d28), (.double ve11), (.double ve12), (.double d33), (.double ve14), (.double ve15), (.double ve16), (.double ve17)] (.double (0 : UInt64)) := Arv.set Ar34 q34 S34 P34 H34 G34 rfl W35 13 rfl (Nat.le_of_ble_eq_true rfl)
  have f36 := V35
  have K37 : Keep h0 h35 [x0] := K32.wr W35 (Or.inl (List.mem_of_getElem? (i := 0) rfl))
  have Z37 : n0 ≤ h35.size := by rw [Wr.size W35]; exact Z32
  have N37 := Fr.snoc X35 N32 g_x0
  show Goes _ _ _ _ _ _ _ (T35.setTop (mkF m 265 #[.val (.ref x0), .val (.int (1 : Int32)), .val (.long x2), nS, .val (.long x3), nS, .val (.long (own_co x2 (0 : Int32))), nS, .val (.long (own_co x2 (1 : Int32))), nS, .val (.long (own_co x2 (2 : Int32))), nS, .val (.long (own_co x2 (3 : Int32))), nS, .val (.long (own_co x2 (4 : Int32))), nS, .val (.long (own_co x2 (5 : Int32))), nS, .val (.long (own_co x2 (0 : Int32))), nS, .val (.long (own_co x2 (1 : Int32))), nS, .val (.long lv7), nS, .val (.long lv8), nS, .val (.long lv9), nS, .val (.long lv10), nS, .val (.long lv11), nS, .val (.long lv12), nS] []))
  refine G1 (fun _ k => XS.aloadN X35.here hx rfl (hb hby d1_265) rfl rfl k) ?_
  refine G1 (fun _ k => XS.bipush X35.here hx rfl (hb hby d1_266) k) ?_
  refine G1 (fun _ k => XS.iloadN X35.here hx rfl (hb hby d1_268) rfl  k) ?_
  refine G1 (fun _ k => XS.iadd X35.here hx rfl (hb hby d1_269) rfl k) ?_
  show Goes _ _ _ _ _ _ _ (T35.setTop (mkF m 270 _ [(.int (16 : Int32)), (.ref x0)]))
  refine G1 (fun _ k => XS.lload X35.here hx rfl (hb hby d1_270) rfl  k) ?_
  obtain ⟨d38, hd38⟩ : ∃ z, FP.l2d lv12 = z := ⟨_, rfl⟩
  have fr38 : OwnF.Fr 0 (((((own_co x2 (1 : Int32)).toInt + (((4 : Int) * (own_co x2 (2 : Int32)).toInt) * x3.toInt)) + ((((12 : Int) * (own_co x2 (3 : Int32)).toInt) * x3.toInt) * x3.toInt)) + (((2 : Int) * x3.toInt) * (own_co x2 (4 : Int32)).toInt)) + ((((3 : Int) * (own_co x2 (5 : Int32)).toInt) * x3.toInt) * x3.toInt)) 2015744 d38 := by rw [← hd38]; exact own_frL Llv12 (by decide)
  refine G1 (fun _ k => XS.l2dS X35.here hx rfl (hb hby d1_272) rfl hd38 k) ?_
  show Goes _ _ _ _ _ _ _ (T35.setTop (mkF m 273 _ [(.double d38), (.int (16 : Int32)), (.ref x0)]))
  obtain ⟨cl39, Ar39, q39, S39, P39, H39, G39⟩ := id f36
  have hin39 : ¬ ((16 : Int32) < 0 ∨ cl39.slots.size ≤ ((16 : Int32)).toNatClampNeg) := inb_of S39 ⟨by decide, by decide⟩
  obtain ⟨T40, h40, X40, e40, W40, st40⟩ := stD X35 hx hZ e35 Ar39 (j := (16 : Int32)) hin39 (g := (mkF m 273 #[.val (.ref x0), .val (.int (1 : Int32)), .val (.long x2), nS, .val (.long x3), nS, .val (.long (own_co x2 (0 : Int32))), nS, .val (.long (own_co x2 (1 : Int32))), nS, .val (.long (own_co x2 (2 : Int32))), nS, .val (.long (own_co x2 (3 : Int32))), nS, .val (.long (own_co x2 (4 : Int32))), nS, .val (.long (own_co x2 (5 : Int32))), nS, .val (.long (own_co x2 (0 : Int32))), nS, .val (.long (own_co x2 (1 : Int32))), nS, .val (.long lv7), nS, .val (.long lv8), nS, .val (.long lv9), nS, .val (.long lv10), nS, .val (.long lv11), nS, .val (.long lv12), nS] [(.double d38), (.int (16 : Int32)), (.ref x0)])) rfl rfl (hb hby d1_273)
  refine G1 st40 ?_
  have V40 : Arv Z h40 x0 ka .double (18 : Int32) [(.double ve0), (.double d13), (.double ve2), (.double ve3), (.double d18), (.double ve5), (.double ve6), (.double d23), (.double ve8), (.double ve9), (.double d28), (.double ve11), (.double ve12), (.double d33), (.double ve14), (.double ve15), (.double d38), (.double ve17)] (.double (0 : UInt64)) := Arv.set Ar39 q39 S39 P39 H39 G39 rfl W40 16 rfl (Nat.le_of_ble_eq_true rfl)
  have f41 := V40
  have K42 : Keep h0 h40 [x0] := K37.wr W40 (Or.inl (List.mem_of_getElem? (i := 0) rfl))
  have Z42 : n0 ≤ h40.size := by rw [Wr.size W40]; exact Z37
  have N42 := Fr.snoc X40 N37 g_x0
  show Goes _ _ _ _ _ _ _ (T40.setTop (mkF m 274 _ []))
  exact Goes.retV X40 hx (BodyLoose.notSynchronized Bd) Bd.returns (hb hby d1_274) (by show Q1_1 Z x0 x2 x3 ka ve0 ve1 ve2 ve3 ve4 ve5 ve6 ve7 ve8 ve9 ve10 ve11 ve12 ve13 ve14 ve15 ve16 ve17 h0 n0 none T40.heap _; rw [e40]; exact ⟨N42, K42, rfl, d13, d18, d23, d28, d33, d38, (own_co x2 (0 : Int32)).toInt, (own_co x2 (1 : Int32)).toInt, ((((own_co x2 (0 : Int32)).toInt + ((own_co x2 (1 : Int32)).toInt * x3.toInt)) + (((own_co x2 (2 : Int32)).toInt * x3.toInt) * x3.toInt)) + ((((own_co x2 (3 : Int32)).toInt * x3.toInt) * x3.toInt) * x3.toInt)), (((own_co x2 (1 : Int32)).toInt + (((2 : Int) * (own_co x2 (2 : Int32)).toInt) * x3.toInt)) + ((((3 : Int) * (own_co x2 (3 : Int32)).toInt) * x3.toInt) * x3.toInt)), (((((own_co x2 (0 : Int32)).toInt + (((2 : Int) * (own_co x2 (1 : Int32)).toInt) * x3.toInt)) + ((((4 : Int) * (own_co x2 (2 : Int32)).toInt) * x3.toInt) * x3.toInt)) + (((((8 : Int) * (own_co x2 (3 : Int32)).toInt) * x3.toInt) * x3.toInt) * x3.toInt)) + ((x3.toInt * x3.toInt) * ((own_co x2 (4 : Int32)).toInt + ((own_co x2 (5 : Int32)).toInt * x3.toInt)))), (((((own_co x2 (1 : Int32)).toInt + (((4 : Int) * (own_co x2 (2 : Int32)).toInt) * x3.toInt)) + ((((12 : Int) * (own_co x2 (3 : Int32)).toInt) * x3.toInt) * x3.toInt)) + (((2 : Int) * x3.toInt) * (own_co x2 (4 : Int32)).toInt)) + ((((3 : Int) * (own_co x2 (5 : Int32)).toInt) * x3.toInt) * x3.toInt)), f41, rfl, fr13, rfl, fr18, rfl, fr23, rfl, fr28, rfl, fr33, rfl, fr38⟩) (by decide) (by decide)
theorem ef_1_2 (m : MethodId) (x0 : Addr) (x2 : Int64) (x3 : Int64) (ka : ClassId) (ve0 : UInt64) (ve1 : UInt64) (ve2 : UInt64) (ve3 : UInt64) (ve4 : UInt64) (ve5 : UInt64) (ve6 : UInt64) (ve7 : UInt64) (ve8 : UInt64) (ve9 : UInt64) (ve10 : UInt64) (ve11 : UInt64) (ve12 : UInt64) (ve13 : UInt64) (ve14 : UInt64) (ve15 : UInt64) (ve16 : UInt64) (ve17 : UInt64)  : entryFrame m #[(.ref x0), (.int (2 : Int32)), (.long x2), (.long x3)] 34 = mkF m 0 #[.val (.ref x0), .val (.int (2 : Int32)), .val (.long x2), .second, .val (.long x3), .second, .unset, .unset, .unset, .unset, .unset, .unset, .unset, .unset, .unset, .unset, .unset, .unset, .unset, .unset, .unset, .unset, .unset, .unset, .unset, .unset, .unset, .unset, .unset, .unset, .unset, .unset, .unset, .unset] [] := by first | (simp [entryFrame, mkF, argsToLocals, Value.category]; done) | rfl
def Q1_2 (Z : State) (x0 : Addr) (x2 : Int64) (x3 : Int64) (ka : ClassId) (ve0 : UInt64) (ve1 : UInt64) (ve2 : UInt64) (ve3 : UInt64) (ve4 : UInt64) (ve5 : UInt64) (ve6 : UInt64) (ve7 : UInt64) (ve8 : UInt64) (ve9 : UInt64) (ve10 : UInt64) (ve11 : UInt64) (ve12 : UInt64) (ve13 : UInt64) (ve14 : UInt64) (ve15 : UInt64) (ve16 : UInt64) (ve17 : UInt64) (h0 : Heap) (n0 : Nat) (v : Option Value) (h : Heap) (L : List Loc) : Prop := Fr n0 L ∧ Keep h0 h [x0] ∧ v = none ∧ ∃ (q0 q1 q2 q3 q4 q5 : UInt64) (vP0 vP1 vP2 vP3 vP4 vP5 : Int), Arv Z h x0 ka .double (18 : Int32) [(.double ve0), (.double ve1), (.double q0), (.double ve3), (.double ve4), (.double q1), (.double ve6), (.double ve7), (.double q2), (.double ve9), (.double ve10), (.double q3), (.double ve12), (.double ve13), (.double q4), (.double ve15), (.double ve16), (.double q5)] (.double (0 : UInt64)) ∧ vP0 = (own_co x2 (0 : Int32)).toInt ∧ OwnF.Fr 0 vP0 512 q0 ∧ vP1 = (own_co x2 (1 : Int32)).toInt ∧ OwnF.Fr 0 vP1 512 q1 ∧ vP2 = ((((own_co x2 (0 : Int32)).toInt + ((own_co x2 (1 : Int32)).toInt * x3.toInt)) + (((own_co x2 (2 : Int32)).toInt * x3.toInt) * x3.toInt)) + ((((own_co x2 (3 : Int32)).toInt * x3.toInt) * x3.toInt) * x3.toInt)) ∧ OwnF.Fr 0 vP2 2236928 q2 ∧ vP3 = (((own_co x2 (1 : Int32)).toInt + (((2 : Int) * (own_co x2 (2 : Int32)).toInt) * x3.toInt)) + ((((3 : Int) * (own_co x2 (3 : Int32)).toInt) * x3.toInt) * x3.toInt)) ∧ OwnF.Fr 0 vP3 410112 q3 ∧ vP4 = (((((own_co x2 (0 : Int32)).toInt + (((2 : Int) * (own_co x2 (1 : Int32)).toInt) * x3.toInt)) + ((((4 : Int) * (own_co x2 (2 : Int32)).toInt) * x3.toInt) * x3.toInt)) + (((((8 : Int) * (own_co x2 (3 : Int32)).toInt) * x3.toInt) * x3.toInt) * x3.toInt)) + ((x3.toInt * x3.toInt) * ((own_co x2 (4 : Int32)).toInt + ((own_co x2 (5 : Int32)).toInt * x3.toInt)))) ∧ OwnF.Fr 0 vP4 19546624 q4 ∧ vP5 = (((((own_co x2 (1 : Int32)).toInt + (((4 : Int) * (own_co x2 (2 : Int32)).toInt) * x3.toInt)) + ((((12 : Int) * (own_co x2 (3 : Int32)).toInt) * x3.toInt) * x3.toInt)) + (((2 : Int) * x3.toInt) * (own_co x2 (4 : Int32)).toInt)) + ((((3 : Int) * (own_co x2 (5 : Int32)).toInt) * x3.toInt) * x3.toInt)) ∧ OwnF.Fr 0 vP5 2015744 q5
set_option maxRecDepth 65536 in
set_option maxHeartbeats 40000000 in
theorem rm1_2 (l : Launch) (Z : State) (a0 : Array Value) (hw : ∀ d ∈ tables_1, d.before a0 Z = true) (ws : List Jvm.Cond) (x0 : Addr) (x2 : Int64) (x3 : Int64) (ka : ClassId) (ve0 : UInt64) (ve1 : UInt64) (ve2 : UInt64) (ve3 : UInt64) (ve4 : UInt64) (ve5 : UInt64) (ve6 : UInt64) (ve7 : UInt64) (ve8 : UInt64) (ve9 : UInt64) (ve10 : UInt64) (ve11 : UInt64) (ve12 : UInt64) (ve13 : UInt64) (ve14 : UInt64) (ve15 : UInt64) (ve16 : UInt64) (ve17 : UInt64) (h0 : Heap) (n0 : Nat) (Z0 : n0 ≤ h0.size) (V_x0 : Arv Z h0 x0 ka .double (18 : Int32) [(.double ve0), (.double ve1), (.double ve2), (.double ve3), (.double ve4), (.double ve5), (.double ve6), (.double ve7), (.double ve8), (.double ve9), (.double ve10), (.double ve11), (.double ve12), (.double ve13), (.double ve14), (.double ve15), (.double ve16), (.double ve17)] (.double (0 : UInt64))) (g_x0 : n0 ≤ x0) (hs : own_L x3 x3.toInt 16) :
    MetFree l (⟨"com/example/orbitloom/orbitloom/orbits/TrackAtPinLaw", "fill", "([DIJJ)V"⟩ : MethodName) (head1 (Jvm.Cond.code (⟨"com/example/orbitloom/orbitloom/orbits/TrackAtPinLaw", "fill", "([DIJJ)V"⟩ : MethodName) method_4_code 34 none :: ws) ({ frames := 1, cells := 0, slots := 0, locals := 14 } : Room)) (fun a U => a = #[(.ref x0), (.int (2 : Int32)), (.long x2), (.long x3)] ∧ Z.Warmed39 U.vm ∧ U.heap = h0) (fun _ _ _ _ _ => True) (fun _ U o U' => ∃ v L, o = .returned v ∧ Q1_2 Z x0 x2 x3 ka ve0 ve1 ve2 ve3 ve4 ve5 ve6 ve7 ve8 ve9 ve10 ve11 ve12 ve13 ve14 ve15 ve16 ve17 h0 n0 v U'.heap L ∧ FrameEnd U o U' L ({ frames := 1, cells := 0, slots := 0, locals := 14 } : Room).cells ({ frames := 1, cells := 0, slots := 0, locals := 14 } : Room).slots) := by
  refine MetFree.of_bodySF (plainFor_of_name pn_1) hisR ?_
  intro p e s m args below meth c s₁ Bd hml0 hP hK
  obtain ⟨rfl, hZ, hh⟩ := hP
  have w_3 := hw _ (List.mem_of_getElem? (i := 3) rfl)
  have w_5 := hw _ (List.mem_of_getElem? (i := 5) rfl)
  have w_6 := hw _ (List.mem_of_getElem? (i := 6) rfl)
  have w_7 := hw _ (List.mem_of_getElem? (i := 7) rfl)
  have w_8 := hw _ (List.mem_of_getElem? (i := 8) rfl)
  have w_9 := hw _ (List.mem_of_getElem? (i := 9) rfl)
  have w_10 := hw _ (List.mem_of_getElem? (i := 10) rfl)
  have w_11 := hw _ (List.mem_of_getElem? (i := 11) rfl)
  have w_12 := hw _ (List.mem_of_getElem? (i := 12) rfl)
  have hx := Bd.exec
  have hby := Bd.bytes
  have hml : c.maxLocals = 34 := hml0
  have hown : s.vm.findClass "com/example/orbitloom/orbitloom/orbits/TrackAtPinLaw" = some m.cls := findClass_of_methodNamed Bd.named
  have hnm := (name_of_methodNamed Bd.named Bd.method).1
  have X0 : Stand p l e ({ frames := 1, cells := 0, slots := 0, locals := 14 } : Room) s m #[(.ref x0), (.int (2 : Int32)), (.long x2), (.long x3)] below meth c s₁ [] 0 0 := Stand.of_body Bd
  have e0 : s₁.heap = h0 := by rw [← hh, Bd.state]; rfl
  have N0 := Fr.nil n0
  have K0 : Keep h0 h0 [x0] := Keep.refl h0 _
  refine (?_ : Goes p e below s ({ frames := 1, cells := 0, slots := 0, locals := 14 } : Room).cells ({ frames := 1, cells := 0, slots := 0, locals := 14 } : Room).slots (fun v h L => Q1_2 Z x0 x2 x3 ka ve0 ve1 ve2 ve3 ve4 ve5 ve6 ve7 ve8 ve9 ve10 ve11 ve12 ve13 ve14 ve15 ve16 ve17 h0 n0 v h L) (s₁.setTop (entryFrame m #[(.ref x0), (.int (2 : Int32)), (.long x2), (.long x3)] 34)))
  rw [ef_1_2 m x0 x2 x3 ka ve0 ve1 ve2 ve3 ve4 ve5 ve6 ve7 ve8 ve9 ve10 ve11 ve12 ve13 ve14 ve15 ve16 ve17 ]
  show Goes _ _ _ _ _ _ _ (s₁.setTop (mkF m 0 #[.val (.ref x0), .val (.int (2 : Int32)), .val (.long x2), nS, .val (.long x3), nS, nU, nU, nU, nU, nU, nU, nU, nU, nU, nU, nU, nU, nU, nU, nU, nU, nU, nU, nU, nU, nU, nU, nU, nU, nU, nU, nU, nU] []))
  refine G1 (fun _ k => XS.lloadN X0.here hx rfl (hb hby d1_0) rfl  k) ?_
  refine G1 (fun _ k => XS.iconst X0.here hx rfl (hb hby d1_1) k) ?_
  obtain ⟨_, _, ⟨T1, L1, k1, n1⟩, -, X1, ⟨Lc1, hQ1, l1, y1, z1⟩, st1⟩ := Jvm.LawKit.callS X0 hx (y := (⟨"com/example/orbitloom/orbitloom/orbits/TrackAtPinLaw", "co", "(JI)J"⟩ : MethodName)) hown (mvT hZ w_5) (mvT hZ w_6) (mvT hZ w_3) (mvT hZ w_7) (by decide) (backOf (W := 0) (rm2 l Z a0 hw [] x2 (0 : Int32) h0 n0 Z0) hZ w_7 w_3 (by decide) (by decide)) (g := (mkF m 2 #[.val (.ref x0), .val (.int (2 : Int32)), .val (.long x2), nS, .val (.long x3), nS, nU, nU, nU, nU, nU, nU, nU, nU, nU, nU, nU, nU, nU, nU, nU, nU, nU, nU, nU, nU, nU, nU, nU, nU, nU, nU, nU, nU] [(.int (0 : Int32)), (.long x2)])) rfl (by rw [hml]; rfl) (argsL := [(.long x2), (.int (0 : Int32))]) (rest := []) (lenOf pd_1 rfl) rfl (by show 2 * 0 + _ ≤ _; exact Nat.le_of_eq rfl) (hb hby d1_2) (fun _ _ => ⟨rfl, e0, (by decide : 0 + 0 ≤ _), (by decide : 0 + 0 ≤ _)⟩)
  dsimp only [Pt.U, Pt.locs, Pt.cells, Pt.slots] at X1 l1 y1 z1 st1 hQ1
  rw [l1, y1, z1] at X1
  obtain ⟨N1, eh1, hR1⟩ := hQ1
  have NA1 := Fr.app N0 N1
  obtain rfl := hR1
  refine G1 st1 ?_
  show Goes _ _ _ _ _ _ _ (T1.setTop (mkF m 5 _ [(.long (own_co x2 (0 : Int32)))]))
  refine G1 (fun _ k => XS.lstore X1.here hx rfl (hb hby d1_5) rfl (l' := #[.val (.ref x0), .val (.int (2 : Int32)), .val (.long x2), nS, .val (.long x3), nS, .val (.long (own_co x2 (0 : Int32))), nS, nU, nU, nU, nU, nU, nU, nU, nU, nU, nU, nU, nU, nU, nU, nU, nU, nU, nU, nU, nU, nU, nU, nU, nU, nU, nU]) rfl k) ?_
  show Goes _ _ _ _ _ _ _ (T1.setTop (mkF m 7 _ []))
  refine G1 (fun _ k => XS.lloadN X1.here hx rfl (hb hby d1_7) rfl  k) ?_
  refine G1 (fun _ k => XS.iconst X1.here hx rfl (hb hby d1_8) k) ?_
  obtain ⟨_, _, ⟨T2, L2, k2, n2⟩, -, X2, ⟨Lc2, hQ2, l2, y2, z2⟩, st2⟩ := Jvm.LawKit.callS X1 hx (y := (⟨"com/example/orbitloom/orbitloom/orbits/TrackAtPinLaw", "co", "(JI)J"⟩ : MethodName)) hown (mvT hZ w_5) (mvT hZ w_6) (mvT hZ w_3) (mvT hZ w_7) (by decide) (backOf (W := 0) (rm2 l Z a0 hw [] x2 (1 : Int32) h0 n0 Z0) hZ w_7 w_3 (by decide) (by decide)) (g := (mkF m 9 #[.val (.ref x0), .val (.int (2 : Int32)), .val (.long x2), nS, .val (.long x3), nS, .val (.long (own_co x2 (0 : Int32))), nS, nU, nU, nU, nU, nU, nU, nU, nU, nU, nU, nU, nU, nU, nU, nU, nU, nU, nU, nU, nU, nU, nU, nU, nU, nU, nU] [(.int (1 : Int32)), (.long x2)])) rfl (by rw [hml]; rfl) (argsL := [(.long x2), (.int (1 : Int32))]) (rest := []) (lenOf pd_1 rfl) rfl (by show 2 * 0 + _ ≤ _; exact Nat.le_of_eq rfl) (hb hby d1_9) (fun _ _ => ⟨rfl, eh1, (by decide : 0 + 0 ≤ _), (by decide : 0 + 0 ≤ _)⟩)
  dsimp only [Pt.U, Pt.locs, Pt.cells, Pt.slots] at X2 l2 y2 z2 st2 hQ2
  rw [l2, y2, z2] at X2
  obtain ⟨N2, eh2, hR2⟩ := hQ2
  have NA2 := Fr.app NA1 N2
  obtain rfl := hR2
  refine G1 st2 ?_
  show Goes _ _ _ _ _ _ _ (T2.setTop (mkF m 12 _ [(.long (own_co x2 (1 : Int32)))]))
  refine G1 (fun _ k => XS.lstore X2.here hx rfl (hb hby d1_12) rfl (l' := #[.val (.ref x0), .val (.int (2 : Int32)), .val (.long x2), nS, .val (.long x3), nS, .val (.long (own_co x2 (0 : Int32))), nS, .val (.long (own_co x2 (1 : Int32))), nS, nU, nU, nU, nU, nU, nU, nU, nU, nU, nU, nU, nU, nU, nU, nU, nU, nU, nU, nU, nU, nU, nU, nU, nU]) rfl k) ?_
  show Goes _ _ _ _ _ _ _ (T2.setTop (mkF m 14 _ []))
  refine G1 (fun _ k => XS.lloadN X2.here hx rfl (hb hby d1_14) rfl  k) ?_
  refine G1 (fun _ k => XS.iconst X2.here hx rfl (hb hby d1_15) k) ?_
  obtain ⟨_, _, ⟨T3, L3, k3, n3⟩, -, X3, ⟨Lc3, hQ3, l3, y3, z3⟩, st3⟩ := Jvm.LawKit.callS X2 hx (y := (⟨"com/example/orbitloom/orbitloom/orbits/TrackAtPinLaw", "co", "(JI)J"⟩ : MethodName)) hown (mvT hZ w_5) (mvT hZ w_6) (mvT hZ w_3) (mvT hZ w_7) (by decide) (backOf (W := 0) (rm2 l Z a0 hw [] x2 (2 : Int32) h0 n0 Z0) hZ w_7 w_3 (by decide) (by decide)) (g := (mkF m 16 #[.val (.ref x0), .val (.int (2 : Int32)), .val (.long x2), nS, .val (.long x3), nS, .val (.long (own_co x2 (0 : Int32))), nS, .val (.long (own_co x2 (1 : Int32))), nS, nU, nU, nU, nU, nU, nU, nU, nU, nU, nU, nU, nU, nU, nU, nU, nU, nU, nU, nU, nU, nU, nU, nU, nU] [(.int (2 : Int32)), (.long x2)])) rfl (by rw [hml]; rfl) (argsL := [(.long x2), (.int (2 : Int32))]) (rest := []) (lenOf pd_1 rfl) rfl (by show 2 * 0 + _ ≤ _; exact Nat.le_of_eq rfl) (hb hby d1_16) (fun _ _ => ⟨rfl, eh2, (by decide : 0 + 0 ≤ _), (by decide : 0 + 0 ≤ _)⟩)
  dsimp only [Pt.U, Pt.locs, Pt.cells, Pt.slots] at X3 l3 y3 z3 st3 hQ3
  rw [l3, y3, z3] at X3
  obtain ⟨N3, eh3, hR3⟩ := hQ3
  have NA3 := Fr.app NA2 N3
  obtain rfl := hR3
  refine G1 st3 ?_
  show Goes _ _ _ _ _ _ _ (T3.setTop (mkF m 19 _ [(.long (own_co x2 (2 : Int32)))]))
  refine G1 (fun _ k => XS.lstore X3.here hx rfl (hb hby d1_19) rfl (l' := #[.val (.ref x0), .val (.int (2 : Int32)), .val (.long x2), nS, .val (.long x3), nS, .val (.long (own_co x2 (0 : Int32))), nS, .val (.long (own_co x2 (1 : Int32))), nS, .val (.long (own_co x2 (2 : Int32))), nS, nU, nU, nU, nU, nU, nU, nU, nU, nU, nU, nU, nU, nU, nU, nU, nU, nU, nU, nU, nU, nU, nU]) rfl k) ?_
  show Goes _ _ _ _ _ _ _ (T3.setTop (mkF m 21 _ []))
  refine G1 (fun _ k => XS.lloadN X3.here hx rfl (hb hby d1_21) rfl  k) ?_
  refine G1 (fun _ k => XS.iconst X3.here hx rfl (hb hby d1_22) k) ?_
  obtain ⟨_, _, ⟨T4, L4, k4, n4⟩, -, X4, ⟨Lc4, hQ4, l4, y4, z4⟩, st4⟩ := Jvm.LawKit.callS X3 hx (y := (⟨"com/example/orbitloom/orbitloom/orbits/TrackAtPinLaw", "co", "(JI)J"⟩ : MethodName)) hown (mvT hZ w_5) (mvT hZ w_6) (mvT hZ w_3) (mvT hZ w_7) (by decide) (backOf (W := 0) (rm2 l Z a0 hw [] x2 (3 : Int32) h0 n0 Z0) hZ w_7 w_3 (by decide) (by decide)) (g := (mkF m 23 #[.val (.ref x0), .val (.int (2 : Int32)), .val (.long x2), nS, .val (.long x3), nS, .val (.long (own_co x2 (0 : Int32))), nS, .val (.long (own_co x2 (1 : Int32))), nS, .val (.long (own_co x2 (2 : Int32))), nS, nU, nU, nU, nU, nU, nU, nU, nU, nU, nU, nU, nU, nU, nU, nU, nU, nU, nU, nU, nU, nU, nU] [(.int (3 : Int32)), (.long x2)])) rfl (by rw [hml]; rfl) (argsL := [(.long x2), (.int (3 : Int32))]) (rest := []) (lenOf pd_1 rfl) rfl (by show 2 * 0 + _ ≤ _; exact Nat.le_of_eq rfl) (hb hby d1_23) (fun _ _ => ⟨rfl, eh3, (by decide : 0 + 0 ≤ _), (by decide : 0 + 0 ≤ _)⟩)
  dsimp only [Pt.U, Pt.locs, Pt.cells, Pt.slots] at X4 l4 y4 z4 st4 hQ4
  rw [l4, y4, z4] at X4
  obtain ⟨N4, eh4, hR4⟩ := hQ4
  have NA4 := Fr.app NA3 N4
  obtain rfl := hR4
  refine G1 st4 ?_
  show Goes _ _ _ _ _ _ _ (T4.setTop (mkF m 26 #[.val (.ref x0), .val (.int (2 : Int32)), .val (.long x2), nS, .val (.long x3), nS, .val (.long (own_co x2 (0 : Int32))), nS, .val (.long (own_co x2 (1 : Int32))), nS, .val (.long (own_co x2 (2 : Int32))), nS, nU, nU, nU, nU, nU, nU, nU, nU, nU, nU, nU, nU, nU, nU, nU, nU, nU, nU, nU, nU, nU, nU] [(.long (own_co x2 (3 : Int32)))]))
  refine G1 (fun _ k => XS.lstore X4.here hx rfl (hb hby d1_26) rfl (l' := #[.val (.ref x0), .val (.int (2 : Int32)), .val (.long x2), nS, .val (.long x3), nS, .val (.long (own_co x2 (0 : Int32))), nS, .val (.long (own_co x2 (1 : Int32))), nS, .val (.long (own_co x2 (2 : Int32))), nS, .val (.long (own_co x2 (3 : Int32))), nS, nU, nU, nU, nU, nU, nU, nU, nU, nU, nU, nU, nU, nU, nU, nU, nU, nU, nU, nU, nU]) rfl k) ?_
  show Goes _ _ _ _ _ _ _ (T4.setTop (mkF m 28 _ []))
  refine G1 (fun _ k => XS.lloadN X4.here hx rfl (hb hby d1_28) rfl  k) ?_
  refine G1 (fun _ k => XS.iconst X4.here hx rfl (hb hby d1_29) k) ?_
  obtain ⟨_, _, ⟨T5, L5, k5, n5⟩, -, X5, ⟨Lc5, hQ5, l5, y5, z5⟩, st5⟩ := Jvm.LawKit.callS X4 hx (y := (⟨"com/example/orbitloom/orbitloom/orbits/TrackAtPinLaw", "co", "(JI)J"⟩ : MethodName)) hown (mvT hZ w_5) (mvT hZ w_6) (mvT hZ w_3) (mvT hZ w_7) (by decide) (backOf (W := 0) (rm2 l Z a0 hw [] x2 (4 : Int32) h0 n0 Z0) hZ w_7 w_3 (by decide) (by decide)) (g := (mkF m 30 #[.val (.ref x0), .val (.int (2 : Int32)), .val (.long x2), nS, .val (.long x3), nS, .val (.long (own_co x2 (0 : Int32))), nS, .val (.long (own_co x2 (1 : Int32))), nS, .val (.long (own_co x2 (2 : Int32))), nS, .val (.long (own_co x2 (3 : Int32))), nS, nU, nU, nU, nU, nU, nU, nU, nU, nU, nU, nU, nU, nU, nU, nU, nU, nU, nU, nU, nU] [(.int (4 : Int32)), (.long x2)])) rfl (by rw [hml]; rfl) (argsL := [(.long x2), (.int (4 : Int32))]) (rest := []) (lenOf pd_1 rfl) rfl (by show 2 * 0 + _ ≤ _; exact Nat.le_of_eq rfl) (hb hby d1_30) (fun _ _ => ⟨rfl, eh4, (by decide : 0 + 0 ≤ _), (by decide : 0 + 0 ≤ _)⟩)
  dsimp only [Pt.U, Pt.locs, Pt.cells, Pt.slots] at X5 l5 y5 z5 st5 hQ5
  rw [l5, y5, z5] at X5
  obtain ⟨N5, eh5, hR5⟩ := hQ5
  have NA5 := Fr.app NA4 N5
  obtain rfl := hR5
  refine G1 st5 ?_
  show Goes _ _ _ _ _ _ _ (T5.setTop (mkF m 33 _ [(.long (own_co x2 (4 : Int32)))]))
  refine G1 (fun _ k => XS.lstore X5.here hx rfl (hb hby d1_33) rfl (l' := #[.val (.ref x0), .val (.int (2 : Int32)), .val (.long x2), nS, .val (.long x3), nS, .val (.long (own_co x2 (0 : Int32))), nS, .val (.long (own_co x2 (1 : Int32))), nS, .val (.long (own_co x2 (2 : Int32))), nS, .val (.long (own_co x2 (3 : Int32))), nS, .val (.long (own_co x2 (4 : Int32))), nS, nU, nU, nU, nU, nU, nU, nU, nU, nU, nU, nU, nU, nU, nU, nU, nU, nU, nU]) rfl k) ?_
  show Goes _ _ _ _ _ _ _ (T5.setTop (mkF m 35 _ []))
  refine G1 (fun _ k => XS.lloadN X5.here hx rfl (hb hby d1_35) rfl  k) ?_
  refine G1 (fun _ k => XS.iconst X5.here hx rfl (hb hby d1_36) k) ?_
  obtain ⟨_, _, ⟨T6, L6, k6, n6⟩, -, X6, ⟨Lc6, hQ6, l6, y6, z6⟩, st6⟩ := Jvm.LawKit.callS X5 hx (y := (⟨"com/example/orbitloom/orbitloom/orbits/TrackAtPinLaw", "co", "(JI)J"⟩ : MethodName)) hown (mvT hZ w_5) (mvT hZ w_6) (mvT hZ w_3) (mvT hZ w_7) (by decide) (backOf (W := 0) (rm2 l Z a0 hw [] x2 (5 : Int32) h0 n0 Z0) hZ w_7 w_3 (by decide) (by decide)) (g := (mkF m 37 #[.val (.ref x0), .val (.int (2 : Int32)), .val (.long x2), nS, .val (.long x3), nS, .val (.long (own_co x2 (0 : Int32))), nS, .val (.long (own_co x2 (1 : Int32))), nS, .val (.long (own_co x2 (2 : Int32))), nS, .val (.long (own_co x2 (3 : Int32))), nS, .val (.long (own_co x2 (4 : Int32))), nS, nU, nU, nU, nU, nU, nU, nU, nU, nU, nU, nU, nU, nU, nU, nU, nU, nU, nU] [(.int (5 : Int32)), (.long x2)])) rfl (by rw [hml]; rfl) (argsL := [(.long x2), (.int (5 : Int32))]) (rest := []) (lenOf pd_1 rfl) rfl (by show 2 * 0 + _ ≤ _; exact Nat.le_of_eq rfl) (hb hby d1_37) (fun _ _ => ⟨rfl, eh5, (by decide : 0 + 0 ≤ _), (by decide : 0 + 0 ≤ _)⟩)
  dsimp only [Pt.U, Pt.locs, Pt.cells, Pt.slots] at X6 l6 y6 z6 st6 hQ6
  rw [l6, y6, z6] at X6
  obtain ⟨N6, eh6, hR6⟩ := hQ6
  have NA6 := Fr.app NA5 N6
  obtain rfl := hR6
  refine G1 st6 ?_
  show Goes _ _ _ _ _ _ _ (T6.setTop (mkF m 40 _ [(.long (own_co x2 (5 : Int32)))]))
  refine G1 (fun _ k => XS.lstore X6.here hx rfl (hb hby d1_40) rfl (l' := #[.val (.ref x0), .val (.int (2 : Int32)), .val (.long x2), nS, .val (.long x3), nS, .val (.long (own_co x2 (0 : Int32))), nS, .val (.long (own_co x2 (1 : Int32))), nS, .val (.long (own_co x2 (2 : Int32))), nS, .val (.long (own_co x2 (3 : Int32))), nS, .val (.long (own_co x2 (4 : Int32))), nS, .val (.long (own_co x2 (5 : Int32))), nS, nU, nU, nU, nU, nU, nU, nU, nU, nU, nU, nU, nU, nU, nU, nU, nU]) rfl k) ?_
  show Goes _ _ _ _ _ _ _ (T6.setTop (mkF m 42 _ []))
  refine G1 (fun _ k => XS.lload X6.here hx rfl (hb hby d1_42) rfl  k) ?_
  refine G1 (fun _ k => XS.lstore X6.here hx rfl (hb hby d1_44) rfl (l' := #[.val (.ref x0), .val (.int (2 : Int32)), .val (.long x2), nS, .val (.long x3), nS, .val (.long (own_co x2 (0 : Int32))), nS, .val (.long (own_co x2 (1 : Int32))), nS, .val (.long (own_co x2 (2 : Int32))), nS, .val (.long (own_co x2 (3 : Int32))), nS, .val (.long (own_co x2 (4 : Int32))), nS, .val (.long (own_co x2 (5 : Int32))), nS, .val (.long (own_co x2 (0 : Int32))), nS, nU, nU, nU, nU, nU, nU, nU, nU, nU, nU, nU, nU, nU, nU]) rfl k) ?_
  show Goes _ _ _ _ _ _ _ (T6.setTop (mkF m 46 _ []))
  refine G1 (fun _ k => XS.lload X6.here hx rfl (hb hby d1_46) rfl  k) ?_
  refine G1 (fun _ k => XS.lstore X6.here hx rfl (hb hby d1_48) rfl (l' := #[.val (.ref x0), .val (.int (2 : Int32)), .val (.long x2), nS, .val (.long x3), nS, .val (.long (own_co x2 (0 : Int32))), nS, .val (.long (own_co x2 (1 : Int32))), nS, .val (.long (own_co x2 (2 : Int32))), nS, .val (.long (own_co x2 (3 : Int32))), nS, .val (.long (own_co x2 (4 : Int32))), nS, .val (.long (own_co x2 (5 : Int32))), nS, .val (.long (own_co x2 (0 : Int32))), nS, .val (.long (own_co x2 (1 : Int32))), nS, nU, nU, nU, nU, nU, nU, nU, nU, nU, nU, nU, nU]) rfl k) ?_
  show Goes _ _ _ _ _ _ _ (T6.setTop (mkF m 50 #[.val (.ref x0), .val (.int (2 : Int32)), .val (.long x2), nS, .val (.long x3), nS, .val (.long (own_co x2 (0 : Int32))), nS, .val (.long (own_co x2 (1 : Int32))), nS, .val (.long (own_co x2 (2 : Int32))), nS, .val (.long (own_co x2 (3 : Int32))), nS, .val (.long (own_co x2 (4 : Int32))), nS, .val (.long (own_co x2 (5 : Int32))), nS, .val (.long (own_co x2 (0 : Int32))), nS, .val (.long (own_co x2 (1 : Int32))), nS, nU, nU, nU, nU, nU, nU, nU, nU, nU, nU, nU, nU] []))
  refine G1 (fun _ k => XS.lload X6.here hx rfl (hb hby d1_50) rfl  k) ?_
  refine G1 (fun _ k => XS.lload X6.here hx rfl (hb hby d1_52) rfl  k) ?_
  refine G1 (fun _ k => XS.lload X6.here hx rfl (hb hby d1_54) rfl  k) ?_
  refine G1 (fun _ k => XS.lmul X6.here hx rfl (hb hby d1_56) rfl k) ?_
  show Goes _ _ _ _ _ _ _ (T6.setTop (mkF m 57 _ [(.long ((own_co x2 (1 : Int32)) * x3)), (.long (own_co x2 (0 : Int32)))]))
  refine G1 (fun _ k => XS.ladd X6.here hx rfl (hb hby d1_57) rfl k) ?_
  show Goes _ _ _ _ _ _ _ (T6.setTop (mkF m 58 _ [(.long ((own_co x2 (0 : Int32)) + ((own_co x2 (1 : Int32)) * x3)))]))
  refine G1 (fun _ k => XS.lload X6.here hx rfl (hb hby d1_58) rfl  k) ?_
  refine G1 (fun _ k => XS.lload X6.here hx rfl (hb hby d1_60) rfl  k) ?_
  refine G1 (fun _ k => XS.lmul X6.here hx rfl (hb hby d1_62) rfl k) ?_
  show Goes _ _ _ _ _ _ _ (T6.setTop (mkF m 63 _ [(.long ((own_co x2 (2 : Int32)) * x3)), (.long ((own_co x2 (0 : Int32)) + ((own_co x2 (1 : Int32)) * x3)))]))
  refine G1 (fun _ k => XS.lload X6.here hx rfl (hb hby d1_63) rfl  k) ?_
  refine G1 (fun _ k => XS.lmul X6.here hx rfl (hb hby d1_65) rfl k) ?_
  show Goes _ _ _ _ _ _ _ (T6.setTop (mkF m 66 _ [(.long (((own_co x2 (2 : Int32)) * x3) * x3)), (.long ((own_co x2 (0 : Int32)) + ((own_co x2 (1 : Int32)) * x3)))]))
  refine G1 (fun _ k => XS.ladd X6.here hx rfl (hb hby d1_66) rfl k) ?_
  show Goes _ _ _ _ _ _ _ (T6.setTop (mkF m 67 _ [(.long (((own_co x2 (0 : Int32)) + ((own_co x2 (1 : Int32)) * x3)) + (((own_co x2 (2 : Int32)) * x3) * x3)))]))
  refine G1 (fun _ k => XS.lload X6.here hx rfl (hb hby d1_67) rfl  k) ?_
  refine G1 (fun _ k => XS.lload X6.here hx rfl (hb hby d1_69) rfl  k) ?_
  refine G1 (fun _ k => XS.lmul X6.here hx rfl (hb hby d1_71) rfl k) ?_
  show Goes _ _ _ _ _ _ _ (T6.setTop (mkF m 72 _ [(.long ((own_co x2 (3 : Int32)) * x3)), (.long (((own_co x2 (0 : Int32)) + ((own_co x2 (1 : Int32)) * x3)) + (((own_co x2 (2 : Int32)) * x3) * x3)))]))
  refine G1 (fun _ k => XS.lload X6.here hx rfl (hb hby d1_72) rfl  k) ?_
  refine G1 (fun _ k => XS.lmul X6.here hx rfl (hb hby d1_74) rfl k) ?_
  show Goes _ _ _ _ _ _ _ (T6.setTop (mkF m 75 #[.val (.ref x0), .val (.int (2 : Int32)), .val (.long x2), nS, .val (.long x3), nS, .val (.long (own_co x2 (0 : Int32))), nS, .val (.long (own_co x2 (1 : Int32))), nS, .val (.long (own_co x2 (2 : Int32))), nS, .val (.long (own_co x2 (3 : Int32))), nS, .val (.long (own_co x2 (4 : Int32))), nS, .val (.long (own_co x2 (5 : Int32))), nS, .val (.long (own_co x2 (0 : Int32))), nS, .val (.long (own_co x2 (1 : Int32))), nS, nU, nU, nU, nU, nU, nU, nU, nU, nU, nU, nU, nU] [(.long (((own_co x2 (3 : Int32)) * x3) * x3)), (.long (((own_co x2 (0 : Int32)) + ((own_co x2 (1 : Int32)) * x3)) + (((own_co x2 (2 : Int32)) * x3) * x3)))]))
  refine G1 (fun _ k => XS.lload X6.here hx rfl (hb hby d1_75) rfl  k) ?_
  refine G1 (fun _ k => XS.lmul X6.here hx rfl (hb hby d1_77) rfl k) ?_
  show Goes _ _ _ _ _ _ _ (T6.setTop (mkF m 78 _ [(.long ((((own_co x2 (3 : Int32)) * x3) * x3) * x3)), (.long (((own_co x2 (0 : Int32)) + ((own_co x2 (1 : Int32)) * x3)) + (((own_co x2 (2 : Int32)) * x3) * x3)))]))
  refine G1 (fun _ k => XS.ladd X6.here hx rfl (hb hby d1_78) rfl k) ?_
  show Goes _ _ _ _ _ _ _ (T6.setTop (mkF m 79 _ [(.long ((((own_co x2 (0 : Int32)) + ((own_co x2 (1 : Int32)) * x3)) + (((own_co x2 (2 : Int32)) * x3) * x3)) + ((((own_co x2 (3 : Int32)) * x3) * x3) * x3)))]))
  refine G1 (fun _ k => XS.lstore X6.here hx rfl (hb hby d1_79) rfl (l' := #[.val (.ref x0), .val (.int (2 : Int32)), .val (.long x2), nS, .val (.long x3), nS, .val (.long (own_co x2 (0 : Int32))), nS, .val (.long (own_co x2 (1 : Int32))), nS, .val (.long (own_co x2 (2 : Int32))), nS, .val (.long (own_co x2 (3 : Int32))), nS, .val (.long (own_co x2 (4 : Int32))), nS, .val (.long (own_co x2 (5 : Int32))), nS, .val (.long (own_co x2 (0 : Int32))), nS, .val (.long (own_co x2 (1 : Int32))), nS, .val (.long ((((own_co x2 (0 : Int32)) + ((own_co x2 (1 : Int32)) * x3)) + (((own_co x2 (2 : Int32)) * x3) * x3)) + ((((own_co x2 (3 : Int32)) * x3) * x3) * x3))), nS, nU, nU, nU, nU, nU, nU, nU, nU, nU, nU]) rfl k) ?_
  show Goes _ _ _ _ _ _ _ (T6.setTop (mkF m 81 _ []))
  show Goes _ _ _ _ _ _ _ (T6.setTop (mkF m 81 #[.val (.ref x0), .val (.int (2 : Int32)), .val (.long x2), nS, .val (.long x3), nS, .val (.long (own_co x2 (0 : Int32))), nS, .val (.long (own_co x2 (1 : Int32))), nS, .val (.long (own_co x2 (2 : Int32))), nS, .val (.long (own_co x2 (3 : Int32))), nS, .val (.long (own_co x2 (4 : Int32))), nS, .val (.long (own_co x2 (5 : Int32))), nS, .val (.long (own_co x2 (0 : Int32))), nS, .val (.long (own_co x2 (1 : Int32))), nS, .val (.long ((((own_co x2 (0 : Int32)) + ((own_co x2 (1 : Int32)) * x3)) + (((own_co x2 (2 : Int32)) * x3) * x3)) + ((((own_co x2 (3 : Int32)) * x3) * x3) * x3))), nS, nU, nU, nU, nU, nU, nU, nU, nU, nU, nU] []))
  generalize hg_lv7 : ((((own_co x2 (0 : Int32)) + ((own_co x2 (1 : Int32)) * x3)) + (((own_co x2 (2 : Int32)) * x3) * x3)) + ((((own_co x2 (3 : Int32)) * x3) * x3) * x3)) = lv7
  show Goes _ _ _ _ _ _ _ (T6.setTop (mkF m 81 #[.val (.ref x0), .val (.int (2 : Int32)), .val (.long x2), nS, .val (.long x3), nS, .val (.long (own_co x2 (0 : Int32))), nS, .val (.long (own_co x2 (1 : Int32))), nS, .val (.long (own_co x2 (2 : Int32))), nS, .val (.long (own_co x2 (3 : Int32))), nS, .val (.long (own_co x2 (4 : Int32))), nS, .val (.long (own_co x2 (5 : Int32))), nS, .val (.long (own_co x2 (0 : Int32))), nS, .val (.long (own_co x2 (1 : Int32))), nS, .val (.long lv7), nS, nU, nU, nU, nU, nU, nU, nU, nU, nU, nU] []))
  have Llv7 : own_L lv7 ((((own_co x2 (0 : Int32)).toInt + ((own_co x2 (1 : Int32)).toInt * x3.toInt)) + (((own_co x2 (2 : Int32)).toInt * x3.toInt) * x3.toInt)) + ((((own_co x2 (3 : Int32)).toInt * x3.toInt) * x3.toInt) * x3.toInt)) 2236928 := hg_lv7 ▸ (own_L.add (own_L.add (own_L.add (own_coL x2 (0 : Int32)) (own_L.mul (own_coL x2 (1 : Int32)) hs (by decide)) (by decide)) (own_L.mul (own_L.mul (own_coL x2 (2 : Int32)) hs (by decide)) hs (by decide)) (by decide)) (own_L.mul (own_L.mul (own_L.mul (own_coL x2 (3 : Int32)) hs (by decide)) hs (by decide)) hs (by decide)) (by decide))
  refine G1 (fun _ k => XS.lload X6.here hx rfl (hb hby d1_81) rfl  k) ?_
  refine G1 (fun _ k => X6.ldc2Long hx hown (mvT hZ w_8) (g := (mkF m 83 #[.val (.ref x0), .val (.int (2 : Int32)), .val (.long x2), nS, .val (.long x3), nS, .val (.long (own_co x2 (0 : Int32))), nS, .val (.long (own_co x2 (1 : Int32))), nS, .val (.long (own_co x2 (2 : Int32))), nS, .val (.long (own_co x2 (3 : Int32))), nS, .val (.long (own_co x2 (4 : Int32))), nS, .val (.long (own_co x2 (5 : Int32))), nS, .val (.long (own_co x2 (0 : Int32))), nS, .val (.long (own_co x2 (1 : Int32))), nS, .val (.long lv7), nS, nU, nU, nU, nU, nU, nU, nU, nU, nU, nU] [(.long (own_co x2 (1 : Int32)))])) rfl (hb hby d1_83) _ k) ?_
  refine G1 (fun _ k => XS.lload X6.here hx rfl (hb hby d1_86) rfl  k) ?_
  refine G1 (fun _ k => XS.lmul X6.here hx rfl (hb hby d1_88) rfl k) ?_
  show Goes _ _ _ _ _ _ _ (T6.setTop (mkF m 89 _ [(.long ((2 : Int64) * (own_co x2 (2 : Int32)))), (.long (own_co x2 (1 : Int32)))]))
  refine G1 (fun _ k => XS.lload X6.here hx rfl (hb hby d1_89) rfl  k) ?_
  refine G1 (fun _ k => XS.lmul X6.here hx rfl (hb hby d1_91) rfl k) ?_
  show Goes _ _ _ _ _ _ _ (T6.setTop (mkF m 92 _ [(.long (((2 : Int64) * (own_co x2 (2 : Int32))) * x3)), (.long (own_co x2 (1 : Int32)))]))
  refine G1 (fun _ k => XS.ladd X6.here hx rfl (hb hby d1_92) rfl k) ?_
  show Goes _ _ _ _ _ _ _ (T6.setTop (mkF m 93 _ [(.long ((own_co x2 (1 : Int32)) + (((2 : Int64) * (own_co x2 (2 : Int32))) * x3)))]))
  refine G1 (fun _ k => X6.ldc2Long hx hown (mvT hZ w_9) (g := (mkF m 93 #[.val (.ref x0), .val (.int (2 : Int32)), .val (.long x2), nS, .val (.long x3), nS, .val (.long (own_co x2 (0 : Int32))), nS, .val (.long (own_co x2 (1 : Int32))), nS, .val (.long (own_co x2 (2 : Int32))), nS, .val (.long (own_co x2 (3 : Int32))), nS, .val (.long (own_co x2 (4 : Int32))), nS, .val (.long (own_co x2 (5 : Int32))), nS, .val (.long (own_co x2 (0 : Int32))), nS, .val (.long (own_co x2 (1 : Int32))), nS, .val (.long lv7), nS, nU, nU, nU, nU, nU, nU, nU, nU, nU, nU] [(.long ((own_co x2 (1 : Int32)) + (((2 : Int64) * (own_co x2 (2 : Int32))) * x3)))])) rfl (hb hby d1_93) _ k) ?_
  refine G1 (fun _ k => XS.lload X6.here hx rfl (hb hby d1_96) rfl  k) ?_
  refine G1 (fun _ k => XS.lmul X6.here hx rfl (hb hby d1_98) rfl k) ?_
  show Goes _ _ _ _ _ _ _ (T6.setTop (mkF m 99 _ [(.long ((3 : Int64) * (own_co x2 (3 : Int32)))), (.long ((own_co x2 (1 : Int32)) + (((2 : Int64) * (own_co x2 (2 : Int32))) * x3)))]))
  refine G1 (fun _ k => XS.lload X6.here hx rfl (hb hby d1_99) rfl  k) ?_
  refine G1 (fun _ k => XS.lmul X6.here hx rfl (hb hby d1_101) rfl k) ?_
  show Goes _ _ _ _ _ _ _ (T6.setTop (mkF m 102 _ [(.long (((3 : Int64) * (own_co x2 (3 : Int32))) * x3)), (.long ((own_co x2 (1 : Int32)) + (((2 : Int64) * (own_co x2 (2 : Int32))) * x3)))]))
  refine G1 (fun _ k => XS.lload X6.here hx rfl (hb hby d1_102) rfl  k) ?_
  refine G1 (fun _ k => XS.lmul X6.here hx rfl (hb hby d1_104) rfl k) ?_
  show Goes _ _ _ _ _ _ _ (T6.setTop (mkF m 105 _ [(.long ((((3 : Int64) * (own_co x2 (3 : Int32))) * x3) * x3)), (.long ((own_co x2 (1 : Int32)) + (((2 : Int64) * (own_co x2 (2 : Int32))) * x3)))]))
  refine G1 (fun _ k => XS.ladd X6.here hx rfl (hb hby d1_105) rfl k) ?_
  show Goes _ _ _ _ _ _ _ (T6.setTop (mkF m 106 #[.val (.ref x0), .val (.int (2 : Int32)), .val (.long x2), nS, .val (.long x3), nS, .val (.long (own_co x2 (0 : Int32))), nS, .val (.long (own_co x2 (1 : Int32))), nS, .val (.long (own_co x2 (2 : Int32))), nS, .val (.long (own_co x2 (3 : Int32))), nS, .val (.long (own_co x2 (4 : Int32))), nS, .val (.long (own_co x2 (5 : Int32))), nS, .val (.long (own_co x2 (0 : Int32))), nS, .val (.long (own_co x2 (1 : Int32))), nS, .val (.long lv7), nS, nU, nU, nU, nU, nU, nU, nU, nU, nU, nU] [(.long (((own_co x2 (1 : Int32)) + (((2 : Int64) * (own_co x2 (2 : Int32))) * x3)) + ((((3 : Int64) * (own_co x2 (3 : Int32))) * x3) * x3)))]))
  refine G1 (fun _ k => XS.lstore X6.here hx rfl (hb hby d1_106) rfl (l' := #[.val (.ref x0), .val (.int (2 : Int32)), .val (.long x2), nS, .val (.long x3), nS, .val (.long (own_co x2 (0 : Int32))), nS, .val (.long (own_co x2 (1 : Int32))), nS, .val (.long (own_co x2 (2 : Int32))), nS, .val (.long (own_co x2 (3 : Int32))), nS, .val (.long (own_co x2 (4 : Int32))), nS, .val (.long (own_co x2 (5 : Int32))), nS, .val (.long (own_co x2 (0 : Int32))), nS, .val (.long (own_co x2 (1 : Int32))), nS, .val (.long lv7), nS, .val (.long (((own_co x2 (1 : Int32)) + (((2 : Int64) * (own_co x2 (2 : Int32))) * x3)) + ((((3 : Int64) * (own_co x2 (3 : Int32))) * x3) * x3))), nS, nU, nU, nU, nU, nU, nU, nU, nU]) rfl k) ?_
  show Goes _ _ _ _ _ _ _ (T6.setTop (mkF m 108 _ []))
  show Goes _ _ _ _ _ _ _ (T6.setTop (mkF m 108 #[.val (.ref x0), .val (.int (2 : Int32)), .val (.long x2), nS, .val (.long x3), nS, .val (.long (own_co x2 (0 : Int32))), nS, .val (.long (own_co x2 (1 : Int32))), nS, .val (.long (own_co x2 (2 : Int32))), nS, .val (.long (own_co x2 (3 : Int32))), nS, .val (.long (own_co x2 (4 : Int32))), nS, .val (.long (own_co x2 (5 : Int32))), nS, .val (.long (own_co x2 (0 : Int32))), nS, .val (.long (own_co x2 (1 : Int32))), nS, .val (.long lv7), nS, .val (.long (((own_co x2 (1 : Int32)) + (((2 : Int64) * (own_co x2 (2 : Int32))) * x3)) + ((((3 : Int64) * (own_co x2 (3 : Int32))) * x3) * x3))), nS, nU, nU, nU, nU, nU, nU, nU, nU] []))
  generalize hg_lv8 : (((own_co x2 (1 : Int32)) + (((2 : Int64) * (own_co x2 (2 : Int32))) * x3)) + ((((3 : Int64) * (own_co x2 (3 : Int32))) * x3) * x3)) = lv8
  show Goes _ _ _ _ _ _ _ (T6.setTop (mkF m 108 #[.val (.ref x0), .val (.int (2 : Int32)), .val (.long x2), nS, .val (.long x3), nS, .val (.long (own_co x2 (0 : Int32))), nS, .val (.long (own_co x2 (1 : Int32))), nS, .val (.long (own_co x2 (2 : Int32))), nS, .val (.long (own_co x2 (3 : Int32))), nS, .val (.long (own_co x2 (4 : Int32))), nS, .val (.long (own_co x2 (5 : Int32))), nS, .val (.long (own_co x2 (0 : Int32))), nS, .val (.long (own_co x2 (1 : Int32))), nS, .val (.long lv7), nS, .val (.long lv8), nS, nU, nU, nU, nU, nU, nU, nU, nU] []))
  have Llv8 : own_L lv8 (((own_co x2 (1 : Int32)).toInt + (((2 : Int) * (own_co x2 (2 : Int32)).toInt) * x3.toInt)) + ((((3 : Int) * (own_co x2 (3 : Int32)).toInt) * x3.toInt) * x3.toInt)) 410112 := hg_lv8 ▸ (own_L.add (own_L.add (own_coL x2 (1 : Int32)) (own_L.mul (own_L.mul (⟨by decide, by decide⟩ : own_L (2 : Int64) 2 2) (own_coL x2 (2 : Int32)) (by decide)) hs (by decide)) (by decide)) (own_L.mul (own_L.mul (own_L.mul (⟨by decide, by decide⟩ : own_L (3 : Int64) 3 3) (own_coL x2 (3 : Int32)) (by decide)) hs (by decide)) hs (by decide)) (by decide))
  refine G1 (fun _ k => XS.lload X6.here hx rfl (hb hby d1_108) rfl  k) ?_
  refine G1 (fun _ k => X6.ldc2Long hx hown (mvT hZ w_8) (g := (mkF m 110 #[.val (.ref x0), .val (.int (2 : Int32)), .val (.long x2), nS, .val (.long x3), nS, .val (.long (own_co x2 (0 : Int32))), nS, .val (.long (own_co x2 (1 : Int32))), nS, .val (.long (own_co x2 (2 : Int32))), nS, .val (.long (own_co x2 (3 : Int32))), nS, .val (.long (own_co x2 (4 : Int32))), nS, .val (.long (own_co x2 (5 : Int32))), nS, .val (.long (own_co x2 (0 : Int32))), nS, .val (.long (own_co x2 (1 : Int32))), nS, .val (.long lv7), nS, .val (.long lv8), nS, nU, nU, nU, nU, nU, nU, nU, nU] [(.long (own_co x2 (0 : Int32)))])) rfl (hb hby d1_110) _ k) ?_
  refine G1 (fun _ k => XS.lload X6.here hx rfl (hb hby d1_113) rfl  k) ?_
  refine G1 (fun _ k => XS.lmul X6.here hx rfl (hb hby d1_115) rfl k) ?_
  show Goes _ _ _ _ _ _ _ (T6.setTop (mkF m 116 _ [(.long ((2 : Int64) * (own_co x2 (1 : Int32)))), (.long (own_co x2 (0 : Int32)))]))
  refine G1 (fun _ k => XS.lload X6.here hx rfl (hb hby d1_116) rfl  k) ?_
  refine G1 (fun _ k => XS.lmul X6.here hx rfl (hb hby d1_118) rfl k) ?_
  show Goes _ _ _ _ _ _ _ (T6.setTop (mkF m 119 _ [(.long (((2 : Int64) * (own_co x2 (1 : Int32))) * x3)), (.long (own_co x2 (0 : Int32)))]))
  refine G1 (fun _ k => XS.ladd X6.here hx rfl (hb hby d1_119) rfl k) ?_
  show Goes _ _ _ _ _ _ _ (T6.setTop (mkF m 120 _ [(.long ((own_co x2 (0 : Int32)) + (((2 : Int64) * (own_co x2 (1 : Int32))) * x3)))]))
  refine G1 (fun _ k => X6.ldc2Long hx hown (mvT hZ w_10) (g := (mkF m 120 #[.val (.ref x0), .val (.int (2 : Int32)), .val (.long x2), nS, .val (.long x3), nS, .val (.long (own_co x2 (0 : Int32))), nS, .val (.long (own_co x2 (1 : Int32))), nS, .val (.long (own_co x2 (2 : Int32))), nS, .val (.long (own_co x2 (3 : Int32))), nS, .val (.long (own_co x2 (4 : Int32))), nS, .val (.long (own_co x2 (5 : Int32))), nS, .val (.long (own_co x2 (0 : Int32))), nS, .val (.long (own_co x2 (1 : Int32))), nS, .val (.long lv7), nS, .val (.long lv8), nS, nU, nU, nU, nU, nU, nU, nU, nU] [(.long ((own_co x2 (0 : Int32)) + (((2 : Int64) * (own_co x2 (1 : Int32))) * x3)))])) rfl (hb hby d1_120) _ k) ?_
  refine G1 (fun _ k => XS.lload X6.here hx rfl (hb hby d1_123) rfl  k) ?_
  refine G1 (fun _ k => XS.lmul X6.here hx rfl (hb hby d1_125) rfl k) ?_
  show Goes _ _ _ _ _ _ _ (T6.setTop (mkF m 126 _ [(.long ((4 : Int64) * (own_co x2 (2 : Int32)))), (.long ((own_co x2 (0 : Int32)) + (((2 : Int64) * (own_co x2 (1 : Int32))) * x3)))]))
  refine G1 (fun _ k => XS.lload X6.here hx rfl (hb hby d1_126) rfl  k) ?_
  refine G1 (fun _ k => XS.lmul X6.here hx rfl (hb hby d1_128) rfl k) ?_
  show Goes _ _ _ _ _ _ _ (T6.setTop (mkF m 129 _ [(.long (((4 : Int64) * (own_co x2 (2 : Int32))) * x3)), (.long ((own_co x2 (0 : Int32)) + (((2 : Int64) * (own_co x2 (1 : Int32))) * x3)))]))
  refine G1 (fun _ k => XS.lload X6.here hx rfl (hb hby d1_129) rfl  k) ?_
  refine G1 (fun _ k => XS.lmul X6.here hx rfl (hb hby d1_131) rfl k) ?_
  show Goes _ _ _ _ _ _ _ (T6.setTop (mkF m 132 _ [(.long ((((4 : Int64) * (own_co x2 (2 : Int32))) * x3) * x3)), (.long ((own_co x2 (0 : Int32)) + (((2 : Int64) * (own_co x2 (1 : Int32))) * x3)))]))
  refine G1 (fun _ k => XS.ladd X6.here hx rfl (hb hby d1_132) rfl k) ?_
  show Goes _ _ _ _ _ _ _ (T6.setTop (mkF m 133 #[.val (.ref x0), .val (.int (2 : Int32)), .val (.long x2), nS, .val (.long x3), nS, .val (.long (own_co x2 (0 : Int32))), nS, .val (.long (own_co x2 (1 : Int32))), nS, .val (.long (own_co x2 (2 : Int32))), nS, .val (.long (own_co x2 (3 : Int32))), nS, .val (.long (own_co x2 (4 : Int32))), nS, .val (.long (own_co x2 (5 : Int32))), nS, .val (.long (own_co x2 (0 : Int32))), nS, .val (.long (own_co x2 (1 : Int32))), nS, .val (.long lv7), nS, .val (.long lv8), nS, nU, nU, nU, nU, nU, nU, nU, nU] [(.long (((own_co x2 (0 : Int32)) + (((2 : Int64) * (own_co x2 (1 : Int32))) * x3)) + ((((4 : Int64) * (own_co x2 (2 : Int32))) * x3) * x3)))]))
  refine G1 (fun _ k => X6.ldc2Long hx hown (mvT hZ w_11) (g := (mkF m 133 #[.val (.ref x0), .val (.int (2 : Int32)), .val (.long x2), nS, .val (.long x3), nS, .val (.long (own_co x2 (0 : Int32))), nS, .val (.long (own_co x2 (1 : Int32))), nS, .val (.long (own_co x2 (2 : Int32))), nS, .val (.long (own_co x2 (3 : Int32))), nS, .val (.long (own_co x2 (4 : Int32))), nS, .val (.long (own_co x2 (5 : Int32))), nS, .val (.long (own_co x2 (0 : Int32))), nS, .val (.long (own_co x2 (1 : Int32))), nS, .val (.long lv7), nS, .val (.long lv8), nS, nU, nU, nU, nU, nU, nU, nU, nU] [(.long (((own_co x2 (0 : Int32)) + (((2 : Int64) * (own_co x2 (1 : Int32))) * x3)) + ((((4 : Int64) * (own_co x2 (2 : Int32))) * x3) * x3)))])) rfl (hb hby d1_133) _ k) ?_
  refine G1 (fun _ k => XS.lload X6.here hx rfl (hb hby d1_136) rfl  k) ?_
  refine G1 (fun _ k => XS.lmul X6.here hx rfl (hb hby d1_138) rfl k) ?_
  show Goes _ _ _ _ _ _ _ (T6.setTop (mkF m 139 _ [(.long ((8 : Int64) * (own_co x2 (3 : Int32)))), (.long (((own_co x2 (0 : Int32)) + (((2 : Int64) * (own_co x2 (1 : Int32))) * x3)) + ((((4 : Int64) * (own_co x2 (2 : Int32))) * x3) * x3)))]))
  refine G1 (fun _ k => XS.lload X6.here hx rfl (hb hby d1_139) rfl  k) ?_
  refine G1 (fun _ k => XS.lmul X6.here hx rfl (hb hby d1_141) rfl k) ?_
  show Goes _ _ _ _ _ _ _ (T6.setTop (mkF m 142 _ [(.long (((8 : Int64) * (own_co x2 (3 : Int32))) * x3)), (.long (((own_co x2 (0 : Int32)) + (((2 : Int64) * (own_co x2 (1 : Int32))) * x3)) + ((((4 : Int64) * (own_co x2 (2 : Int32))) * x3) * x3)))]))
  refine G1 (fun _ k => XS.lload X6.here hx rfl (hb hby d1_142) rfl  k) ?_
  refine G1 (fun _ k => XS.lmul X6.here hx rfl (hb hby d1_144) rfl k) ?_
  show Goes _ _ _ _ _ _ _ (T6.setTop (mkF m 145 _ [(.long ((((8 : Int64) * (own_co x2 (3 : Int32))) * x3) * x3)), (.long (((own_co x2 (0 : Int32)) + (((2 : Int64) * (own_co x2 (1 : Int32))) * x3)) + ((((4 : Int64) * (own_co x2 (2 : Int32))) * x3) * x3)))]))
  refine G1 (fun _ k => XS.lload X6.here hx rfl (hb hby d1_145) rfl  k) ?_
  refine G1 (fun _ k => XS.lmul X6.here hx rfl (hb hby d1_147) rfl k) ?_
  show Goes _ _ _ _ _ _ _ (T6.setTop (mkF m 148 _ [(.long (((((8 : Int64) * (own_co x2 (3 : Int32))) * x3) * x3) * x3)), (.long (((own_co x2 (0 : Int32)) + (((2 : Int64) * (own_co x2 (1 : Int32))) * x3)) + ((((4 : Int64) * (own_co x2 (2 : Int32))) * x3) * x3)))]))
  refine G1 (fun _ k => XS.ladd X6.here hx rfl (hb hby d1_148) rfl k) ?_
  show Goes _ _ _ _ _ _ _ (T6.setTop (mkF m 149 _ [(.long ((((own_co x2 (0 : Int32)) + (((2 : Int64) * (own_co x2 (1 : Int32))) * x3)) + ((((4 : Int64) * (own_co x2 (2 : Int32))) * x3) * x3)) + (((((8 : Int64) * (own_co x2 (3 : Int32))) * x3) * x3) * x3)))]))
  refine G1 (fun _ k => XS.lstore X6.here hx rfl (hb hby d1_149) rfl (l' := #[.val (.ref x0), .val (.int (2 : Int32)), .val (.long x2), nS, .val (.long x3), nS, .val (.long (own_co x2 (0 : Int32))), nS, .val (.long (own_co x2 (1 : Int32))), nS, .val (.long (own_co x2 (2 : Int32))), nS, .val (.long (own_co x2 (3 : Int32))), nS, .val (.long (own_co x2 (4 : Int32))), nS, .val (.long (own_co x2 (5 : Int32))), nS, .val (.long (own_co x2 (0 : Int32))), nS, .val (.long (own_co x2 (1 : Int32))), nS, .val (.long lv7), nS, .val (.long lv8), nS, .val (.long ((((own_co x2 (0 : Int32)) + (((2 : Int64) * (own_co x2 (1 : Int32))) * x3)) + ((((4 : Int64) * (own_co x2 (2 : Int32))) * x3) * x3)) + (((((8 : Int64) * (own_co x2 (3 : Int32))) * x3) * x3) * x3))), nS, nU, nU, nU, nU, nU, nU]) rfl k) ?_
  show Goes _ _ _ _ _ _ _ (T6.setTop (mkF m 151 _ []))
  show Goes _ _ _ _ _ _ _ (T6.setTop (mkF m 151 #[.val (.ref x0), .val (.int (2 : Int32)), .val (.long x2), nS, .val (.long x3), nS, .val (.long (own_co x2 (0 : Int32))), nS, .val (.long (own_co x2 (1 : Int32))), nS, .val (.long (own_co x2 (2 : Int32))), nS, .val (.long (own_co x2 (3 : Int32))), nS, .val (.long (own_co x2 (4 : Int32))), nS, .val (.long (own_co x2 (5 : Int32))), nS, .val (.long (own_co x2 (0 : Int32))), nS, .val (.long (own_co x2 (1 : Int32))), nS, .val (.long lv7), nS, .val (.long lv8), nS, .val (.long ((((own_co x2 (0 : Int32)) + (((2 : Int64) * (own_co x2 (1 : Int32))) * x3)) + ((((4 : Int64) * (own_co x2 (2 : Int32))) * x3) * x3)) + (((((8 : Int64) * (own_co x2 (3 : Int32))) * x3) * x3) * x3))), nS, nU, nU, nU, nU, nU, nU] []))
  generalize hg_lv9 : ((((own_co x2 (0 : Int32)) + (((2 : Int64) * (own_co x2 (1 : Int32))) * x3)) + ((((4 : Int64) * (own_co x2 (2 : Int32))) * x3) * x3)) + (((((8 : Int64) * (own_co x2 (3 : Int32))) * x3) * x3) * x3)) = lv9
  show Goes _ _ _ _ _ _ _ (T6.setTop (mkF m 151 #[.val (.ref x0), .val (.int (2 : Int32)), .val (.long x2), nS, .val (.long x3), nS, .val (.long (own_co x2 (0 : Int32))), nS, .val (.long (own_co x2 (1 : Int32))), nS, .val (.long (own_co x2 (2 : Int32))), nS, .val (.long (own_co x2 (3 : Int32))), nS, .val (.long (own_co x2 (4 : Int32))), nS, .val (.long (own_co x2 (5 : Int32))), nS, .val (.long (own_co x2 (0 : Int32))), nS, .val (.long (own_co x2 (1 : Int32))), nS, .val (.long lv7), nS, .val (.long lv8), nS, .val (.long lv9), nS, nU, nU, nU, nU, nU, nU] []))
  have Llv9 : own_L lv9 ((((own_co x2 (0 : Int32)).toInt + (((2 : Int) * (own_co x2 (1 : Int32)).toInt) * x3.toInt)) + ((((4 : Int) * (own_co x2 (2 : Int32)).toInt) * x3.toInt) * x3.toInt)) + (((((8 : Int) * (own_co x2 (3 : Int32)).toInt) * x3.toInt) * x3.toInt) * x3.toInt)) 17318400 := hg_lv9 ▸ (own_L.add (own_L.add (own_L.add (own_coL x2 (0 : Int32)) (own_L.mul (own_L.mul (⟨by decide, by decide⟩ : own_L (2 : Int64) 2 2) (own_coL x2 (1 : Int32)) (by decide)) hs (by decide)) (by decide)) (own_L.mul (own_L.mul (own_L.mul (⟨by decide, by decide⟩ : own_L (4 : Int64) 4 4) (own_coL x2 (2 : Int32)) (by decide)) hs (by decide)) hs (by decide)) (by decide)) (own_L.mul (own_L.mul (own_L.mul (own_L.mul (⟨by decide, by decide⟩ : own_L (8 : Int64) 8 8) (own_coL x2 (3 : Int32)) (by decide)) hs (by decide)) hs (by decide)) hs (by decide)) (by decide))
  refine G1 (fun _ k => XS.lload X6.here hx rfl (hb hby d1_151) rfl  k) ?_
  refine G1 (fun _ k => X6.ldc2Long hx hown (mvT hZ w_10) (g := (mkF m 153 #[.val (.ref x0), .val (.int (2 : Int32)), .val (.long x2), nS, .val (.long x3), nS, .val (.long (own_co x2 (0 : Int32))), nS, .val (.long (own_co x2 (1 : Int32))), nS, .val (.long (own_co x2 (2 : Int32))), nS, .val (.long (own_co x2 (3 : Int32))), nS, .val (.long (own_co x2 (4 : Int32))), nS, .val (.long (own_co x2 (5 : Int32))), nS, .val (.long (own_co x2 (0 : Int32))), nS, .val (.long (own_co x2 (1 : Int32))), nS, .val (.long lv7), nS, .val (.long lv8), nS, .val (.long lv9), nS, nU, nU, nU, nU, nU, nU] [(.long (own_co x2 (1 : Int32)))])) rfl (hb hby d1_153) _ k) ?_
  refine G1 (fun _ k => XS.lload X6.here hx rfl (hb hby d1_156) rfl  k) ?_
  refine G1 (fun _ k => XS.lmul X6.here hx rfl (hb hby d1_158) rfl k) ?_
  show Goes _ _ _ _ _ _ _ (T6.setTop (mkF m 159 _ [(.long ((4 : Int64) * (own_co x2 (2 : Int32)))), (.long (own_co x2 (1 : Int32)))]))
  refine G1 (fun _ k => XS.lload X6.here hx rfl (hb hby d1_159) rfl  k) ?_
  refine G1 (fun _ k => XS.lmul X6.here hx rfl (hb hby d1_161) rfl k) ?_
  show Goes _ _ _ _ _ _ _ (T6.setTop (mkF m 162 _ [(.long (((4 : Int64) * (own_co x2 (2 : Int32))) * x3)), (.long (own_co x2 (1 : Int32)))]))
  refine G1 (fun _ k => XS.ladd X6.here hx rfl (hb hby d1_162) rfl k) ?_
  show Goes _ _ _ _ _ _ _ (T6.setTop (mkF m 163 _ [(.long ((own_co x2 (1 : Int32)) + (((4 : Int64) * (own_co x2 (2 : Int32))) * x3)))]))
  refine G1 (fun _ k => X6.ldc2Long hx hown (mvT hZ w_12) (g := (mkF m 163 #[.val (.ref x0), .val (.int (2 : Int32)), .val (.long x2), nS, .val (.long x3), nS, .val (.long (own_co x2 (0 : Int32))), nS, .val (.long (own_co x2 (1 : Int32))), nS, .val (.long (own_co x2 (2 : Int32))), nS, .val (.long (own_co x2 (3 : Int32))), nS, .val (.long (own_co x2 (4 : Int32))), nS, .val (.long (own_co x2 (5 : Int32))), nS, .val (.long (own_co x2 (0 : Int32))), nS, .val (.long (own_co x2 (1 : Int32))), nS, .val (.long lv7), nS, .val (.long lv8), nS, .val (.long lv9), nS, nU, nU, nU, nU, nU, nU] [(.long ((own_co x2 (1 : Int32)) + (((4 : Int64) * (own_co x2 (2 : Int32))) * x3)))])) rfl (hb hby d1_163) _ k) ?_
  refine G1 (fun _ k => XS.lload X6.here hx rfl (hb hby d1_166) rfl  k) ?_
  refine G1 (fun _ k => XS.lmul X6.here hx rfl (hb hby d1_168) rfl k) ?_
  show Goes _ _ _ _ _ _ _ (T6.setTop (mkF m 169 _ [(.long ((12 : Int64) * (own_co x2 (3 : Int32)))), (.long ((own_co x2 (1 : Int32)) + (((4 : Int64) * (own_co x2 (2 : Int32))) * x3)))]))
  refine G1 (fun _ k => XS.lload X6.here hx rfl (hb hby d1_169) rfl  k) ?_
  refine G1 (fun _ k => XS.lmul X6.here hx rfl (hb hby d1_171) rfl k) ?_
  show Goes _ _ _ _ _ _ _ (T6.setTop (mkF m 172 _ [(.long (((12 : Int64) * (own_co x2 (3 : Int32))) * x3)), (.long ((own_co x2 (1 : Int32)) + (((4 : Int64) * (own_co x2 (2 : Int32))) * x3)))]))
  refine G1 (fun _ k => XS.lload X6.here hx rfl (hb hby d1_172) rfl  k) ?_
  refine G1 (fun _ k => XS.lmul X6.here hx rfl (hb hby d1_174) rfl k) ?_
  show Goes _ _ _ _ _ _ _ (T6.setTop (mkF m 175 _ [(.long ((((12 : Int64) * (own_co x2 (3 : Int32))) * x3) * x3)), (.long ((own_co x2 (1 : Int32)) + (((4 : Int64) * (own_co x2 (2 : Int32))) * x3)))]))
  refine G1 (fun _ k => XS.ladd X6.here hx rfl (hb hby d1_175) rfl k) ?_
  show Goes _ _ _ _ _ _ _ (T6.setTop (mkF m 176 #[.val (.ref x0), .val (.int (2 : Int32)), .val (.long x2), nS, .val (.long x3), nS, .val (.long (own_co x2 (0 : Int32))), nS, .val (.long (own_co x2 (1 : Int32))), nS, .val (.long (own_co x2 (2 : Int32))), nS, .val (.long (own_co x2 (3 : Int32))), nS, .val (.long (own_co x2 (4 : Int32))), nS, .val (.long (own_co x2 (5 : Int32))), nS, .val (.long (own_co x2 (0 : Int32))), nS, .val (.long (own_co x2 (1 : Int32))), nS, .val (.long lv7), nS, .val (.long lv8), nS, .val (.long lv9), nS, nU, nU, nU, nU, nU, nU] [(.long (((own_co x2 (1 : Int32)) + (((4 : Int64) * (own_co x2 (2 : Int32))) * x3)) + ((((12 : Int64) * (own_co x2 (3 : Int32))) * x3) * x3)))]))
  refine G1 (fun _ k => XS.lstore X6.here hx rfl (hb hby d1_176) rfl (l' := #[.val (.ref x0), .val (.int (2 : Int32)), .val (.long x2), nS, .val (.long x3), nS, .val (.long (own_co x2 (0 : Int32))), nS, .val (.long (own_co x2 (1 : Int32))), nS, .val (.long (own_co x2 (2 : Int32))), nS, .val (.long (own_co x2 (3 : Int32))), nS, .val (.long (own_co x2 (4 : Int32))), nS, .val (.long (own_co x2 (5 : Int32))), nS, .val (.long (own_co x2 (0 : Int32))), nS, .val (.long (own_co x2 (1 : Int32))), nS, .val (.long lv7), nS, .val (.long lv8), nS, .val (.long lv9), nS, .val (.long (((own_co x2 (1 : Int32)) + (((4 : Int64) * (own_co x2 (2 : Int32))) * x3)) + ((((12 : Int64) * (own_co x2 (3 : Int32))) * x3) * x3))), nS, nU, nU, nU, nU]) rfl k) ?_
  show Goes _ _ _ _ _ _ _ (T6.setTop (mkF m 178 _ []))
  show Goes _ _ _ _ _ _ _ (T6.setTop (mkF m 178 #[.val (.ref x0), .val (.int (2 : Int32)), .val (.long x2), nS, .val (.long x3), nS, .val (.long (own_co x2 (0 : Int32))), nS, .val (.long (own_co x2 (1 : Int32))), nS, .val (.long (own_co x2 (2 : Int32))), nS, .val (.long (own_co x2 (3 : Int32))), nS, .val (.long (own_co x2 (4 : Int32))), nS, .val (.long (own_co x2 (5 : Int32))), nS, .val (.long (own_co x2 (0 : Int32))), nS, .val (.long (own_co x2 (1 : Int32))), nS, .val (.long lv7), nS, .val (.long lv8), nS, .val (.long lv9), nS, .val (.long (((own_co x2 (1 : Int32)) + (((4 : Int64) * (own_co x2 (2 : Int32))) * x3)) + ((((12 : Int64) * (own_co x2 (3 : Int32))) * x3) * x3))), nS, nU, nU, nU, nU] []))
  generalize hg_lv10 : (((own_co x2 (1 : Int32)) + (((4 : Int64) * (own_co x2 (2 : Int32))) * x3)) + ((((12 : Int64) * (own_co x2 (3 : Int32))) * x3) * x3)) = lv10
  show Goes _ _ _ _ _ _ _ (T6.setTop (mkF m 178 #[.val (.ref x0), .val (.int (2 : Int32)), .val (.long x2), nS, .val (.long x3), nS, .val (.long (own_co x2 (0 : Int32))), nS, .val (.long (own_co x2 (1 : Int32))), nS, .val (.long (own_co x2 (2 : Int32))), nS, .val (.long (own_co x2 (3 : Int32))), nS, .val (.long (own_co x2 (4 : Int32))), nS, .val (.long (own_co x2 (5 : Int32))), nS, .val (.long (own_co x2 (0 : Int32))), nS, .val (.long (own_co x2 (1 : Int32))), nS, .val (.long lv7), nS, .val (.long lv8), nS, .val (.long lv9), nS, .val (.long lv10), nS, nU, nU, nU, nU] []))
  have Llv10 : own_L lv10 (((own_co x2 (1 : Int32)).toInt + (((4 : Int) * (own_co x2 (2 : Int32)).toInt) * x3.toInt)) + ((((12 : Int) * (own_co x2 (3 : Int32)).toInt) * x3.toInt) * x3.toInt)) 1606144 := hg_lv10 ▸ (own_L.add (own_L.add (own_coL x2 (1 : Int32)) (own_L.mul (own_L.mul (⟨by decide, by decide⟩ : own_L (4 : Int64) 4 4) (own_coL x2 (2 : Int32)) (by decide)) hs (by decide)) (by decide)) (own_L.mul (own_L.mul (own_L.mul (⟨by decide, by decide⟩ : own_L (12 : Int64) 12 12) (own_coL x2 (3 : Int32)) (by decide)) hs (by decide)) hs (by decide)) (by decide))
  refine G1 (fun _ k => XS.lload X6.here hx rfl (hb hby d1_178) rfl  k) ?_
  refine G1 (fun _ k => XS.lload X6.here hx rfl (hb hby d1_180) rfl  k) ?_
  refine G1 (fun _ k => XS.lload X6.here hx rfl (hb hby d1_182) rfl  k) ?_
  refine G1 (fun _ k => XS.lmul X6.here hx rfl (hb hby d1_184) rfl k) ?_
  show Goes _ _ _ _ _ _ _ (T6.setTop (mkF m 185 _ [(.long (x3 * x3)), (.long lv9)]))
  refine G1 (fun _ k => XS.lload X6.here hx rfl (hb hby d1_185) rfl  k) ?_
  refine G1 (fun _ k => XS.lload X6.here hx rfl (hb hby d1_187) rfl  k) ?_
  refine G1 (fun _ k => XS.lload X6.here hx rfl (hb hby d1_189) rfl  k) ?_
  refine G1 (fun _ k => XS.lmul X6.here hx rfl (hb hby d1_191) rfl k) ?_
  show Goes _ _ _ _ _ _ _ (T6.setTop (mkF m 192 _ [(.long ((own_co x2 (5 : Int32)) * x3)), (.long (own_co x2 (4 : Int32))), (.long (x3 * x3)), (.long lv9)]))
  refine G1 (fun _ k => XS.ladd X6.here hx rfl (hb hby d1_192) rfl k) ?_
  show Goes _ _ _ _ _ _ _ (T6.setTop (mkF m 193 _ [(.long ((own_co x2 (4 : Int32)) + ((own_co x2 (5 : Int32)) * x3))), (.long (x3 * x3)), (.long lv9)]))
  refine G1 (fun _ k => XS.lmul X6.here hx rfl (hb hby d1_193) rfl k) ?_
  show Goes _ _ _ _ _ _ _ (T6.setTop (mkF m 194 _ [(.long ((x3 * x3) * ((own_co x2 (4 : Int32)) + ((own_co x2 (5 : Int32)) * x3)))), (.long lv9)]))
  refine G1 (fun _ k => XS.ladd X6.here hx rfl (hb hby d1_194) rfl k) ?_
  show Goes _ _ _ _ _ _ _ (T6.setTop (mkF m 195 _ [(.long (lv9 + ((x3 * x3) * ((own_co x2 (4 : Int32)) + ((own_co x2 (5 : Int32)) * x3)))))]))
  refine G1 (fun _ k => XS.lstore X6.here hx rfl (hb hby d1_195) rfl (l' := #[.val (.ref x0), .val (.int (2 : Int32)), .val (.long x2), nS, .val (.long x3), nS, .val (.long (own_co x2 (0 : Int32))), nS, .val (.long (own_co x2 (1 : Int32))), nS, .val (.long (own_co x2 (2 : Int32))), nS, .val (.long (own_co x2 (3 : Int32))), nS, .val (.long (own_co x2 (4 : Int32))), nS, .val (.long (own_co x2 (5 : Int32))), nS, .val (.long (own_co x2 (0 : Int32))), nS, .val (.long (own_co x2 (1 : Int32))), nS, .val (.long lv7), nS, .val (.long lv8), nS, .val (.long lv9), nS, .val (.long lv10), nS, .val (.long (lv9 + ((x3 * x3) * ((own_co x2 (4 : Int32)) + ((own_co x2 (5 : Int32)) * x3))))), nS, nU, nU]) rfl k) ?_
  show Goes _ _ _ _ _ _ _ (T6.setTop (mkF m 197 _ []))
  show Goes _ _ _ _ _ _ _ (T6.setTop (mkF m 197 #[.val (.ref x0), .val (.int (2 : Int32)), .val (.long x2), nS, .val (.long x3), nS, .val (.long (own_co x2 (0 : Int32))), nS, .val (.long (own_co x2 (1 : Int32))), nS, .val (.long (own_co x2 (2 : Int32))), nS, .val (.long (own_co x2 (3 : Int32))), nS, .val (.long (own_co x2 (4 : Int32))), nS, .val (.long (own_co x2 (5 : Int32))), nS, .val (.long (own_co x2 (0 : Int32))), nS, .val (.long (own_co x2 (1 : Int32))), nS, .val (.long lv7), nS, .val (.long lv8), nS, .val (.long lv9), nS, .val (.long lv10), nS, .val (.long (lv9 + ((x3 * x3) * ((own_co x2 (4 : Int32)) + ((own_co x2 (5 : Int32)) * x3))))), nS, nU, nU] []))
  generalize hg_lv11 : (lv9 + ((x3 * x3) * ((own_co x2 (4 : Int32)) + ((own_co x2 (5 : Int32)) * x3)))) = lv11
  show Goes _ _ _ _ _ _ _ (T6.setTop (mkF m 197 #[.val (.ref x0), .val (.int (2 : Int32)), .val (.long x2), nS, .val (.long x3), nS, .val (.long (own_co x2 (0 : Int32))), nS, .val (.long (own_co x2 (1 : Int32))), nS, .val (.long (own_co x2 (2 : Int32))), nS, .val (.long (own_co x2 (3 : Int32))), nS, .val (.long (own_co x2 (4 : Int32))), nS, .val (.long (own_co x2 (5 : Int32))), nS, .val (.long (own_co x2 (0 : Int32))), nS, .val (.long (own_co x2 (1 : Int32))), nS, .val (.long lv7), nS, .val (.long lv8), nS, .val (.long lv9), nS, .val (.long lv10), nS, .val (.long lv11), nS, nU, nU] []))
  have Llv11 : own_L lv11 (((((own_co x2 (0 : Int32)).toInt + (((2 : Int) * (own_co x2 (1 : Int32)).toInt) * x3.toInt)) + ((((4 : Int) * (own_co x2 (2 : Int32)).toInt) * x3.toInt) * x3.toInt)) + (((((8 : Int) * (own_co x2 (3 : Int32)).toInt) * x3.toInt) * x3.toInt) * x3.toInt)) + ((x3.toInt * x3.toInt) * ((own_co x2 (4 : Int32)).toInt + ((own_co x2 (5 : Int32)).toInt * x3.toInt)))) 19546624 := hg_lv11 ▸ (own_L.add Llv9 (own_L.mul (own_L.mul hs hs (by decide)) (own_L.add (own_coL x2 (4 : Int32)) (own_L.mul (own_coL x2 (5 : Int32)) hs (by decide)) (by decide)) (by decide)) (by decide))
  refine G1 (fun _ k => XS.lload X6.here hx rfl (hb hby d1_197) rfl  k) ?_
  refine G1 (fun _ k => X6.ldc2Long hx hown (mvT hZ w_8) (g := (mkF m 199 #[.val (.ref x0), .val (.int (2 : Int32)), .val (.long x2), nS, .val (.long x3), nS, .val (.long (own_co x2 (0 : Int32))), nS, .val (.long (own_co x2 (1 : Int32))), nS, .val (.long (own_co x2 (2 : Int32))), nS, .val (.long (own_co x2 (3 : Int32))), nS, .val (.long (own_co x2 (4 : Int32))), nS, .val (.long (own_co x2 (5 : Int32))), nS, .val (.long (own_co x2 (0 : Int32))), nS, .val (.long (own_co x2 (1 : Int32))), nS, .val (.long lv7), nS, .val (.long lv8), nS, .val (.long lv9), nS, .val (.long lv10), nS, .val (.long lv11), nS, nU, nU] [(.long lv10)])) rfl (hb hby d1_199) _ k) ?_
  refine G1 (fun _ k => XS.lload X6.here hx rfl (hb hby d1_202) rfl  k) ?_
  refine G1 (fun _ k => XS.lmul X6.here hx rfl (hb hby d1_204) rfl k) ?_
  show Goes _ _ _ _ _ _ _ (T6.setTop (mkF m 205 _ [(.long ((2 : Int64) * x3)), (.long lv10)]))
  refine G1 (fun _ k => XS.lload X6.here hx rfl (hb hby d1_205) rfl  k) ?_
  refine G1 (fun _ k => XS.lmul X6.here hx rfl (hb hby d1_207) rfl k) ?_
  show Goes _ _ _ _ _ _ _ (T6.setTop (mkF m 208 _ [(.long (((2 : Int64) * x3) * (own_co x2 (4 : Int32)))), (.long lv10)]))
  refine G1 (fun _ k => XS.ladd X6.here hx rfl (hb hby d1_208) rfl k) ?_
  show Goes _ _ _ _ _ _ _ (T6.setTop (mkF m 209 _ [(.long (lv10 + (((2 : Int64) * x3) * (own_co x2 (4 : Int32)))))]))
  refine G1 (fun _ k => X6.ldc2Long hx hown (mvT hZ w_9) (g := (mkF m 209 #[.val (.ref x0), .val (.int (2 : Int32)), .val (.long x2), nS, .val (.long x3), nS, .val (.long (own_co x2 (0 : Int32))), nS, .val (.long (own_co x2 (1 : Int32))), nS, .val (.long (own_co x2 (2 : Int32))), nS, .val (.long (own_co x2 (3 : Int32))), nS, .val (.long (own_co x2 (4 : Int32))), nS, .val (.long (own_co x2 (5 : Int32))), nS, .val (.long (own_co x2 (0 : Int32))), nS, .val (.long (own_co x2 (1 : Int32))), nS, .val (.long lv7), nS, .val (.long lv8), nS, .val (.long lv9), nS, .val (.long lv10), nS, .val (.long lv11), nS, nU, nU] [(.long (lv10 + (((2 : Int64) * x3) * (own_co x2 (4 : Int32)))))])) rfl (hb hby d1_209) _ k) ?_
  refine G1 (fun _ k => XS.lload X6.here hx rfl (hb hby d1_212) rfl  k) ?_
  refine G1 (fun _ k => XS.lmul X6.here hx rfl (hb hby d1_214) rfl k) ?_
  show Goes _ _ _ _ _ _ _ (T6.setTop (mkF m 215 _ [(.long ((3 : Int64) * (own_co x2 (5 : Int32)))), (.long (lv10 + (((2 : Int64) * x3) * (own_co x2 (4 : Int32)))))]))
  refine G1 (fun _ k => XS.lload X6.here hx rfl (hb hby d1_215) rfl  k) ?_
  refine G1 (fun _ k => XS.lmul X6.here hx rfl (hb hby d1_217) rfl k) ?_
  show Goes _ _ _ _ _ _ _ (T6.setTop (mkF m 218 _ [(.long (((3 : Int64) * (own_co x2 (5 : Int32))) * x3)), (.long (lv10 + (((2 : Int64) * x3) * (own_co x2 (4 : Int32)))))]))
  refine G1 (fun _ k => XS.lload X6.here hx rfl (hb hby d1_218) rfl  k) ?_
  refine G1 (fun _ k => XS.lmul X6.here hx rfl (hb hby d1_220) rfl k) ?_
  show Goes _ _ _ _ _ _ _ (T6.setTop (mkF m 221 _ [(.long ((((3 : Int64) * (own_co x2 (5 : Int32))) * x3) * x3)), (.long (lv10 + (((2 : Int64) * x3) * (own_co x2 (4 : Int32)))))]))
  refine G1 (fun _ k => XS.ladd X6.here hx rfl (hb hby d1_221) rfl k) ?_
  show Goes _ _ _ _ _ _ _ (T6.setTop (mkF m 222 #[.val (.ref x0), .val (.int (2 : Int32)), .val (.long x2), nS, .val (.long x3), nS, .val (.long (own_co x2 (0 : Int32))), nS, .val (.long (own_co x2 (1 : Int32))), nS, .val (.long (own_co x2 (2 : Int32))), nS, .val (.long (own_co x2 (3 : Int32))), nS, .val (.long (own_co x2 (4 : Int32))), nS, .val (.long (own_co x2 (5 : Int32))), nS, .val (.long (own_co x2 (0 : Int32))), nS, .val (.long (own_co x2 (1 : Int32))), nS, .val (.long lv7), nS, .val (.long lv8), nS, .val (.long lv9), nS, .val (.long lv10), nS, .val (.long lv11), nS, nU, nU] [(.long ((lv10 + (((2 : Int64) * x3) * (own_co x2 (4 : Int32)))) + ((((3 : Int64) * (own_co x2 (5 : Int32))) * x3) * x3)))]))
  refine G1 (fun _ k => XS.lstore X6.here hx rfl (hb hby d1_222) rfl (l' := #[.val (.ref x0), .val (.int (2 : Int32)), .val (.long x2), nS, .val (.long x3), nS, .val (.long (own_co x2 (0 : Int32))), nS, .val (.long (own_co x2 (1 : Int32))), nS, .val (.long (own_co x2 (2 : Int32))), nS, .val (.long (own_co x2 (3 : Int32))), nS, .val (.long (own_co x2 (4 : Int32))), nS, .val (.long (own_co x2 (5 : Int32))), nS, .val (.long (own_co x2 (0 : Int32))), nS, .val (.long (own_co x2 (1 : Int32))), nS, .val (.long lv7), nS, .val (.long lv8), nS, .val (.long lv9), nS, .val (.long lv10), nS, .val (.long lv11), nS, .val (.long ((lv10 + (((2 : Int64) * x3) * (own_co x2 (4 : Int32)))) + ((((3 : Int64) * (own_co x2 (5 : Int32))) * x3) * x3))), nS]) rfl k) ?_
  show Goes _ _ _ _ _ _ _ (T6.setTop (mkF m 224 _ []))
  show Goes _ _ _ _ _ _ _ (T6.setTop (mkF m 224 #[.val (.ref x0), .val (.int (2 : Int32)), .val (.long x2), nS, .val (.long x3), nS, .val (.long (own_co x2 (0 : Int32))), nS, .val (.long (own_co x2 (1 : Int32))), nS, .val (.long (own_co x2 (2 : Int32))), nS, .val (.long (own_co x2 (3 : Int32))), nS, .val (.long (own_co x2 (4 : Int32))), nS, .val (.long (own_co x2 (5 : Int32))), nS, .val (.long (own_co x2 (0 : Int32))), nS, .val (.long (own_co x2 (1 : Int32))), nS, .val (.long lv7), nS, .val (.long lv8), nS, .val (.long lv9), nS, .val (.long lv10), nS, .val (.long lv11), nS, .val (.long ((lv10 + (((2 : Int64) * x3) * (own_co x2 (4 : Int32)))) + ((((3 : Int64) * (own_co x2 (5 : Int32))) * x3) * x3))), nS] []))
  generalize hg_lv12 : ((lv10 + (((2 : Int64) * x3) * (own_co x2 (4 : Int32)))) + ((((3 : Int64) * (own_co x2 (5 : Int32))) * x3) * x3)) = lv12
  show Goes _ _ _ _ _ _ _ (T6.setTop (mkF m 224 #[.val (.ref x0), .val (.int (2 : Int32)), .val (.long x2), nS, .val (.long x3), nS, .val (.long (own_co x2 (0 : Int32))), nS, .val (.long (own_co x2 (1 : Int32))), nS, .val (.long (own_co x2 (2 : Int32))), nS, .val (.long (own_co x2 (3 : Int32))), nS, .val (.long (own_co x2 (4 : Int32))), nS, .val (.long (own_co x2 (5 : Int32))), nS, .val (.long (own_co x2 (0 : Int32))), nS, .val (.long (own_co x2 (1 : Int32))), nS, .val (.long lv7), nS, .val (.long lv8), nS, .val (.long lv9), nS, .val (.long lv10), nS, .val (.long lv11), nS, .val (.long lv12), nS] []))
  have Llv12 : own_L lv12 (((((own_co x2 (1 : Int32)).toInt + (((4 : Int) * (own_co x2 (2 : Int32)).toInt) * x3.toInt)) + ((((12 : Int) * (own_co x2 (3 : Int32)).toInt) * x3.toInt) * x3.toInt)) + (((2 : Int) * x3.toInt) * (own_co x2 (4 : Int32)).toInt)) + ((((3 : Int) * (own_co x2 (5 : Int32)).toInt) * x3.toInt) * x3.toInt)) 2015744 := hg_lv12 ▸ (own_L.add (own_L.add Llv10 (own_L.mul (own_L.mul (⟨by decide, by decide⟩ : own_L (2 : Int64) 2 2) hs (by decide)) (own_coL x2 (4 : Int32)) (by decide)) (by decide)) (own_L.mul (own_L.mul (own_L.mul (⟨by decide, by decide⟩ : own_L (3 : Int64) 3 3) (own_coL x2 (5 : Int32)) (by decide)) hs (by decide)) hs (by decide)) (by decide))
  refine G1 (fun _ k => XS.aloadN X6.here hx rfl (hb hby d1_224) rfl rfl k) ?_
  refine G1 (fun _ k => XS.iloadN X6.here hx rfl (hb hby d1_225) rfl  k) ?_
  refine G1 (fun _ k => XS.lload X6.here hx rfl (hb hby d1_226) rfl  k) ?_
  obtain ⟨d13, hd13⟩ : ∃ z, FP.l2d (own_co x2 (0 : Int32)) = z := ⟨_, rfl⟩
  have fr13 : OwnF.Fr 0 (own_co x2 (0 : Int32)).toInt 512 d13 := by rw [← hd13]; exact own_frL (own_coL x2 (0 : Int32)) (by decide)
  refine G1 (fun _ k => XS.l2dS X6.here hx rfl (hb hby d1_228) rfl hd13 k) ?_
  show Goes _ _ _ _ _ _ _ (T6.setTop (mkF m 229 _ [(.double d13), (.int (2 : Int32)), (.ref x0)]))
  obtain ⟨cl14, Ar14, q14, S14, P14, H14, G14⟩ := id V_x0
  have hin14 : ¬ ((2 : Int32) < 0 ∨ cl14.slots.size ≤ ((2 : Int32)).toNatClampNeg) := inb_of S14 ⟨by decide, by decide⟩
  obtain ⟨T15, h15, X15, e15, W15, st15⟩ := stD X6 hx hZ eh6 Ar14 (j := (2 : Int32)) hin14 (g := (mkF m 229 #[.val (.ref x0), .val (.int (2 : Int32)), .val (.long x2), nS, .val (.long x3), nS, .val (.long (own_co x2 (0 : Int32))), nS, .val (.long (own_co x2 (1 : Int32))), nS, .val (.long (own_co x2 (2 : Int32))), nS, .val (.long (own_co x2 (3 : Int32))), nS, .val (.long (own_co x2 (4 : Int32))), nS, .val (.long (own_co x2 (5 : Int32))), nS, .val (.long (own_co x2 (0 : Int32))), nS, .val (.long (own_co x2 (1 : Int32))), nS, .val (.long lv7), nS, .val (.long lv8), nS, .val (.long lv9), nS, .val (.long lv10), nS, .val (.long lv11), nS, .val (.long lv12), nS] [(.double d13), (.int (2 : Int32)), (.ref x0)])) rfl rfl (hb hby d1_229)
  refine G1 st15 ?_
  have V15 : Arv Z h15 x0 ka .double (18 : Int32) [(.double ve0), (.double ve1), (.double d13), (.double ve3), (.double ve4), (.double ve5), (.double ve6), (.double ve7), (.double ve8), (.double ve9), (.double ve10), (.double ve11), (.double ve12), (.double ve13), (.double ve14), (.double ve15), (.double ve16), (.double ve17)] (.double (0 : UInt64)) := Arv.set Ar14 q14 S14 P14 H14 G14 rfl W15 2 rfl (Nat.le_of_ble_eq_true rfl)
  have f16 := V15
  have K17 : Keep h0 h15 [x0] := K0.wr W15 (Or.inl (List.mem_of_getElem? (i := 0) rfl))
  have Z17 : n0 ≤ h15.size := by rw [Wr.size W15]; exact Z0
  have N17 := Fr.snoc X15 NA6 g_x0
  show Goes _ _ _ _ _ _ _ (T15.setTop (mkF m 230 _ []))
  refine G1 (fun _ k => XS.aloadN X15.here hx rfl (hb hby d1_230) rfl rfl k) ?_
  refine G1 (fun _ k => XS.iconst X15.here hx rfl (hb hby d1_231) k) ?_
  refine G1 (fun _ k => XS.iloadN X15.here hx rfl (hb hby d1_232) rfl  k) ?_
  refine G1 (fun _ k => XS.iadd X15.here hx rfl (hb hby d1_233) rfl k) ?_
  show Goes _ _ _ _ _ _ _ (T15.setTop (mkF m 234 _ [(.int (5 : Int32)), (.ref x0)]))
  refine G1 (fun _ k => XS.lload X15.here hx rfl (hb hby d1_234) rfl  k) ?_
  obtain ⟨d18, hd18⟩ : ∃ z, FP.l2d (own_co x2 (1 : Int32)) = z := ⟨_, rfl⟩
  have fr18 : OwnF.Fr 0 (own_co x2 (1 : Int32)).toInt 512 d18 := by rw [← hd18]; exact own_frL (own_coL x2 (1 : Int32)) (by decide)
  refine G1 (fun _ k => XS.l2dS X15.here hx rfl (hb hby d1_236) rfl hd18 k) ?_
  show Goes _ _ _ _ _ _ _ (T15.setTop (mkF m 237 _ [(.double d18), (.int (5 : Int32)), (.ref x0)]))
  obtain ⟨cl19, Ar19, q19, S19, P19, H19, G19⟩ := id f16
  have hin19 : ¬ ((5 : Int32) < 0 ∨ cl19.slots.size ≤ ((5 : Int32)).toNatClampNeg) := inb_of S19 ⟨by decide, by decide⟩
  obtain ⟨T20, h20, X20, e20, W20, st20⟩ := stD X15 hx hZ e15 Ar19 (j := (5 : Int32)) hin19 (g := (mkF m 237 #[.val (.ref x0), .val (.int (2 : Int32)), .val (.long x2), nS, .val (.long x3), nS, .val (.long (own_co x2 (0 : Int32))), nS, .val (.long (own_co x2 (1 : Int32))), nS, .val (.long (own_co x2 (2 : Int32))), nS, .val (.long (own_co x2 (3 : Int32))), nS, .val (.long (own_co x2 (4 : Int32))), nS, .val (.long (own_co x2 (5 : Int32))), nS, .val (.long (own_co x2 (0 : Int32))), nS, .val (.long (own_co x2 (1 : Int32))), nS, .val (.long lv7), nS, .val (.long lv8), nS, .val (.long lv9), nS, .val (.long lv10), nS, .val (.long lv11), nS, .val (.long lv12), nS] [(.double d18), (.int (5 : Int32)), (.ref x0)])) rfl rfl (hb hby d1_237)
  refine G1 st20 ?_
  have V20 : Arv Z h20 x0 ka .double (18 : Int32) [(.double ve0), (.double ve1), (.double d13), (.double ve3), (.double ve4), (.double d18), (.double ve6), (.double ve7), (.double ve8), (.double ve9), (.double ve10), (.double ve11), (.double ve12), (.double ve13), (.double ve14), (.double ve15), (.double ve16), (.double ve17)] (.double (0 : UInt64)) := Arv.set Ar19 q19 S19 P19 H19 G19 rfl W20 5 rfl (Nat.le_of_ble_eq_true rfl)
  have f21 := V20
  have K22 : Keep h0 h20 [x0] := K17.wr W20 (Or.inl (List.mem_of_getElem? (i := 0) rfl))
  have Z22 : n0 ≤ h20.size := by rw [Wr.size W20]; exact Z17
  have N22 := Fr.snoc X20 N17 g_x0
  show Goes _ _ _ _ _ _ _ (T20.setTop (mkF m 238 _ []))
  refine G1 (fun _ k => XS.aloadN X20.here hx rfl (hb hby d1_238) rfl rfl k) ?_
  refine G1 (fun _ k => XS.bipush X20.here hx rfl (hb hby d1_239) k) ?_
  refine G1 (fun _ k => XS.iloadN X20.here hx rfl (hb hby d1_241) rfl  k) ?_
  refine G1 (fun _ k => XS.iadd X20.here hx rfl (hb hby d1_242) rfl k) ?_
  show Goes _ _ _ _ _ _ _ (T20.setTop (mkF m 243 _ [(.int (8 : Int32)), (.ref x0)]))
  refine G1 (fun _ k => XS.lload X20.here hx rfl (hb hby d1_243) rfl  k) ?_
  obtain ⟨d23, hd23⟩ : ∃ z, FP.l2d lv7 = z := ⟨_, rfl⟩
  have fr23 : OwnF.Fr 0 ((((own_co x2 (0 : Int32)).toInt + ((own_co x2 (1 : Int32)).toInt * x3.toInt)) + (((own_co x2 (2 : Int32)).toInt * x3.toInt) * x3.toInt)) + ((((own_co x2 (3 : Int32)).toInt * x3.toInt) * x3.toInt) * x3.toInt)) 2236928 d23 := by rw [← hd23]; exact own_frL Llv7 (by decide)
  refine G1 (fun _ k => XS.l2dS X20.here hx rfl (hb hby d1_245) rfl hd23 k) ?_
  show Goes _ _ _ _ _ _ _ (T20.setTop (mkF m 246 #[.val (.ref x0), .val (.int (2 : Int32)), .val (.long x2), nS, .val (.long x3), nS, .val (.long (own_co x2 (0 : Int32))), nS, .val (.long (own_co x2 (1 : Int32))), nS, .val (.long (own_co x2 (2 : Int32))), nS, .val (.long (own_co x2 (3 : Int32))), nS, .val (.long (own_co x2 (4 : Int32))), nS, .val (.long (own_co x2 (5 : Int32))), nS, .val (.long (own_co x2 (0 : Int32))), nS, .val (.long (own_co x2 (1 : Int32))), nS, .val (.long lv7), nS, .val (.long lv8), nS, .val (.long lv9), nS, .val (.long lv10), nS, .val (.long lv11), nS, .val (.long lv12), nS] [(.double d23), (.int (8 : Int32)), (.ref x0)]))
  obtain ⟨cl24, Ar24, q24, S24, P24, H24, G24⟩ := id f21
  have hin24 : ¬ ((8 : Int32) < 0 ∨ cl24.slots.size ≤ ((8 : Int32)).toNatClampNeg) := inb_of S24 ⟨by decide, by decide⟩
  obtain ⟨T25, h25, X25, e25, W25, st25⟩ := stD X20 hx hZ e20 Ar24 (j := (8 : Int32)) hin24 (g := (mkF m 246 #[.val (.ref x0), .val (.int (2 : Int32)), .val (.long x2), nS, .val (.long x3), nS, .val (.long (own_co x2 (0 : Int32))), nS, .val (.long (own_co x2 (1 : Int32))), nS, .val (.long (own_co x2 (2 : Int32))), nS, .val (.long (own_co x2 (3 : Int32))), nS, .val (.long (own_co x2 (4 : Int32))), nS, .val (.long (own_co x2 (5 : Int32))), nS, .val (.long (own_co x2 (0 : Int32))), nS, .val (.long (own_co x2 (1 : Int32))), nS, .val (.long lv7), nS, .val (.long lv8), nS, .val (.long lv9), nS, .val (.long lv10), nS, .val (.long lv11), nS, .val (.long lv12), nS] [(.double d23), (.int (8 : Int32)), (.ref x0)])) rfl rfl (hb hby d1_246)
  refine G1 st25 ?_
  have V25 : Arv Z h25 x0 ka .double (18 : Int32) [(.double ve0), (.double ve1), (.double d13), (.double ve3), (.double ve4), (.double d18), (.double ve6), (.double ve7), (.double d23), (.double ve9), (.double ve10), (.double ve11), (.double ve12), (.double ve13), (.double ve14), (.double ve15), (.double ve16), (.double ve17)] (.double (0 : UInt64)) := Arv.set Ar24 q24 S24 P24 H24 G24 rfl W25 8 rfl (Nat.le_of_ble_eq_true rfl)
  have f26 := V25
  have K27 : Keep h0 h25 [x0] := K22.wr W25 (Or.inl (List.mem_of_getElem? (i := 0) rfl))
  have Z27 : n0 ≤ h25.size := by rw [Wr.size W25]; exact Z22
  have N27 := Fr.snoc X25 N22 g_x0
  show Goes _ _ _ _ _ _ _ (T25.setTop (mkF m 247 _ []))
  refine G1 (fun _ k => XS.aloadN X25.here hx rfl (hb hby d1_247) rfl rfl k) ?_
  refine G1 (fun _ k => XS.bipush X25.here hx rfl (hb hby d1_248) k) ?_
  refine G1 (fun _ k => XS.iloadN X25.here hx rfl (hb hby d1_250) rfl  k) ?_
  refine G1 (fun _ k => XS.iadd X25.here hx rfl (hb hby d1_251) rfl k) ?_
  show Goes _ _ _ _ _ _ _ (T25.setTop (mkF m 252 _ [(.int (11 : Int32)), (.ref x0)]))
  refine G1 (fun _ k => XS.lload X25.here hx rfl (hb hby d1_252) rfl  k) ?_
  obtain ⟨d28, hd28⟩ : ∃ z, FP.l2d lv8 = z := ⟨_, rfl⟩
  have fr28 : OwnF.Fr 0 (((own_co x2 (1 : Int32)).toInt + (((2 : Int) * (own_co x2 (2 : Int32)).toInt) * x3.toInt)) + ((((3 : Int) * (own_co x2 (3 : Int32)).toInt) * x3.toInt) * x3.toInt)) 410112 d28 := by rw [← hd28]; exact own_frL Llv8 (by decide)
  refine G1 (fun _ k => XS.l2dS X25.here hx rfl (hb hby d1_254) rfl hd28 k) ?_
  show Goes _ _ _ _ _ _ _ (T25.setTop (mkF m 255 _ [(.double d28), (.int (11 : Int32)), (.ref x0)]))
  obtain ⟨cl29, Ar29, q29, S29, P29, H29, G29⟩ := id f26
  have hin29 : ¬ ((11 : Int32) < 0 ∨ cl29.slots.size ≤ ((11 : Int32)).toNatClampNeg) := inb_of S29 ⟨by decide, by decide⟩
  obtain ⟨T30, h30, X30, e30, W30, st30⟩ := stD X25 hx hZ e25 Ar29 (j := (11 : Int32)) hin29 (g := (mkF m 255 #[.val (.ref x0), .val (.int (2 : Int32)), .val (.long x2), nS, .val (.long x3), nS, .val (.long (own_co x2 (0 : Int32))), nS, .val (.long (own_co x2 (1 : Int32))), nS, .val (.long (own_co x2 (2 : Int32))), nS, .val (.long (own_co x2 (3 : Int32))), nS, .val (.long (own_co x2 (4 : Int32))), nS, .val (.long (own_co x2 (5 : Int32))), nS, .val (.long (own_co x2 (0 : Int32))), nS, .val (.long (own_co x2 (1 : Int32))), nS, .val (.long lv7), nS, .val (.long lv8), nS, .val (.long lv9), nS, .val (.long lv10), nS, .val (.long lv11), nS, .val (.long lv12), nS] [(.double d28), (.int (11 : Int32)), (.ref x0)])) rfl rfl (hb hby d1_255)
  refine G1 st30 ?_
  have V30 : Arv Z h30 x0 ka .double (18 : Int32) [(.double ve0), (.double ve1), (.double d13), (.double ve3), (.double ve4), (.double d18), (.double ve6), (.double ve7), (.double d23), (.double ve9), (.double ve10), (.double d28), (.double ve12), (.double ve13), (.double ve14), (.double ve15), (.double ve16), (.double ve17)] (.double (0 : UInt64)) := Arv.set Ar29 q29 S29 P29 H29 G29 rfl W30 11 rfl (Nat.le_of_ble_eq_true rfl)
  have f31 := V30
  have K32 : Keep h0 h30 [x0] := K27.wr W30 (Or.inl (List.mem_of_getElem? (i := 0) rfl))
  have Z32 : n0 ≤ h30.size := by rw [Wr.size W30]; exact Z27
  have N32 := Fr.snoc X30 N27 g_x0
  show Goes _ _ _ _ _ _ _ (T30.setTop (mkF m 256 _ []))
  refine G1 (fun _ k => XS.aloadN X30.here hx rfl (hb hby d1_256) rfl rfl k) ?_
  refine G1 (fun _ k => XS.bipush X30.here hx rfl (hb hby d1_257) k) ?_
  refine G1 (fun _ k => XS.iloadN X30.here hx rfl (hb hby d1_259) rfl  k) ?_
  refine G1 (fun _ k => XS.iadd X30.here hx rfl (hb hby d1_260) rfl k) ?_
  show Goes _ _ _ _ _ _ _ (T30.setTop (mkF m 261 _ [(.int (14 : Int32)), (.ref x0)]))
  refine G1 (fun _ k => XS.lload X30.here hx rfl (hb hby d1_261) rfl  k) ?_
  obtain ⟨d33, hd33⟩ : ∃ z, FP.l2d lv11 = z := ⟨_, rfl⟩
  have fr33 : OwnF.Fr 0 (((((own_co x2 (0 : Int32)).toInt + (((2 : Int) * (own_co x2 (1 : Int32)).toInt) * x3.toInt)) + ((((4 : Int) * (own_co x2 (2 : Int32)).toInt) * x3.toInt) * x3.toInt)) + (((((8 : Int) * (own_co x2 (3 : Int32)).toInt) * x3.toInt) * x3.toInt) * x3.toInt)) + ((x3.toInt * x3.toInt) * ((own_co x2 (4 : Int32)).toInt + ((own_co x2 (5 : Int32)).toInt * x3.toInt)))) 19546624 d33 := by rw [← hd33]; exact own_frL Llv11 (by decide)
  refine G1 (fun _ k => XS.l2dS X30.here hx rfl (hb hby d1_263) rfl hd33 k) ?_
  show Goes _ _ _ _ _ _ _ (T30.setTop (mkF m 264 _ [(.double d33), (.int (14 : Int32)), (.ref x0)]))
  obtain ⟨cl34, Ar34, q34, S34, P34, H34, G34⟩ := id f31
  have hin34 : ¬ ((14 : Int32) < 0 ∨ cl34.slots.size ≤ ((14 : Int32)).toNatClampNeg) := inb_of S34 ⟨by decide, by decide⟩
  obtain ⟨T35, h35, X35, e35, W35, st35⟩ := stD X30 hx hZ e30 Ar34 (j := (14 : Int32)) hin34 (g := (mkF m 264 #[.val (.ref x0), .val (.int (2 : Int32)), .val (.long x2), nS, .val (.long x3), nS, .val (.long (own_co x2 (0 : Int32))), nS, .val (.long (own_co x2 (1 : Int32))), nS, .val (.long (own_co x2 (2 : Int32))), nS, .val (.long (own_co x2 (3 : Int32))), nS, .val (.long (own_co x2 (4 : Int32))), nS, .val (.long (own_co x2 (5 : Int32))), nS, .val (.long (own_co x2 (0 : Int32))), nS, .val (.long (own_co x2 (1 : Int32))), nS, .val (.long lv7), nS, .val (.long lv8), nS, .val (.long lv9), nS, .val (.long lv10), nS, .val (.long lv11), nS, .val (.long lv12), nS] [(.double d33), (.int (14 : Int32)), (.ref x0)])) rfl rfl (hb hby d1_264)
  refine G1 st35 ?_
  have V35 : Arv Z h35 x0 ka .double (18 : Int32) [(.double ve0), (.double ve1), (.double d13), (.double ve3), (.double ve4), (.double d18), (.double ve6), (.double ve7), (.double d23), (.double ve9), (.double ve10), (.double d28), (.double ve12), (.double ve13), (.double d33), (.double ve15), (.double ve16), (.double ve17)] (.double (0 : UInt64)) := Arv.set Ar34 q34 S34 P34 H34 G34 rfl W35 14 rfl (Nat.le_of_ble_eq_true rfl)
  have f36 := V35
  have K37 : Keep h0 h35 [x0] := K32.wr W35 (Or.inl (List.mem_of_getElem? (i := 0) rfl))
  have Z37 : n0 ≤ h35.size := by rw [Wr.size W35]; exact Z32
  have N37 := Fr.snoc X35 N32 g_x0
  show Goes _ _ _ _ _ _ _ (T35.setTop (mkF m 265 #[.val (.ref x0), .val (.int (2 : Int32)), .val (.long x2), nS, .val (.long x3), nS, .val (.long (own_co x2 (0 : Int32))), nS, .val (.long (own_co x2 (1 : Int32))), nS, .val (.long (own_co x2 (2 : Int32))), nS, .val (.long (own_co x2 (3 : Int32))), nS, .val (.long (own_co x2 (4 : Int32))), nS, .val (.long (own_co x2 (5 : Int32))), nS, .val (.long (own_co x2 (0 : Int32))), nS, .val (.long (own_co x2 (1 : Int32))), nS, .val (.long lv7), nS, .val (.long lv8), nS, .val (.long lv9), nS, .val (.long lv10), nS, .val (.long lv11), nS, .val (.long lv12), nS] []))
  refine G1 (fun _ k => XS.aloadN X35.here hx rfl (hb hby d1_265) rfl rfl k) ?_
  refine G1 (fun _ k => XS.bipush X35.here hx rfl (hb hby d1_266) k) ?_
  refine G1 (fun _ k => XS.iloadN X35.here hx rfl (hb hby d1_268) rfl  k) ?_
  refine G1 (fun _ k => XS.iadd X35.here hx rfl (hb hby d1_269) rfl k) ?_
  show Goes _ _ _ _ _ _ _ (T35.setTop (mkF m 270 _ [(.int (17 : Int32)), (.ref x0)]))
  refine G1 (fun _ k => XS.lload X35.here hx rfl (hb hby d1_270) rfl  k) ?_
  obtain ⟨d38, hd38⟩ : ∃ z, FP.l2d lv12 = z := ⟨_, rfl⟩
  have fr38 : OwnF.Fr 0 (((((own_co x2 (1 : Int32)).toInt + (((4 : Int) * (own_co x2 (2 : Int32)).toInt) * x3.toInt)) + ((((12 : Int) * (own_co x2 (3 : Int32)).toInt) * x3.toInt) * x3.toInt)) + (((2 : Int) * x3.toInt) * (own_co x2 (4 : Int32)).toInt)) + ((((3 : Int) * (own_co x2 (5 : Int32)).toInt) * x3.toInt) * x3.toInt)) 2015744 d38 := by rw [← hd38]; exact own_frL Llv12 (by decide)
  refine G1 (fun _ k => XS.l2dS X35.here hx rfl (hb hby d1_272) rfl hd38 k) ?_
  show Goes _ _ _ _ _ _ _ (T35.setTop (mkF m 273 _ [(.double d38), (.int (17 : Int32)), (.ref x0)]))
  obtain ⟨cl39, Ar39, q39, S39, P39, H39, G39⟩ := id f36
  have hin39 : ¬ ((17 : Int32) < 0 ∨ cl39.slots.size ≤ ((17 : Int32)).toNatClampNeg) := inb_of S39 ⟨by decide, by decide⟩
  obtain ⟨T40, h40, X40, e40, W40, st40⟩ := stD X35 hx hZ e35 Ar39 (j := (17 : Int32)) hin39 (g := (mkF m 273 #[.val (.ref x0), .val (.int (2 : Int32)), .val (.long x2), nS, .val (.long x3), nS, .val (.long (own_co x2 (0 : Int32))), nS, .val (.long (own_co x2 (1 : Int32))), nS, .val (.long (own_co x2 (2 : Int32))), nS, .val (.long (own_co x2 (3 : Int32))), nS, .val (.long (own_co x2 (4 : Int32))), nS, .val (.long (own_co x2 (5 : Int32))), nS, .val (.long (own_co x2 (0 : Int32))), nS, .val (.long (own_co x2 (1 : Int32))), nS, .val (.long lv7), nS, .val (.long lv8), nS, .val (.long lv9), nS, .val (.long lv10), nS, .val (.long lv11), nS, .val (.long lv12), nS] [(.double d38), (.int (17 : Int32)), (.ref x0)])) rfl rfl (hb hby d1_273)
  refine G1 st40 ?_
  have V40 : Arv Z h40 x0 ka .double (18 : Int32) [(.double ve0), (.double ve1), (.double d13), (.double ve3), (.double ve4), (.double d18), (.double ve6), (.double ve7), (.double d23), (.double ve9), (.double ve10), (.double d28), (.double ve12), (.double ve13), (.double d33), (.double ve15), (.double ve16), (.double d38)] (.double (0 : UInt64)) := Arv.set Ar39 q39 S39 P39 H39 G39 rfl W40 17 rfl (Nat.le_of_ble_eq_true rfl)
  have f41 := V40
  have K42 : Keep h0 h40 [x0] := K37.wr W40 (Or.inl (List.mem_of_getElem? (i := 0) rfl))
  have Z42 : n0 ≤ h40.size := by rw [Wr.size W40]; exact Z37
  have N42 := Fr.snoc X40 N37 g_x0
  show Goes _ _ _ _ _ _ _ (T40.setTop (mkF m 274 _ []))
  exact Goes.retV X40 hx (BodyLoose.notSynchronized Bd) Bd.returns (hb hby d1_274) (by show Q1_2 Z x0 x2 x3 ka ve0 ve1 ve2 ve3 ve4 ve5 ve6 ve7 ve8 ve9 ve10 ve11 ve12 ve13 ve14 ve15 ve16 ve17 h0 n0 none T40.heap _; rw [e40]; exact ⟨N42, K42, rfl, d13, d18, d23, d28, d33, d38, (own_co x2 (0 : Int32)).toInt, (own_co x2 (1 : Int32)).toInt, ((((own_co x2 (0 : Int32)).toInt + ((own_co x2 (1 : Int32)).toInt * x3.toInt)) + (((own_co x2 (2 : Int32)).toInt * x3.toInt) * x3.toInt)) + ((((own_co x2 (3 : Int32)).toInt * x3.toInt) * x3.toInt) * x3.toInt)), (((own_co x2 (1 : Int32)).toInt + (((2 : Int) * (own_co x2 (2 : Int32)).toInt) * x3.toInt)) + ((((3 : Int) * (own_co x2 (3 : Int32)).toInt) * x3.toInt) * x3.toInt)), (((((own_co x2 (0 : Int32)).toInt + (((2 : Int) * (own_co x2 (1 : Int32)).toInt) * x3.toInt)) + ((((4 : Int) * (own_co x2 (2 : Int32)).toInt) * x3.toInt) * x3.toInt)) + (((((8 : Int) * (own_co x2 (3 : Int32)).toInt) * x3.toInt) * x3.toInt) * x3.toInt)) + ((x3.toInt * x3.toInt) * ((own_co x2 (4 : Int32)).toInt + ((own_co x2 (5 : Int32)).toInt * x3.toInt)))), (((((own_co x2 (1 : Int32)).toInt + (((4 : Int) * (own_co x2 (2 : Int32)).toInt) * x3.toInt)) + ((((12 : Int) * (own_co x2 (3 : Int32)).toInt) * x3.toInt) * x3.toInt)) + (((2 : Int) * x3.toInt) * (own_co x2 (4 : Int32)).toInt)) + ((((3 : Int) * (own_co x2 (5 : Int32)).toInt) * x3.toInt) * x3.toInt)), f41, rfl, fr13, rfl, fr18, rfl, fr23, rfl, fr28, rfl, fr33, rfl, fr38⟩) (by decide) (by decide)
theorem own_vel0_0 {jv si vg0 vP0 vP3 vP6 vP9 : Int} (h : vP6 = vP0 + vg0 * si) : (((((((6 : Int) * (jv * jv)) - (((6 : Int) * jv) * ((2 ^ 3 : Nat) : Int))) * vP0) + (((((3 : Int) * (jv * jv)) - (((4 : Int) * jv) * ((2 ^ 3 : Nat) : Int))) + ((1 : Int) * ((2 ^ 6 : Nat) : Int))) * (vP3 * si))) + ((((-6 : Int) * (jv * jv)) + (((6 : Int) * jv) * ((2 ^ 3 : Nat) : Int))) * vP6)) + ((((3 : Int) * (jv * jv)) - (((2 : Int) * jv) * ((2 ^ 3 : Nat) : Int))) * (vP9 * si))) = ((((((-6 : Int) * (jv * jv)) + (((6 : Int) * jv) * ((2 ^ 3 : Nat) : Int))) * vg0) + (((((3 : Int) * (jv * jv)) - (((4 : Int) * jv) * ((2 ^ 3 : Nat) : Int))) + ((1 : Int) * ((2 ^ 6 : Nat) : Int))) * vP3)) + ((((3 : Int) * (jv * jv)) - (((2 : Int) * jv) * ((2 ^ 3 : Nat) : Int))) * vP9)) * si := by
  subst h
  grind
theorem own_vel0_1 {jv si vg1 vP1 vP4 vP7 vP10 : Int} (h : vP7 = vP1 + vg1 * si) : (((((((6 : Int) * (jv * jv)) - (((6 : Int) * jv) * ((2 ^ 3 : Nat) : Int))) * vP1) + (((((3 : Int) * (jv * jv)) - (((4 : Int) * jv) * ((2 ^ 3 : Nat) : Int))) + ((1 : Int) * ((2 ^ 6 : Nat) : Int))) * (vP4 * si))) + ((((-6 : Int) * (jv * jv)) + (((6 : Int) * jv) * ((2 ^ 3 : Nat) : Int))) * vP7)) + ((((3 : Int) * (jv * jv)) - (((2 : Int) * jv) * ((2 ^ 3 : Nat) : Int))) * (vP10 * si))) = ((((((-6 : Int) * (jv * jv)) + (((6 : Int) * jv) * ((2 ^ 3 : Nat) : Int))) * vg1) + (((((3 : Int) * (jv * jv)) - (((4 : Int) * jv) * ((2 ^ 3 : Nat) : Int))) + ((1 : Int) * ((2 ^ 6 : Nat) : Int))) * vP4)) + ((((3 : Int) * (jv * jv)) - (((2 : Int) * jv) * ((2 ^ 3 : Nat) : Int))) * vP10)) * si := by
  subst h
  grind
theorem own_vel0_2 {jv si vg2 vP2 vP5 vP8 vP11 : Int} (h : vP8 = vP2 + vg2 * si) : (((((((6 : Int) * (jv * jv)) - (((6 : Int) * jv) * ((2 ^ 3 : Nat) : Int))) * vP2) + (((((3 : Int) * (jv * jv)) - (((4 : Int) * jv) * ((2 ^ 3 : Nat) : Int))) + ((1 : Int) * ((2 ^ 6 : Nat) : Int))) * (vP5 * si))) + ((((-6 : Int) * (jv * jv)) + (((6 : Int) * jv) * ((2 ^ 3 : Nat) : Int))) * vP8)) + ((((3 : Int) * (jv * jv)) - (((2 : Int) * jv) * ((2 ^ 3 : Nat) : Int))) * (vP11 * si))) = ((((((-6 : Int) * (jv * jv)) + (((6 : Int) * jv) * ((2 ^ 3 : Nat) : Int))) * vg2) + (((((3 : Int) * (jv * jv)) - (((4 : Int) * jv) * ((2 ^ 3 : Nat) : Int))) + ((1 : Int) * ((2 ^ 6 : Nat) : Int))) * vP5)) + ((((3 : Int) * (jv * jv)) - (((2 : Int) * jv) * ((2 ^ 3 : Nat) : Int))) * vP11)) * si := by
  subst h
  grind
theorem d5_0 : decode prog_63_method_5_code 0 = .ok (.dload_n 1, 1) := by decide +kernel
theorem d5_1 : decode prog_63_method_5_code 1 = .ok (.aload_n 0, 1) := by decide +kernel
theorem d5_2 : decode prog_63_method_5_code 2 = .ok (.getfield 16, 3) := by decide +kernel
theorem d5_5 : decode prog_63_method_5_code 5 = .ok (.ddiv, 1) := by decide +kernel
theorem d5_6 : decode prog_63_method_5_code 6 = .ok (.dconst 0, 1) := by decide +kernel
theorem d5_7 : decode prog_63_method_5_code 7 = .ok (.invokestatic 34, 3) := by decide +kernel
theorem d5_10 : decode prog_63_method_5_code 10 = .ok (.aload_n 0, 1) := by decide +kernel
theorem d5_11 : decode prog_63_method_5_code 11 = .ok (.getfield 24, 3) := by decide +kernel
theorem d5_14 : decode prog_63_method_5_code 14 = .ok (.iconst 1, 1) := by decide +kernel
theorem d5_15 : decode prog_63_method_5_code 15 = .ok (.isub, 1) := by decide +kernel
theorem d5_16 : decode prog_63_method_5_code 16 = .ok (.i2d, 1) := by decide +kernel
theorem d5_17 : decode prog_63_method_5_code 17 = .ok (.invokestatic 40, 3) := by decide +kernel
theorem d5_20 : decode prog_63_method_5_code 20 = .ok (.dstore 4, 2) := by decide +kernel
theorem d5_22 : decode prog_63_method_5_code 22 = .ok (.dload 4, 2) := by decide +kernel
theorem d5_24 : decode prog_63_method_5_code 24 = .ok (.d2i, 1) := by decide +kernel
theorem d5_25 : decode prog_63_method_5_code 25 = .ok (.aload_n 0, 1) := by decide +kernel
theorem d5_26 : decode prog_63_method_5_code 26 = .ok (.getfield 24, 3) := by decide +kernel
theorem d5_29 : decode prog_63_method_5_code 29 = .ok (.iconst 2, 1) := by decide +kernel
theorem d5_30 : decode prog_63_method_5_code 30 = .ok (.isub, 1) := by decide +kernel
theorem d5_31 : decode prog_63_method_5_code 31 = .ok (.invokestatic 43, 3) := by decide +kernel
theorem d5_34 : decode prog_63_method_5_code 34 = .ok (.istore 6, 2) := by decide +kernel
theorem d5_36 : decode prog_63_method_5_code 36 = .ok (.dload 4, 2) := by decide +kernel
theorem d5_38 : decode prog_63_method_5_code 38 = .ok (.iload 6, 2) := by decide +kernel
theorem d5_40 : decode prog_63_method_5_code 40 = .ok (.i2d, 1) := by decide +kernel
theorem d5_41 : decode prog_63_method_5_code 41 = .ok (.dsub, 1) := by decide +kernel
theorem d5_42 : decode prog_63_method_5_code 42 = .ok (.dstore 7, 2) := by decide +kernel
theorem d5_44 : decode prog_63_method_5_code 44 = .ok (.dload 7, 2) := by decide +kernel
theorem d5_46 : decode prog_63_method_5_code 46 = .ok (.dload 7, 2) := by decide +kernel
theorem d5_48 : decode prog_63_method_5_code 48 = .ok (.dmul, 1) := by decide +kernel
theorem d5_49 : decode prog_63_method_5_code 49 = .ok (.dstore 9, 2) := by decide +kernel
theorem d5_51 : decode prog_63_method_5_code 51 = .ok (.dload 9, 2) := by decide +kernel
theorem d5_53 : decode prog_63_method_5_code 53 = .ok (.dload 7, 2) := by decide +kernel
theorem d5_55 : decode prog_63_method_5_code 55 = .ok (.dmul, 1) := by decide +kernel
theorem d5_56 : decode prog_63_method_5_code 56 = .ok (.dstore 11, 2) := by decide +kernel
theorem d5_58 : decode prog_63_method_5_code 58 = .ok (.ldc2_w 46, 3) := by decide +kernel
theorem d5_61 : decode prog_63_method_5_code 61 = .ok (.dload 11, 2) := by decide +kernel
theorem d5_63 : decode prog_63_method_5_code 63 = .ok (.dmul, 1) := by decide +kernel
theorem d5_64 : decode prog_63_method_5_code 64 = .ok (.ldc2_w 48, 3) := by decide +kernel
theorem d5_67 : decode prog_63_method_5_code 67 = .ok (.dload 9, 2) := by decide +kernel
theorem d5_69 : decode prog_63_method_5_code 69 = .ok (.dmul, 1) := by decide +kernel
theorem d5_70 : decode prog_63_method_5_code 70 = .ok (.dsub, 1) := by decide +kernel
theorem d5_71 : decode prog_63_method_5_code 71 = .ok (.dconst 1, 1) := by decide +kernel
theorem d5_72 : decode prog_63_method_5_code 72 = .ok (.dadd, 1) := by decide +kernel
theorem d5_73 : decode prog_63_method_5_code 73 = .ok (.dstore 13, 2) := by decide +kernel
theorem d5_75 : decode prog_63_method_5_code 75 = .ok (.dload 11, 2) := by decide +kernel
theorem d5_77 : decode prog_63_method_5_code 77 = .ok (.ldc2_w 46, 3) := by decide +kernel
theorem d5_80 : decode prog_63_method_5_code 80 = .ok (.dload 9, 2) := by decide +kernel
theorem d5_82 : decode prog_63_method_5_code 82 = .ok (.dmul, 1) := by decide +kernel
theorem d5_83 : decode prog_63_method_5_code 83 = .ok (.dsub, 1) := by decide +kernel
theorem d5_84 : decode prog_63_method_5_code 84 = .ok (.dload 7, 2) := by decide +kernel
theorem d5_86 : decode prog_63_method_5_code 86 = .ok (.dadd, 1) := by decide +kernel
theorem d5_87 : decode prog_63_method_5_code 87 = .ok (.dstore 15, 2) := by decide +kernel
theorem d5_89 : decode prog_63_method_5_code 89 = .ok (.ldc2_w 50, 3) := by decide +kernel
theorem d5_92 : decode prog_63_method_5_code 92 = .ok (.dload 11, 2) := by decide +kernel
theorem d5_94 : decode prog_63_method_5_code 94 = .ok (.dmul, 1) := by decide +kernel
theorem d5_95 : decode prog_63_method_5_code 95 = .ok (.ldc2_w 48, 3) := by decide +kernel
theorem d5_98 : decode prog_63_method_5_code 98 = .ok (.dload 9, 2) := by decide +kernel
theorem d5_100 : decode prog_63_method_5_code 100 = .ok (.dmul, 1) := by decide +kernel
theorem d5_101 : decode prog_63_method_5_code 101 = .ok (.dadd, 1) := by decide +kernel
theorem d5_102 : decode prog_63_method_5_code 102 = .ok (.dstore 17, 2) := by decide +kernel
theorem d5_104 : decode prog_63_method_5_code 104 = .ok (.dload 11, 2) := by decide +kernel
theorem d5_106 : decode prog_63_method_5_code 106 = .ok (.dload 9, 2) := by decide +kernel
theorem d5_108 : decode prog_63_method_5_code 108 = .ok (.dsub, 1) := by decide +kernel
theorem d5_109 : decode prog_63_method_5_code 109 = .ok (.dstore 19, 2) := by decide +kernel
theorem d5_111 : decode prog_63_method_5_code 111 = .ok (.ldc2_w 52, 3) := by decide +kernel
theorem d5_114 : decode prog_63_method_5_code 114 = .ok (.dload 9, 2) := by decide +kernel
theorem d5_116 : decode prog_63_method_5_code 116 = .ok (.dmul, 1) := by decide +kernel
theorem d5_117 : decode prog_63_method_5_code 117 = .ok (.ldc2_w 52, 3) := by decide +kernel
theorem d5_120 : decode prog_63_method_5_code 120 = .ok (.dload 7, 2) := by decide +kernel
theorem d5_122 : decode prog_63_method_5_code 122 = .ok (.dmul, 1) := by decide +kernel
theorem d5_123 : decode prog_63_method_5_code 123 = .ok (.dsub, 1) := by decide +kernel
theorem d5_124 : decode prog_63_method_5_code 124 = .ok (.dstore 21, 2) := by decide +kernel
theorem d5_126 : decode prog_63_method_5_code 126 = .ok (.ldc2_w 48, 3) := by decide +kernel
theorem d5_129 : decode prog_63_method_5_code 129 = .ok (.dload 9, 2) := by decide +kernel
theorem d5_131 : decode prog_63_method_5_code 131 = .ok (.dmul, 1) := by decide +kernel
theorem d5_132 : decode prog_63_method_5_code 132 = .ok (.ldc2_w 54, 3) := by decide +kernel
theorem d5_135 : decode prog_63_method_5_code 135 = .ok (.dload 7, 2) := by decide +kernel
theorem d5_137 : decode prog_63_method_5_code 137 = .ok (.dmul, 1) := by decide +kernel
theorem d5_138 : decode prog_63_method_5_code 138 = .ok (.dsub, 1) := by decide +kernel
theorem d5_139 : decode prog_63_method_5_code 139 = .ok (.dconst 1, 1) := by decide +kernel
theorem d5_140 : decode prog_63_method_5_code 140 = .ok (.dadd, 1) := by decide +kernel
theorem d5_141 : decode prog_63_method_5_code 141 = .ok (.dstore 23, 2) := by decide +kernel
theorem d5_143 : decode prog_63_method_5_code 143 = .ok (.ldc2_w 56, 3) := by decide +kernel
theorem d5_146 : decode prog_63_method_5_code 146 = .ok (.dload 9, 2) := by decide +kernel
theorem d5_148 : decode prog_63_method_5_code 148 = .ok (.dmul, 1) := by decide +kernel
theorem d5_149 : decode prog_63_method_5_code 149 = .ok (.ldc2_w 52, 3) := by decide +kernel
theorem d5_152 : decode prog_63_method_5_code 152 = .ok (.dload 7, 2) := by decide +kernel
theorem d5_154 : decode prog_63_method_5_code 154 = .ok (.dmul, 1) := by decide +kernel
theorem d5_155 : decode prog_63_method_5_code 155 = .ok (.dadd, 1) := by decide +kernel
theorem d5_156 : decode prog_63_method_5_code 156 = .ok (.dstore 25, 2) := by decide +kernel
theorem d5_158 : decode prog_63_method_5_code 158 = .ok (.ldc2_w 48, 3) := by decide +kernel
theorem d5_161 : decode prog_63_method_5_code 161 = .ok (.dload 9, 2) := by decide +kernel
theorem d5_163 : decode prog_63_method_5_code 163 = .ok (.dmul, 1) := by decide +kernel
theorem d5_164 : decode prog_63_method_5_code 164 = .ok (.ldc2_w 46, 3) := by decide +kernel
theorem d5_167 : decode prog_63_method_5_code 167 = .ok (.dload 7, 2) := by decide +kernel
theorem d5_169 : decode prog_63_method_5_code 169 = .ok (.dmul, 1) := by decide +kernel
theorem d5_170 : decode prog_63_method_5_code 170 = .ok (.dsub, 1) := by decide +kernel
theorem d5_171 : decode prog_63_method_5_code 171 = .ok (.dstore 27, 2) := by decide +kernel
theorem d5_173 : decode prog_63_method_5_code 173 = .ok (.iload 6, 2) := by decide +kernel
theorem d5_175 : decode prog_63_method_5_code 175 = .ok (.bipush 6, 2) := by decide +kernel
theorem d5_177 : decode prog_63_method_5_code 177 = .ok (.imul, 1) := by decide +kernel
theorem d5_178 : decode prog_63_method_5_code 178 = .ok (.istore 29, 2) := by decide +kernel
theorem d5_180 : decode prog_63_method_5_code 180 = .ok (.iload 29, 2) := by decide +kernel
theorem d5_182 : decode prog_63_method_5_code 182 = .ok (.bipush 6, 2) := by decide +kernel
theorem d5_184 : decode prog_63_method_5_code 184 = .ok (.iadd, 1) := by decide +kernel
theorem d5_185 : decode prog_63_method_5_code 185 = .ok (.istore 30, 2) := by decide +kernel
theorem d5_187 : decode prog_63_method_5_code 187 = .ok (.iconst 0, 1) := by decide +kernel
theorem d5_188 : decode prog_63_method_5_code 188 = .ok (.istore 31, 2) := by decide +kernel
theorem d5_190 : decode prog_63_method_5_code 190 = .ok (.iload 31, 2) := by decide +kernel
theorem d5_192 : decode prog_63_method_5_code 192 = .ok (.iconst 3, 1) := by decide +kernel
theorem d5_193 : decode prog_63_method_5_code 193 = .ok (.if_icmp .ge 132, 3) := by decide +kernel
theorem d5_196 : decode prog_63_method_5_code 196 = .ok (.aload_n 0, 1) := by decide +kernel
theorem d5_197 : decode prog_63_method_5_code 197 = .ok (.getfield 20, 3) := by decide +kernel
theorem d5_200 : decode prog_63_method_5_code 200 = .ok (.iload 29, 2) := by decide +kernel
theorem d5_202 : decode prog_63_method_5_code 202 = .ok (.iload 31, 2) := by decide +kernel
theorem d5_204 : decode prog_63_method_5_code 204 = .ok (.iadd, 1) := by decide +kernel
theorem d5_205 : decode prog_63_method_5_code 205 = .ok (.daload, 1) := by decide +kernel
theorem d5_206 : decode prog_63_method_5_code 206 = .ok (.dstore 32, 2) := by decide +kernel
theorem d5_208 : decode prog_63_method_5_code 208 = .ok (.aload_n 0, 1) := by decide +kernel
theorem d5_209 : decode prog_63_method_5_code 209 = .ok (.getfield 20, 3) := by decide +kernel
theorem d5_212 : decode prog_63_method_5_code 212 = .ok (.iload 29, 2) := by decide +kernel
theorem d5_214 : decode prog_63_method_5_code 214 = .ok (.iconst 3, 1) := by decide +kernel
theorem d5_215 : decode prog_63_method_5_code 215 = .ok (.iadd, 1) := by decide +kernel
theorem d5_216 : decode prog_63_method_5_code 216 = .ok (.iload 31, 2) := by decide +kernel
theorem d5_218 : decode prog_63_method_5_code 218 = .ok (.iadd, 1) := by decide +kernel
theorem d5_219 : decode prog_63_method_5_code 219 = .ok (.daload, 1) := by decide +kernel
theorem d5_220 : decode prog_63_method_5_code 220 = .ok (.aload_n 0, 1) := by decide +kernel
theorem d5_221 : decode prog_63_method_5_code 221 = .ok (.getfield 16, 3) := by decide +kernel
theorem d5_224 : decode prog_63_method_5_code 224 = .ok (.dmul, 1) := by decide +kernel
theorem d5_225 : decode prog_63_method_5_code 225 = .ok (.dstore 34, 2) := by decide +kernel
theorem d5_227 : decode prog_63_method_5_code 227 = .ok (.aload_n 0, 1) := by decide +kernel
theorem d5_228 : decode prog_63_method_5_code 228 = .ok (.getfield 20, 3) := by decide +kernel
theorem d5_231 : decode prog_63_method_5_code 231 = .ok (.iload 30, 2) := by decide +kernel
theorem d5_233 : decode prog_63_method_5_code 233 = .ok (.iload 31, 2) := by decide +kernel
theorem d5_235 : decode prog_63_method_5_code 235 = .ok (.iadd, 1) := by decide +kernel
theorem d5_236 : decode prog_63_method_5_code 236 = .ok (.daload, 1) := by decide +kernel
theorem d5_237 : decode prog_63_method_5_code 237 = .ok (.dstore 36, 2) := by decide +kernel
theorem d5_239 : decode prog_63_method_5_code 239 = .ok (.aload_n 0, 1) := by decide +kernel
theorem d5_240 : decode prog_63_method_5_code 240 = .ok (.getfield 20, 3) := by decide +kernel
theorem d5_243 : decode prog_63_method_5_code 243 = .ok (.iload 30, 2) := by decide +kernel
theorem d5_245 : decode prog_63_method_5_code 245 = .ok (.iconst 3, 1) := by decide +kernel
theorem d5_246 : decode prog_63_method_5_code 246 = .ok (.iadd, 1) := by decide +kernel
theorem d5_247 : decode prog_63_method_5_code 247 = .ok (.iload 31, 2) := by decide +kernel
theorem d5_249 : decode prog_63_method_5_code 249 = .ok (.iadd, 1) := by decide +kernel
theorem d5_250 : decode prog_63_method_5_code 250 = .ok (.daload, 1) := by decide +kernel
theorem d5_251 : decode prog_63_method_5_code 251 = .ok (.aload_n 0, 1) := by decide +kernel
theorem d5_252 : decode prog_63_method_5_code 252 = .ok (.getfield 16, 3) := by decide +kernel
theorem d5_255 : decode prog_63_method_5_code 255 = .ok (.dmul, 1) := by decide +kernel
theorem d5_256 : decode prog_63_method_5_code 256 = .ok (.dstore 38, 2) := by decide +kernel
theorem d5_258 : decode prog_63_method_5_code 258 = .ok (.aload_n 3, 1) := by decide +kernel
theorem d5_259 : decode prog_63_method_5_code 259 = .ok (.iload 31, 2) := by decide +kernel
theorem d5_261 : decode prog_63_method_5_code 261 = .ok (.dload 13, 2) := by decide +kernel
theorem d5_263 : decode prog_63_method_5_code 263 = .ok (.dload 32, 2) := by decide +kernel
theorem d5_265 : decode prog_63_method_5_code 265 = .ok (.dmul, 1) := by decide +kernel
theorem d5_266 : decode prog_63_method_5_code 266 = .ok (.dload 15, 2) := by decide +kernel
theorem d5_268 : decode prog_63_method_5_code 268 = .ok (.dload 34, 2) := by decide +kernel
theorem d5_270 : decode prog_63_method_5_code 270 = .ok (.dmul, 1) := by decide +kernel
theorem d5_271 : decode prog_63_method_5_code 271 = .ok (.dadd, 1) := by decide +kernel
theorem d5_272 : decode prog_63_method_5_code 272 = .ok (.dload 17, 2) := by decide +kernel
theorem d5_274 : decode prog_63_method_5_code 274 = .ok (.dload 36, 2) := by decide +kernel
theorem d5_276 : decode prog_63_method_5_code 276 = .ok (.dmul, 1) := by decide +kernel
theorem d5_277 : decode prog_63_method_5_code 277 = .ok (.dadd, 1) := by decide +kernel
theorem d5_278 : decode prog_63_method_5_code 278 = .ok (.dload 19, 2) := by decide +kernel
theorem d5_280 : decode prog_63_method_5_code 280 = .ok (.dload 38, 2) := by decide +kernel
theorem d5_282 : decode prog_63_method_5_code 282 = .ok (.dmul, 1) := by decide +kernel
theorem d5_283 : decode prog_63_method_5_code 283 = .ok (.dadd, 1) := by decide +kernel
theorem d5_284 : decode prog_63_method_5_code 284 = .ok (.dastore, 1) := by decide +kernel
theorem d5_285 : decode prog_63_method_5_code 285 = .ok (.aload_n 3, 1) := by decide +kernel
theorem d5_286 : decode prog_63_method_5_code 286 = .ok (.iconst 3, 1) := by decide +kernel
theorem d5_287 : decode prog_63_method_5_code 287 = .ok (.iload 31, 2) := by decide +kernel
theorem d5_289 : decode prog_63_method_5_code 289 = .ok (.iadd, 1) := by decide +kernel
theorem d5_290 : decode prog_63_method_5_code 290 = .ok (.dload 21, 2) := by decide +kernel
theorem d5_292 : decode prog_63_method_5_code 292 = .ok (.dload 32, 2) := by decide +kernel
theorem d5_294 : decode prog_63_method_5_code 294 = .ok (.dmul, 1) := by decide +kernel
theorem d5_295 : decode prog_63_method_5_code 295 = .ok (.dload 23, 2) := by decide +kernel
theorem d5_297 : decode prog_63_method_5_code 297 = .ok (.dload 34, 2) := by decide +kernel
theorem d5_299 : decode prog_63_method_5_code 299 = .ok (.dmul, 1) := by decide +kernel
theorem d5_300 : decode prog_63_method_5_code 300 = .ok (.dadd, 1) := by decide +kernel
theorem d5_301 : decode prog_63_method_5_code 301 = .ok (.dload 25, 2) := by decide +kernel
theorem d5_303 : decode prog_63_method_5_code 303 = .ok (.dload 36, 2) := by decide +kernel
theorem d5_305 : decode prog_63_method_5_code 305 = .ok (.dmul, 1) := by decide +kernel
theorem d5_306 : decode prog_63_method_5_code 306 = .ok (.dadd, 1) := by decide +kernel
theorem d5_307 : decode prog_63_method_5_code 307 = .ok (.dload 27, 2) := by decide +kernel
theorem d5_309 : decode prog_63_method_5_code 309 = .ok (.dload 38, 2) := by decide +kernel
theorem d5_311 : decode prog_63_method_5_code 311 = .ok (.dmul, 1) := by decide +kernel
theorem d5_312 : decode prog_63_method_5_code 312 = .ok (.dadd, 1) := by decide +kernel
theorem d5_313 : decode prog_63_method_5_code 313 = .ok (.aload_n 0, 1) := by decide +kernel
theorem d5_314 : decode prog_63_method_5_code 314 = .ok (.getfield 16, 3) := by decide +kernel
theorem d5_317 : decode prog_63_method_5_code 317 = .ok (.ddiv, 1) := by decide +kernel
theorem d5_318 : decode prog_63_method_5_code 318 = .ok (.dastore, 1) := by decide +kernel
theorem d5_319 : decode prog_63_method_5_code 319 = .ok (.iinc 31 1, 3) := by decide +kernel
theorem d5_322 : decode prog_63_method_5_code 322 = .ok (.goto (-132), 3) := by decide +kernel
theorem d5_325 : decode prog_63_method_5_code 325 = .ok (.return_, 1) := by decide +kernel
theorem pn_5 : plainName "com/example/orbitloom/orbitloom/orbits/Track" = true := by first | (simp [plainName, overriddenIn]; done) | decide +kernel
theorem ef_5_0 (m : MethodId) (x0 : Addr) (tm : UInt64) (x2 : Addr) (sa : Addr) (ka : ClassId) (kb : ClassId) (stp : UInt64) (ve0 : UInt64) (ve1 : UInt64) (ve2 : UInt64) (ve3 : UInt64) (ve4 : UInt64) (ve5 : UInt64) (ve6 : UInt64) (ve7 : UInt64) (ve8 : UInt64) (ve9 : UInt64) (ve10 : UInt64) (ve11 : UInt64) (ve12 : UInt64) (ve13 : UInt64) (ve14 : UInt64) (ve15 : UInt64) (ve16 : UInt64) (ve17 : UInt64) (vu0 : UInt64) (vu1 : UInt64) (vu2 : UInt64) (vu3 : UInt64) (vu4 : UInt64) (vu5 : UInt64) (ki : Int) (si : Int) (kc : Int) (jv : Int) (vP0 : Int) (vP1 : Int) (vP2 : Int) (vP3 : Int) (vP4 : Int) (vP5 : Int) (vP6 : Int) (vP7 : Int) (vP8 : Int) (vP9 : Int) (vP10 : Int) (vP11 : Int) (vg0 : Int) (vg1 : Int) (vg2 : Int)  : entryFrame m #[(.ref x0), (.double tm), (.ref x2)] 40 = mkF m 0 #[.val (.ref x0), .val (.double tm), .second, .val (.ref x2), .unset, .unset, .unset, .unset, .unset, .unset, .unset, .unset, .unset, .unset, .unset, .unset, .unset, .unset, .unset, .unset, .unset, .unset, .unset, .unset, .unset, .unset, .unset, .unset, .unset, .unset, .unset, .unset, .unset, .unset, .unset, .unset, .unset, .unset, .unset, .unset] [] := by first | (simp [entryFrame, mkF, argsToLocals, Value.category]; done) | rfl
theorem pd_4 : parseMethodDescriptor "(DD)D" = some ⟨[.double, .double], some .double⟩ := by decide +kernel
theorem pd_5 : parseMethodDescriptor "(II)I" = some ⟨[.int, .int], some .int⟩ := by decide +kernel
def Q5_0 (Z : State) (x0 : Addr) (tm : UInt64) (x2 : Addr) (sa : Addr) (ka : ClassId) (kb : ClassId) (stp : UInt64) (ve0 : UInt64) (ve1 : UInt64) (ve2 : UInt64) (ve3 : UInt64) (ve4 : UInt64) (ve5 : UInt64) (ve6 : UInt64) (ve7 : UInt64) (ve8 : UInt64) (ve9 : UInt64) (ve10 : UInt64) (ve11 : UInt64) (ve12 : UInt64) (ve13 : UInt64) (ve14 : UInt64) (ve15 : UInt64) (ve16 : UInt64) (ve17 : UInt64) (vu0 : UInt64) (vu1 : UInt64) (vu2 : UInt64) (vu3 : UInt64) (vu4 : UInt64) (vu5 : UInt64) (ki : Int) (si : Int) (kc : Int) (jv : Int) (vP0 : Int) (vP1 : Int) (vP2 : Int) (vP3 : Int) (vP4 : Int) (vP5 : Int) (vP6 : Int) (vP7 : Int) (vP8 : Int) (vP9 : Int) (vP10 : Int) (vP11 : Int) (vg0 : Int) (vg1 : Int) (vg2 : Int) (h0 : Heap) (n0 : Nat) (v : Option Value) (h : Heap) (L : List Loc) : Prop := Fr n0 L ∧ Keep h0 h [x2] ∧ v = none ∧ ∃ (q0 q1 q2 q3 q4 q5 : UInt64) (I0 I1 I2 I3 I4 I5 : Int), Arv Z h x2 kb .double (6 : Int32) [(.double q0), (.double q1), (.double q2), (.double q3), (.double q4), (.double q5)] (.double (0 : UInt64)) ∧ I0 = ((((((((2 : Int) * ((jv * jv) * jv)) - (((3 : Int) * (jv * jv)) * ((2 ^ 3 : Nat) : Int))) + ((1 : Int) * ((2 ^ 9 : Nat) : Int))) * vP0) + (((((jv * jv) * jv) - (((2 : Int) * (jv * jv)) * ((2 ^ 3 : Nat) : Int))) + (jv * ((2 ^ 6 : Nat) : Int))) * (vP3 * si))) + ((((-2 : Int) * ((jv * jv) * jv)) + (((3 : Int) * (jv * jv)) * ((2 ^ 3 : Nat) : Int))) * vP6)) + ((((jv * jv) * jv) - ((jv * jv) * ((2 ^ 3 : Nat) : Int))) * (vP9 * si))) ∧ OwnF.Fr 9 I0 1494648619008 q0 ∧ I1 = ((((((((2 : Int) * ((jv * jv) * jv)) - (((3 : Int) * (jv * jv)) * ((2 ^ 3 : Nat) : Int))) + ((1 : Int) * ((2 ^ 9 : Nat) : Int))) * vP1) + (((((jv * jv) * jv) - (((2 : Int) * (jv * jv)) * ((2 ^ 3 : Nat) : Int))) + (jv * ((2 ^ 6 : Nat) : Int))) * (vP4 * si))) + ((((-2 : Int) * ((jv * jv) * jv)) + (((3 : Int) * (jv * jv)) * ((2 ^ 3 : Nat) : Int))) * vP7)) + ((((jv * jv) * jv) - ((jv * jv) * ((2 ^ 3 : Nat) : Int))) * (vP10 * si))) ∧ OwnF.Fr 9 I1 1494648619008 q1 ∧ I2 = ((((((((2 : Int) * ((jv * jv) * jv)) - (((3 : Int) * (jv * jv)) * ((2 ^ 3 : Nat) : Int))) + ((1 : Int) * ((2 ^ 9 : Nat) : Int))) * vP2) + (((((jv * jv) * jv) - (((2 : Int) * (jv * jv)) * ((2 ^ 3 : Nat) : Int))) + (jv * ((2 ^ 6 : Nat) : Int))) * (vP5 * si))) + ((((-2 : Int) * ((jv * jv) * jv)) + (((3 : Int) * (jv * jv)) * ((2 ^ 3 : Nat) : Int))) * vP8)) + ((((jv * jv) * jv) - ((jv * jv) * ((2 ^ 3 : Nat) : Int))) * (vP11 * si))) ∧ OwnF.Fr 9 I2 1494648619008 q2 ∧ I3 = ((((((-6 : Int) * (jv * jv)) + (((6 : Int) * jv) * ((2 ^ 3 : Nat) : Int))) * vg0) + (((((3 : Int) * (jv * jv)) - (((4 : Int) * jv) * ((2 ^ 3 : Nat) : Int))) + ((1 : Int) * ((2 ^ 6 : Nat) : Int))) * vP3)) + ((((3 : Int) * (jv * jv)) - (((2 : Int) * jv) * ((2 ^ 3 : Nat) : Int))) * vP9)) ∧ OwnF.Fr 6 I3 43620761600 q3 ∧ I4 = ((((((-6 : Int) * (jv * jv)) + (((6 : Int) * jv) * ((2 ^ 3 : Nat) : Int))) * vg1) + (((((3 : Int) * (jv * jv)) - (((4 : Int) * jv) * ((2 ^ 3 : Nat) : Int))) + ((1 : Int) * ((2 ^ 6 : Nat) : Int))) * vP4)) + ((((3 : Int) * (jv * jv)) - (((2 : Int) * jv) * ((2 ^ 3 : Nat) : Int))) * vP10)) ∧ OwnF.Fr 6 I4 43620761600 q4 ∧ I5 = ((((((-6 : Int) * (jv * jv)) + (((6 : Int) * jv) * ((2 ^ 3 : Nat) : Int))) * vg2) + (((((3 : Int) * (jv * jv)) - (((4 : Int) * jv) * ((2 ^ 3 : Nat) : Int))) + ((1 : Int) * ((2 ^ 6 : Nat) : Int))) * vP5)) + ((((3 : Int) * (jv * jv)) - (((2 : Int) * jv) * ((2 ^ 3 : Nat) : Int))) * vP11)) ∧ OwnF.Fr 6 I5 43620761600 q5
set_option maxRecDepth 65536 in
set_option maxHeartbeats 40000000 in
theorem rm5_0 (l : Launch) (Z : State) (a0 : Array Value) (hw : ∀ d ∈ tables_1, d.before a0 Z = true) (ws : List Jvm.Cond) (x0 : Addr) (tm : UInt64) (x2 : Addr) (sa : Addr) (ka : ClassId) (kb : ClassId) (stp : UInt64) (ve0 : UInt64) (ve1 : UInt64) (ve2 : UInt64) (ve3 : UInt64) (ve4 : UInt64) (ve5 : UInt64) (ve6 : UInt64) (ve7 : UInt64) (ve8 : UInt64) (ve9 : UInt64) (ve10 : UInt64) (ve11 : UInt64) (ve12 : UInt64) (ve13 : UInt64) (ve14 : UInt64) (ve15 : UInt64) (ve16 : UInt64) (ve17 : UInt64) (vu0 : UInt64) (vu1 : UInt64) (vu2 : UInt64) (vu3 : UInt64) (vu4 : UInt64) (vu5 : UInt64) (ki : Int) (si : Int) (kc : Int) (jv : Int) (vP0 : Int) (vP1 : Int) (vP2 : Int) (vP3 : Int) (vP4 : Int) (vP5 : Int) (vP6 : Int) (vP7 : Int) (vP8 : Int) (vP9 : Int) (vP10 : Int) (vP11 : Int) (vg0 : Int) (vg1 : Int) (vg2 : Int) (h0 : Heap) (n0 : Nat) (Z0 : n0 ≤ h0.size) (F_step : Fld Z h0 x0 "com/example/orbitloom/orbitloom/orbits/Track" "step" "D" (.double stp)) (F_sam : Fld Z h0 x0 "com/example/orbitloom/orbitloom/orbits/Track" "samples" "[D" (.ref sa)) (F_size : Fld Z h0 x0 "com/example/orbitloom/orbitloom/orbits/Track" "size" "I" (.int (3 : Int32))) (V_sa : Arv Z h0 sa ka .double (18 : Int32) [(.double ve0), (.double ve1), (.double ve2), (.double ve3), (.double ve4), (.double ve5), (.double ve6), (.double ve7), (.double ve8), (.double ve9), (.double ve10), (.double ve11), (.double ve12), (.double ve13), (.double ve14), (.double ve15), (.double ve16), (.double ve17)] (.double (0 : UInt64))) (V_x2 : Arv Z h0 x2 kb .double (6 : Int32) [(.double vu0), (.double vu1), (.double vu2), (.double vu3), (.double vu4), (.double vu5)] (.double (0 : UInt64))) (g_x2 : n0 ≤ x2) (ne1 : x0 ≠ x2) (ne2 : sa ≠ x2) (ft : OwnF.Fr 3 (ki * si) 34359738368 tm) (fs : OwnF.Fr 0 si 16 stp) (hs1 : 0 < si) (hkb : ki.natAbs ≤ 2147483648) (hkc : kc = min (max ki 0) 16) (hseg : kc < 8) (hjv : jv = kc - 0) (fP0 : OwnF.Fr 0 vP0 33554432 ve0) (fP1 : OwnF.Fr 0 vP1 33554432 ve1) (fP2 : OwnF.Fr 0 vP2 33554432 ve2) (fP3 : OwnF.Fr 0 vP3 2097152 ve3) (fP4 : OwnF.Fr 0 vP4 2097152 ve4) (fP5 : OwnF.Fr 0 vP5 2097152 ve5) (fP6 : OwnF.Fr 0 vP6 33554432 ve6) (fP7 : OwnF.Fr 0 vP7 33554432 ve7) (fP8 : OwnF.Fr 0 vP8 33554432 ve8) (fP9 : OwnF.Fr 0 vP9 2097152 ve9) (fP10 : OwnF.Fr 0 vP10 2097152 ve10) (fP11 : OwnF.Fr 0 vP11 2097152 ve11) (hg0 : vP6 = vP0 + vg0 * si) (hg1 : vP7 = vP1 + vg1 * si) (hg2 : vP8 = vP2 + vg2 * si) (gb0 : vg0.natAbs ≤ 16777216) (gb1 : vg1.natAbs ≤ 16777216) (gb2 : vg2.natAbs ≤ 16777216) :
    MetFree l (⟨"com/example/orbitloom/orbitloom/orbits/Track", "at", "(D[D)V"⟩ : MethodName) (head1 (Jvm.Cond.code (⟨"com/example/orbitloom/orbitloom/orbits/Track", "at", "(D[D)V"⟩ : MethodName) prog_63_method_5_code 40 none :: ws) ({ frames := 1, cells := 0, slots := 0, locals := 15 } : Room)) (fun a U => a = #[(.ref x0), (.double tm), (.ref x2)] ∧ Z.Warmed39 U.vm ∧ U.heap = h0) (fun _ _ _ _ _ => True) (fun _ U o U' => ∃ v L, o = .returned v ∧ Q5_0 Z x0 tm x2 sa ka kb stp ve0 ve1 ve2 ve3 ve4 ve5 ve6 ve7 ve8 ve9 ve10 ve11 ve12 ve13 ve14 ve15 ve16 ve17 vu0 vu1 vu2 vu3 vu4 vu5 ki si kc jv vP0 vP1 vP2 vP3 vP4 vP5 vP6 vP7 vP8 vP9 vP10 vP11 vg0 vg1 vg2 h0 n0 v U'.heap L ∧ FrameEnd U o U' L ({ frames := 1, cells := 0, slots := 0, locals := 15 } : Room).cells ({ frames := 1, cells := 0, slots := 0, locals := 15 } : Room).slots) := by
  refine MetFree.of_bodySF (plainFor_of_name pn_5) hisR ?_
  intro p e s m args below meth c s₁ Bd hml0 hP hK
  obtain ⟨rfl, hZ, hh⟩ := hP
  have w_22 := hw _ (List.mem_of_getElem? (i := 22) rfl)
  have w_24 := hw _ (List.mem_of_getElem? (i := 24) rfl)
  have w_26 := hw _ (List.mem_of_getElem? (i := 26) rfl)
  have w_34 := hw _ (List.mem_of_getElem? (i := 34) rfl)
  have w_35 := hw _ (List.mem_of_getElem? (i := 35) rfl)
  have w_36 := hw _ (List.mem_of_getElem? (i := 36) rfl)
  have w_37 := hw _ (List.mem_of_getElem? (i := 37) rfl)
  have w_38 := hw _ (List.mem_of_getElem? (i := 38) rfl)
  have w_39 := hw _ (List.mem_of_getElem? (i := 39) rfl)
  have w_40 := hw _ (List.mem_of_getElem? (i := 40) rfl)
  have w_41 := hw _ (List.mem_of_getElem? (i := 41) rfl)
  have w_42 := hw _ (List.mem_of_getElem? (i := 42) rfl)
  have w_43 := hw _ (List.mem_of_getElem? (i := 43) rfl)
  have w_44 := hw _ (List.mem_of_getElem? (i := 44) rfl)
  have w_45 := hw _ (List.mem_of_getElem? (i := 45) rfl)
  have w_46 := hw _ (List.mem_of_getElem? (i := 46) rfl)
  have w_47 := hw _ (List.mem_of_getElem? (i := 47) rfl)
  have w_48 := hw _ (List.mem_of_getElem? (i := 48) rfl)
  have w_49 := hw _ (List.mem_of_getElem? (i := 49) rfl)
  have hx := Bd.exec
  have hby := Bd.bytes
  have hml : c.maxLocals = 40 := hml0
  have hown : s.vm.findClass "com/example/orbitloom/orbitloom/orbits/Track" = some m.cls := findClass_of_methodNamed Bd.named
  have hnm := (name_of_methodNamed Bd.named Bd.method).1
  have X0 : Stand p l e ({ frames := 1, cells := 0, slots := 0, locals := 15 } : Room) s m #[(.ref x0), (.double tm), (.ref x2)] below meth c s₁ [] 0 0 := Stand.of_body Bd
  have e0 : s₁.heap = h0 := by rw [← hh, Bd.state]; rfl
  have N0 := Fr.nil n0
  have K0 : Keep h0 h0 [x2] := Keep.refl h0 _
  refine (?_ : Goes p e below s ({ frames := 1, cells := 0, slots := 0, locals := 15 } : Room).cells ({ frames := 1, cells := 0, slots := 0, locals := 15 } : Room).slots (fun v h L => Q5_0 Z x0 tm x2 sa ka kb stp ve0 ve1 ve2 ve3 ve4 ve5 ve6 ve7 ve8 ve9 ve10 ve11 ve12 ve13 ve14 ve15 ve16 ve17 vu0 vu1 vu2 vu3 vu4 vu5 ki si kc jv vP0 vP1 vP2 vP3 vP4 vP5 vP6 vP7 vP8 vP9 vP10 vP11 vg0 vg1 vg2 h0 n0 v h L) (s₁.setTop (entryFrame m #[(.ref x0), (.double tm), (.ref x2)] 40)))
  rw [ef_5_0 m x0 tm x2 sa ka kb stp ve0 ve1 ve2 ve3 ve4 ve5 ve6 ve7 ve8 ve9 ve10 ve11 ve12 ve13 ve14 ve15 ve16 ve17 vu0 vu1 vu2 vu3 vu4 vu5 ki si kc jv vP0 vP1 vP2 vP3 vP4 vP5 vP6 vP7 vP8 vP9 vP10 vP11 vg0 vg1 vg2 ]
  have hk0 : 0 ≤ kc := by omega
  have hk16 : kc ≤ 16 := by omega
  show Goes _ _ _ _ _ _ _ (s₁.setTop (mkF m 0 #[.val (.ref x0), nD tm, nS, .val (.ref x2), nU, nU, nU, nU, nU, nU, nU, nU, nU, nU, nU, nU, nU, nU, nU, nU, nU, nU, nU, nU, nU, nU, nU, nU, nU, nU, nU, nU, nU, nU, nU, nU, nU, nU, nU, nU] []))
  refine G1 (fun _ k => XS.dloadN X0.here hx rfl (hb hby d5_0) rfl k) ?_
  refine G1 (fun _ k => XS.aloadN X0.here hx rfl (hb hby d5_1) rfl rfl k) ?_
  obtain ⟨T1, X1, e1, st1⟩ := getF X0 hx hZ hown (host := "") (Or.inl w_22) Via.refl e0 F_step (g := (mkF m 2 #[.val (.ref x0), nD tm, nS, .val (.ref x2), nU, nU, nU, nU, nU, nU, nU, nU, nU, nU, nU, nU, nU, nU, nU, nU, nU, nU, nU, nU, nU, nU, nU, nU, nU, nU, nU, nU, nU, nU, nU, nU, nU, nU, nU, nU] [(.ref x0), (.double tm)])) rfl rfl (hb hby d5_2)
  refine G1 st1 ?_
  show Goes _ _ _ _ _ _ _ (T1.setTop (mkF m 5 _ [(.double stp), (.double tm)]))
  obtain ⟨d2, hd2⟩ : ∃ z, FP.ddiv tm stp = z := ⟨_, rfl⟩
  have fr2 : OwnF.Fr 3 ki 2147483648 d2 := by rw [← hd2]; exact OwnF.Fr.ddiv ft fs hs1 rfl hkb (by decide)
  refine G1 (fun _ k => XS.ddivS X1.here hx rfl (hb hby d5_5) rfl (by rw [hd2]; exact own_nn fr2) hd2 k) ?_
  show Goes _ _ _ _ _ _ _ (T1.setTop (mkF m 6 #[.val (.ref x0), nD tm, nS, .val (.ref x2), nU, nU, nU, nU, nU, nU, nU, nU, nU, nU, nU, nU, nU, nU, nU, nU, nU, nU, nU, nU, nU, nU, nU, nU, nU, nU, nU, nU, nU, nU, nU, nU, nU, nU, nU, nU] [(.double d2)]))
  refine G1 (fun _ k => XS.dconst0 X1.here hx rfl (hb hby d5_6) rfl k) ?_
  obtain ⟨d3, hd3⟩ : ∃ z, Jvm.Native.java_lang_Math.nans.pick64 true d2 FP.dconst0 = z := ⟨_, rfl⟩
  have fr3 : OwnF.Fr 3 (max ki ((0 : Int) * ((2 ^ 3 : Nat) : Int))) 2147483648 d3 := by rw [← hd3]; exact own_pmax fr2 (OwnF.Fr.up 3 own_c0) (by decide)
  obtain ⟨T3, X3, e3, st3⟩ := natS X1 hx hZ hown w_34 w_35 w_36 w_37 (by decide) e1 (W := 0) (F := fun a' => a' = #[.double d2, .double FP.dconst0] ∧ Jvm.Free.Fl.NoNaN64 d2 ∧ Jvm.Free.Fl.NoNaN64 FP.dconst0) (val := .double (Jvm.Native.java_lang_Math.nans.pick64 true d2 FP.dconst0)) (val' := .double d3) (fun c4 => Jvm.Free.Fl.Abs.maxD_pays d2 FP.dconst0 c4 (by decide) (by decide)) (g := (mkF m 7 #[.val (.ref x0), nD tm, nS, .val (.ref x2), nU, nU, nU, nU, nU, nU, nU, nU, nU, nU, nU, nU, nU, nU, nU, nU, nU, nU, nU, nU, nU, nU, nU, nU, nU, nU, nU, nU, nU, nU, nU, nU, nU, nU, nU, nU] [(.double FP.dconst0), (.double d2)])) rfl (by rw [hml]; rfl) (argsL := [.double d2, .double FP.dconst0]) (rest := []) (lenOf pd_4 rfl) rfl (by show 2 * 0 + _ ≤ _; exact Nat.le_of_eq rfl) (hb hby d5_7) (by decide) (by decide) ⟨rfl, own_nn fr2, own_nn own_c0⟩ (congrArg Value.double hd3)
  refine G1 st3 ?_
  show Goes _ _ _ _ _ _ _ (T3.setTop (mkF m 10 #[.val (.ref x0), nD tm, nS, .val (.ref x2), nU, nU, nU, nU, nU, nU, nU, nU, nU, nU, nU, nU, nU, nU, nU, nU, nU, nU, nU, nU, nU, nU, nU, nU, nU, nU, nU, nU, nU, nU, nU, nU, nU, nU, nU, nU] [(.double d3)]))
  refine G1 (fun _ k => XS.aloadN X3.here hx rfl (hb hby d5_10) rfl rfl k) ?_
  obtain ⟨T4, X4, e4, st4⟩ := getF X3 hx hZ hown (host := "") (Or.inl w_26) Via.refl e3 F_size (g := (mkF m 11 #[.val (.ref x0), nD tm, nS, .val (.ref x2), nU, nU, nU, nU, nU, nU, nU, nU, nU, nU, nU, nU, nU, nU, nU, nU, nU, nU, nU, nU, nU, nU, nU, nU, nU, nU, nU, nU, nU, nU, nU, nU, nU, nU, nU, nU] [(.ref x0), (.double d3)])) rfl rfl (hb hby d5_11)
  refine G1 st4 ?_
  show Goes _ _ _ _ _ _ _ (T4.setTop (mkF m 14 _ [(.int (3 : Int32)), (.double d3)]))
  refine G1 (fun _ k => XS.iconst X4.here hx rfl (hb hby d5_14) k) ?_
  refine G1 (fun _ k => XS.isub X4.here hx rfl (hb hby d5_15) rfl k) ?_
  show Goes _ _ _ _ _ _ _ (T4.setTop (mkF m 16 #[.val (.ref x0), nD tm, nS, .val (.ref x2), nU, nU, nU, nU, nU, nU, nU, nU, nU, nU, nU, nU, nU, nU, nU, nU, nU, nU, nU, nU, nU, nU, nU, nU, nU, nU, nU, nU, nU, nU, nU, nU, nU, nU, nU, nU] [(.int (2 : Int32)), (.double d3)]))
  refine G1 (fun _ k => XS.i2dS X4.here hx rfl (hb hby d5_16) rfl rfl k) ?_
  show Goes _ _ _ _ _ _ _ (T4.setTop (mkF m 17 _ [(.double (FP.i2d (2 : Int32))), (.double d3)]))
  obtain ⟨d5, hd5⟩ : ∃ z, Jvm.Native.java_lang_Math.nans.pick64 false d3 (FP.i2d (2 : Int32)) = z := ⟨_, rfl⟩
  have fr5 : OwnF.Fr 3 (min (max ki ((0 : Int) * ((2 ^ 3 : Nat) : Int))) ((2 : Int) * ((2 ^ 3 : Nat) : Int))) 2147483648 d5 := by rw [← hd5]; exact own_pmin fr3 (OwnF.Fr.up 3 ((OwnF.Fr.i2d (2 : Int32)).of_eq (j := 2) (C := 2) (by decide) (by decide))) (by decide)
  obtain ⟨T5, X5, e5, st5⟩ := natS X4 hx hZ hown w_38 w_39 w_36 w_40 (by decide) e4 (W := 0) (F := fun a' => a' = #[.double d3, .double (FP.i2d (2 : Int32))] ∧ Jvm.Free.Fl.NoNaN64 d3 ∧ Jvm.Free.Fl.NoNaN64 (FP.i2d (2 : Int32))) (val := .double (Jvm.Native.java_lang_Math.nans.pick64 false d3 (FP.i2d (2 : Int32)))) (val' := .double d5) (fun c4 => Jvm.Free.Fl.Abs.minD_pays d3 (FP.i2d (2 : Int32)) c4 (by decide) (by decide)) (g := (mkF m 17 #[.val (.ref x0), nD tm, nS, .val (.ref x2), nU, nU, nU, nU, nU, nU, nU, nU, nU, nU, nU, nU, nU, nU, nU, nU, nU, nU, nU, nU, nU, nU, nU, nU, nU, nU, nU, nU, nU, nU, nU, nU, nU, nU, nU, nU] [(.double (FP.i2d (2 : Int32))), (.double d3)])) rfl (by rw [hml]; rfl) (argsL := [.double d3, .double (FP.i2d (2 : Int32))]) (rest := []) (lenOf pd_4 rfl) rfl (by show 2 * 0 + _ ≤ _; exact Nat.le_of_eq rfl) (hb hby d5_17) (by decide) (by decide) ⟨rfl, own_nn fr3, own_nn ((OwnF.Fr.i2d (2 : Int32)).of_eq (j := 2) (C := 2) (by decide) (by decide))⟩ (congrArg Value.double hd5)
  refine G1 st5 ?_
  show Goes _ _ _ _ _ _ _ (T5.setTop (mkF m 20 #[.val (.ref x0), nD tm, nS, .val (.ref x2), nU, nU, nU, nU, nU, nU, nU, nU, nU, nU, nU, nU, nU, nU, nU, nU, nU, nU, nU, nU, nU, nU, nU, nU, nU, nU, nU, nU, nU, nU, nU, nU, nU, nU, nU, nU] [(.double d5)]))
  have fr6 : OwnF.Fr 3 kc 16 d5 := fr5.of_eq (by rw [hkc, show ((2 ^ 3 : Nat) : Int) = 8 from rfl]; omega) (by omega)
  refine G1 (fun _ k => XS.dstore X5.here hx rfl (hb hby d5_20) rfl (l' := #[.val (.ref x0), nD tm, nS, .val (.ref x2), nD d5, nS, nU, nU, nU, nU, nU, nU, nU, nU, nU, nU, nU, nU, nU, nU, nU, nU, nU, nU, nU, nU, nU, nU, nU, nU, nU, nU, nU, nU, nU, nU, nU, nU, nU, nU]) rfl k) ?_
  show Goes _ _ _ _ _ _ _ (T5.setTop (mkF m 22 _ []))
  refine G1 (fun _ k => XS.dload X5.here hx rfl (hb hby d5_22) rfl k) ?_
  obtain ⟨z7, hz7⟩ : ∃ z, FP.d2i d5 = z := ⟨_, rfl⟩
  have hqz7 : z7 = Int32.ofInt (kc / 8) := by rw [← hz7]; exact own_d2i fr6 hk0 hk16
  refine G1 (fun _ k => XS.d2iS X5.here hx rfl (hb hby d5_24) rfl hz7 k) ?_
  show Goes _ _ _ _ _ _ _ (T5.setTop (mkF m 25 #[.val (.ref x0), nD tm, nS, .val (.ref x2), nD d5, nS, nU, nU, nU, nU, nU, nU, nU, nU, nU, nU, nU, nU, nU, nU, nU, nU, nU, nU, nU, nU, nU, nU, nU, nU, nU, nU, nU, nU, nU, nU, nU, nU, nU, nU] [(.int z7)]))
  refine G1 (fun _ k => XS.aloadN X5.here hx rfl (hb hby d5_25) rfl rfl k) ?_
  obtain ⟨T8, X8, e8, st8⟩ := getF X5 hx hZ hown (host := "") (Or.inl w_26) Via.refl e5 F_size (g := (mkF m 26 #[.val (.ref x0), nD tm, nS, .val (.ref x2), nD d5, nS, nU, nU, nU, nU, nU, nU, nU, nU, nU, nU, nU, nU, nU, nU, nU, nU, nU, nU, nU, nU, nU, nU, nU, nU, nU, nU, nU, nU, nU, nU, nU, nU, nU, nU] [(.ref x0), (.int z7)])) rfl rfl (hb hby d5_26)
  refine G1 st8 ?_
  show Goes _ _ _ _ _ _ _ (T8.setTop (mkF m 29 _ [(.int (3 : Int32)), (.int z7)]))
  refine G1 (fun _ k => XS.iconst X8.here hx rfl (hb hby d5_29) k) ?_
  refine G1 (fun _ k => XS.isub X8.here hx rfl (hb hby d5_30) rfl k) ?_
  show Goes _ _ _ _ _ _ _ (T8.setTop (mkF m 31 #[.val (.ref x0), nD tm, nS, .val (.ref x2), nD d5, nS, nU, nU, nU, nU, nU, nU, nU, nU, nU, nU, nU, nU, nU, nU, nU, nU, nU, nU, nU, nU, nU, nU, nU, nU, nU, nU, nU, nU, nU, nU, nU, nU, nU, nU] [(.int (1 : Int32)), (.int z7)]))
  have hmn9 : own_mn z7 (1 : Int32) = (0 : Int32) := own_mn0 hqz7 hk0 hseg
  obtain ⟨_, _, ⟨T10, L10, k10, n10⟩, -, X10, ⟨Lc10, hQ10, l10, y10, z10⟩, st10⟩ := Jvm.LawKit.callS X8 hx (y := (⟨"java/lang/Math", "min", "(II)I"⟩ : MethodName)) hown (mvT hZ w_41) (mvT hZ w_42) (mvT hZ w_36) (mvT hZ w_43) (by decide) (backOf (W := 0) (rm8 l Z a0 hw [] z7 (1 : Int32) h0 n0 Z0) hZ w_43 w_36 (by decide) (by decide)) (g := (mkF m 31 #[.val (.ref x0), nD tm, nS, .val (.ref x2), nD d5, nS, nU, nU, nU, nU, nU, nU, nU, nU, nU, nU, nU, nU, nU, nU, nU, nU, nU, nU, nU, nU, nU, nU, nU, nU, nU, nU, nU, nU, nU, nU, nU, nU, nU, nU] [(.int (1 : Int32)), (.int z7)])) rfl (by rw [hml]; rfl) (argsL := [(.int z7), (.int (1 : Int32))]) (rest := []) (lenOf pd_5 rfl) rfl (by show 2 * 0 + _ ≤ _; exact Nat.le_of_eq rfl) (hb hby d5_31) (fun _ _ => ⟨rfl, e8, (by decide : 0 + 0 ≤ _), (by decide : 0 + 0 ≤ _)⟩)
  dsimp only [Pt.U, Pt.locs, Pt.cells, Pt.slots] at X10 l10 y10 z10 st10 hQ10
  rw [l10, y10, z10] at X10
  obtain ⟨N10, eh10, hR10⟩ := hQ10
  have NA10 := Fr.app N0 N10
  rw [hmn9] at hR10
  obtain rfl := hR10
  refine G1 st10 ?_
  show Goes _ _ _ _ _ _ _ (T10.setTop (mkF m 34 _ [(.int (0 : Int32))]))
  refine G1 (fun _ k => XS.istore X10.here hx rfl (hb hby d5_34) rfl (l' := #[.val (.ref x0), nD tm, nS, .val (.ref x2), nD d5, nS, .val (.int (0 : Int32)), nU, nU, nU, nU, nU, nU, nU, nU, nU, nU, nU, nU, nU, nU, nU, nU, nU, nU, nU, nU, nU, nU, nU, nU, nU, nU, nU, nU, nU, nU, nU, nU, nU]) rfl k) ?_
  show Goes _ _ _ _ _ _ _ (T10.setTop (mkF m 36 #[.val (.ref x0), nD tm, nS, .val (.ref x2), nD d5, nS, .val (.int (0 : Int32)), nU, nU, nU, nU, nU, nU, nU, nU, nU, nU, nU, nU, nU, nU, nU, nU, nU, nU, nU, nU, nU, nU, nU, nU, nU, nU, nU, nU, nU, nU, nU, nU, nU] []))
  refine G1 (fun _ k => XS.dload X10.here hx rfl (hb hby d5_36) rfl k) ?_
  refine G1 (fun _ k => XS.iload X10.here hx rfl (hb hby d5_38) rfl  k) ?_
  refine G1 (fun _ k => XS.i2dS X10.here hx rfl (hb hby d5_40) rfl rfl k) ?_
  show Goes _ _ _ _ _ _ _ (T10.setTop (mkF m 41 _ [(.double (FP.i2d (0 : Int32))), (.double d5)]))
  obtain ⟨d11, hd11⟩ : ∃ z, FP.dsub d5 (FP.i2d (0 : Int32)) = z := ⟨_, rfl⟩
  have fr11 : OwnF.Fr 3 (kc - ((0 : Int) * ((2 ^ 3 : Nat) : Int))) 16 d11 := by rw [← hd11]; exact OwnF.Fr.dsub fr6 (OwnF.Fr.up 3 ((OwnF.Fr.i2d (0 : Int32)).of_eq (j := 0) (C := 0) (by decide) (by decide))) (by decide)
  refine G1 (fun _ k => XS.dsubS X10.here hx rfl (hb hby d5_41) rfl (by rw [hd11]; exact own_nn fr11) hd11 k) ?_
  show Goes _ _ _ _ _ _ _ (T10.setTop (mkF m 42 #[.val (.ref x0), nD tm, nS, .val (.ref x2), nD d5, nS, .val (.int (0 : Int32)), nU, nU, nU, nU, nU, nU, nU, nU, nU, nU, nU, nU, nU, nU, nU, nU, nU, nU, nU, nU, nU, nU, nU, nU, nU, nU, nU, nU, nU, nU, nU, nU, nU] [(.double d11)]))
  have fr12 : OwnF.Fr 3 jv 16 d11 := fr11.of_eq (by rw [hjv, show ((2 ^ 3 : Nat) : Int) = 8 from rfl]; omega) (by omega)
  refine G1 (fun _ k => XS.dstore X10.here hx rfl (hb hby d5_42) rfl (l' := #[.val (.ref x0), nD tm, nS, .val (.ref x2), nD d5, nS, .val (.int (0 : Int32)), nD d11, nS, nU, nU, nU, nU, nU, nU, nU, nU, nU, nU, nU, nU, nU, nU, nU, nU, nU, nU, nU, nU, nU, nU, nU, nU, nU, nU, nU, nU, nU, nU, nU]) rfl k) ?_
  show Goes _ _ _ _ _ _ _ (T10.setTop (mkF m 44 _ []))
  refine G1 (fun _ k => XS.dload X10.here hx rfl (hb hby d5_44) rfl k) ?_
  refine G1 (fun _ k => XS.dload X10.here hx rfl (hb hby d5_46) rfl k) ?_
  obtain ⟨d13, hd13⟩ : ∃ z, FP.dmul d11 d11 = z := ⟨_, rfl⟩
  have fr13 : OwnF.Fr 6 (jv * jv) 256 d13 := by rw [← hd13]; exact OwnF.Fr.dmul fr12 fr12 (by decide)
  refine G1 (fun _ k => XS.dmulS X10.here hx rfl (hb hby d5_48) rfl (by rw [hd13]; exact own_nn fr13) hd13 k) ?_
  show Goes _ _ _ _ _ _ _ (T10.setTop (mkF m 49 #[.val (.ref x0), nD tm, nS, .val (.ref x2), nD d5, nS, .val (.int (0 : Int32)), nD d11, nS, nU, nU, nU, nU, nU, nU, nU, nU, nU, nU, nU, nU, nU, nU, nU, nU, nU, nU, nU, nU, nU, nU, nU, nU, nU, nU, nU, nU, nU, nU, nU] [(.double d13)]))
  refine G1 (fun _ k => XS.dstore X10.here hx rfl (hb hby d5_49) rfl (l' := #[.val (.ref x0), nD tm, nS, .val (.ref x2), nD d5, nS, .val (.int (0 : Int32)), nD d11, nS, nD d13, nS, nU, nU, nU, nU, nU, nU, nU, nU, nU, nU, nU, nU, nU, nU, nU, nU, nU, nU, nU, nU, nU, nU, nU, nU, nU, nU, nU, nU, nU]) rfl k) ?_
  show Goes _ _ _ _ _ _ _ (T10.setTop (mkF m 51 _ []))
  refine G1 (fun _ k => XS.dload X10.here hx rfl (hb hby d5_51) rfl k) ?_
  refine G1 (fun _ k => XS.dload X10.here hx rfl (hb hby d5_53) rfl k) ?_
  obtain ⟨d14, hd14⟩ : ∃ z, FP.dmul d13 d11 = z := ⟨_, rfl⟩
  have fr14 : OwnF.Fr 9 ((jv * jv) * jv) 4096 d14 := by rw [← hd14]; exact OwnF.Fr.dmul fr13 fr12 (by decide)
  refine G1 (fun _ k => XS.dmulS X10.here hx rfl (hb hby d5_55) rfl (by rw [hd14]; exact own_nn fr14) hd14 k) ?_
  show Goes _ _ _ _ _ _ _ (T10.setTop (mkF m 56 #[.val (.ref x0), nD tm, nS, .val (.ref x2), nD d5, nS, .val (.int (0 : Int32)), nD d11, nS, nD d13, nS, nU, nU, nU, nU, nU, nU, nU, nU, nU, nU, nU, nU, nU, nU, nU, nU, nU, nU, nU, nU, nU, nU, nU, nU, nU, nU, nU, nU, nU] [(.double d14)]))
  refine G1 (fun _ k => XS.dstore X10.here hx rfl (hb hby d5_56) rfl (l' := #[.val (.ref x0), nD tm, nS, .val (.ref x2), nD d5, nS, .val (.int (0 : Int32)), nD d11, nS, nD d13, nS, nD d14, nS, nU, nU, nU, nU, nU, nU, nU, nU, nU, nU, nU, nU, nU, nU, nU, nU, nU, nU, nU, nU, nU, nU, nU, nU, nU, nU, nU]) rfl k) ?_
  show Goes _ _ _ _ _ _ _ (T10.setTop (mkF m 58 _ []))
  refine G1 (fun _ k => X10.ldc2DoubleC hx hown (mvT hZ w_44) (g := (mkF m 58 #[.val (.ref x0), nD tm, nS, .val (.ref x2), nD d5, nS, .val (.int (0 : Int32)), nD d11, nS, nD d13, nS, nD d14, nS, nU, nU, nU, nU, nU, nU, nU, nU, nU, nU, nU, nU, nU, nU, nU, nU, nU, nU, nU, nU, nU, nU, nU, nU, nU, nU, nU] [])) rfl (hb hby d5_58) _ k) ?_
  show Goes _ _ _ _ _ _ _ (T10.setTop (mkF m 61 #[.val (.ref x0), nD tm, nS, .val (.ref x2), nD d5, nS, .val (.int (0 : Int32)), nD d11, nS, nD d13, nS, nD d14, nS, nU, nU, nU, nU, nU, nU, nU, nU, nU, nU, nU, nU, nU, nU, nU, nU, nU, nU, nU, nU, nU, nU, nU, nU, nU, nU, nU] [(.double (4611686018427387904 : UInt64))]))
  refine G1 (fun _ k => XS.dload X10.here hx rfl (hb hby d5_61) rfl k) ?_
  obtain ⟨d15, hd15⟩ : ∃ z, FP.dmul (4611686018427387904 : UInt64) d14 = z := ⟨_, rfl⟩
  have fr15 : OwnF.Fr 9 ((2 : Int) * ((jv * jv) * jv)) 8192 d15 := by rw [← hd15]; exact OwnF.Fr.dmul own_k4611686018427387904 fr14 (by decide)
  refine G1 (fun _ k => XS.dmulS X10.here hx rfl (hb hby d5_63) rfl (by rw [hd15]; exact own_nn fr15) hd15 k) ?_
  show Goes _ _ _ _ _ _ _ (T10.setTop (mkF m 64 _ [(.double d15)]))
  refine G1 (fun _ k => X10.ldc2DoubleC hx hown (mvT hZ w_45) (g := (mkF m 64 #[.val (.ref x0), nD tm, nS, .val (.ref x2), nD d5, nS, .val (.int (0 : Int32)), nD d11, nS, nD d13, nS, nD d14, nS, nU, nU, nU, nU, nU, nU, nU, nU, nU, nU, nU, nU, nU, nU, nU, nU, nU, nU, nU, nU, nU, nU, nU, nU, nU, nU, nU] [(.double d15)])) rfl (hb hby d5_64) _ k) ?_
  show Goes _ _ _ _ _ _ _ (T10.setTop (mkF m 67 #[.val (.ref x0), nD tm, nS, .val (.ref x2), nD d5, nS, .val (.int (0 : Int32)), nD d11, nS, nD d13, nS, nD d14, nS, nU, nU, nU, nU, nU, nU, nU, nU, nU, nU, nU, nU, nU, nU, nU, nU, nU, nU, nU, nU, nU, nU, nU, nU, nU, nU, nU] [(.double (4613937818241073152 : UInt64)), (.double d15)]))
  refine G1 (fun _ k => XS.dload X10.here hx rfl (hb hby d5_67) rfl k) ?_
  obtain ⟨d16, hd16⟩ : ∃ z, FP.dmul (4613937818241073152 : UInt64) d13 = z := ⟨_, rfl⟩
  have fr16 : OwnF.Fr 6 ((3 : Int) * (jv * jv)) 768 d16 := by rw [← hd16]; exact OwnF.Fr.dmul own_k4613937818241073152 fr13 (by decide)
  refine G1 (fun _ k => XS.dmulS X10.here hx rfl (hb hby d5_69) rfl (by rw [hd16]; exact own_nn fr16) hd16 k) ?_
  show Goes _ _ _ _ _ _ _ (T10.setTop (mkF m 70 _ [(.double d16), (.double d15)]))
  obtain ⟨d17, hd17⟩ : ∃ z, FP.dsub d15 d16 = z := ⟨_, rfl⟩
  have fr17 : OwnF.Fr 9 (((2 : Int) * ((jv * jv) * jv)) - (((3 : Int) * (jv * jv)) * ((2 ^ 3 : Nat) : Int))) 14336 d17 := by rw [← hd17]; exact OwnF.Fr.dsub fr15 (OwnF.Fr.up 3 fr16) (by decide)
  refine G1 (fun _ k => XS.dsubS X10.here hx rfl (hb hby d5_70) rfl (by rw [hd17]; exact own_nn fr17) hd17 k) ?_
  show Goes _ _ _ _ _ _ _ (T10.setTop (mkF m 71 #[.val (.ref x0), nD tm, nS, .val (.ref x2), nD d5, nS, .val (.int (0 : Int32)), nD d11, nS, nD d13, nS, nD d14, nS, nU, nU, nU, nU, nU, nU, nU, nU, nU, nU, nU, nU, nU, nU, nU, nU, nU, nU, nU, nU, nU, nU, nU, nU, nU, nU, nU] [(.double d17)]))
  refine G1 (fun _ k => XS.dconst1 X10.here hx rfl (hb hby d5_71) rfl k) ?_
  obtain ⟨d18, hd18⟩ : ∃ z, FP.dadd d17 FP.dconst1 = z := ⟨_, rfl⟩
  have fr18 : OwnF.Fr 9 ((((2 : Int) * ((jv * jv) * jv)) - (((3 : Int) * (jv * jv)) * ((2 ^ 3 : Nat) : Int))) + ((1 : Int) * ((2 ^ 9 : Nat) : Int))) 14848 d18 := by rw [← hd18]; exact OwnF.Fr.dadd fr17 (OwnF.Fr.up 9 own_c1) (by decide)
  refine G1 (fun _ k => XS.daddS X10.here hx rfl (hb hby d5_72) rfl (by rw [hd18]; exact own_nn fr18) hd18 k) ?_
  show Goes _ _ _ _ _ _ _ (T10.setTop (mkF m 73 _ [(.double d18)]))
  refine G1 (fun _ k => XS.dstore X10.here hx rfl (hb hby d5_73) rfl (l' := #[.val (.ref x0), nD tm, nS, .val (.ref x2), nD d5, nS, .val (.int (0 : Int32)), nD d11, nS, nD d13, nS, nD d14, nS, nD d18, nS, nU, nU, nU, nU, nU, nU, nU, nU, nU, nU, nU, nU, nU, nU, nU, nU, nU, nU, nU, nU, nU, nU, nU, nU, nU]) rfl k) ?_
  show Goes _ _ _ _ _ _ _ (T10.setTop (mkF m 75 #[.val (.ref x0), nD tm, nS, .val (.ref x2), nD d5, nS, .val (.int (0 : Int32)), nD d11, nS, nD d13, nS, nD d14, nS, nD d18, nS, nU, nU, nU, nU, nU, nU, nU, nU, nU, nU, nU, nU, nU, nU, nU, nU, nU, nU, nU, nU, nU, nU, nU, nU, nU] []))
  refine G1 (fun _ k => XS.dload X10.here hx rfl (hb hby d5_75) rfl k) ?_
  refine G1 (fun _ k => X10.ldc2DoubleC hx hown (mvT hZ w_44) (g := (mkF m 77 #[.val (.ref x0), nD tm, nS, .val (.ref x2), nD d5, nS, .val (.int (0 : Int32)), nD d11, nS, nD d13, nS, nD d14, nS, nD d18, nS, nU, nU, nU, nU, nU, nU, nU, nU, nU, nU, nU, nU, nU, nU, nU, nU, nU, nU, nU, nU, nU, nU, nU, nU, nU] [(.double d14)])) rfl (hb hby d5_77) _ k) ?_
  show Goes _ _ _ _ _ _ _ (T10.setTop (mkF m 80 _ [(.double (4611686018427387904 : UInt64)), (.double d14)]))
  refine G1 (fun _ k => XS.dload X10.here hx rfl (hb hby d5_80) rfl k) ?_
  obtain ⟨d19, hd19⟩ : ∃ z, FP.dmul (4611686018427387904 : UInt64) d13 = z := ⟨_, rfl⟩
  have fr19 : OwnF.Fr 6 ((2 : Int) * (jv * jv)) 512 d19 := by rw [← hd19]; exact OwnF.Fr.dmul own_k4611686018427387904 fr13 (by decide)
  refine G1 (fun _ k => XS.dmulS X10.here hx rfl (hb hby d5_82) rfl (by rw [hd19]; exact own_nn fr19) hd19 k) ?_
  show Goes _ _ _ _ _ _ _ (T10.setTop (mkF m 83 #[.val (.ref x0), nD tm, nS, .val (.ref x2), nD d5, nS, .val (.int (0 : Int32)), nD d11, nS, nD d13, nS, nD d14, nS, nD d18, nS, nU, nU, nU, nU, nU, nU, nU, nU, nU, nU, nU, nU, nU, nU, nU, nU, nU, nU, nU, nU, nU, nU, nU, nU, nU] [(.double d19), (.double d14)]))
  obtain ⟨d20, hd20⟩ : ∃ z, FP.dsub d14 d19 = z := ⟨_, rfl⟩
  have fr20 : OwnF.Fr 9 (((jv * jv) * jv) - (((2 : Int) * (jv * jv)) * ((2 ^ 3 : Nat) : Int))) 8192 d20 := by rw [← hd20]; exact OwnF.Fr.dsub fr14 (OwnF.Fr.up 3 fr19) (by decide)
  refine G1 (fun _ k => XS.dsubS X10.here hx rfl (hb hby d5_83) rfl (by rw [hd20]; exact own_nn fr20) hd20 k) ?_
  show Goes _ _ _ _ _ _ _ (T10.setTop (mkF m 84 _ [(.double d20)]))
  refine G1 (fun _ k => XS.dload X10.here hx rfl (hb hby d5_84) rfl k) ?_
  obtain ⟨d21, hd21⟩ : ∃ z, FP.dadd d20 d11 = z := ⟨_, rfl⟩
  have fr21 : OwnF.Fr 9 ((((jv * jv) * jv) - (((2 : Int) * (jv * jv)) * ((2 ^ 3 : Nat) : Int))) + (jv * ((2 ^ 6 : Nat) : Int))) 9216 d21 := by rw [← hd21]; exact OwnF.Fr.dadd fr20 (OwnF.Fr.up 6 fr12) (by decide)
  refine G1 (fun _ k => XS.daddS X10.here hx rfl (hb hby d5_86) rfl (by rw [hd21]; exact own_nn fr21) hd21 k) ?_
  show Goes _ _ _ _ _ _ _ (T10.setTop (mkF m 87 #[.val (.ref x0), nD tm, nS, .val (.ref x2), nD d5, nS, .val (.int (0 : Int32)), nD d11, nS, nD d13, nS, nD d14, nS, nD d18, nS, nU, nU, nU, nU, nU, nU, nU, nU, nU, nU, nU, nU, nU, nU, nU, nU, nU, nU, nU, nU, nU, nU, nU, nU, nU] [(.double d21)]))
  refine G1 (fun _ k => XS.dstore X10.here hx rfl (hb hby d5_87) rfl (l' := #[.val (.ref x0), nD tm, nS, .val (.ref x2), nD d5, nS, .val (.int (0 : Int32)), nD d11, nS, nD d13, nS, nD d14, nS, nD d18, nS, nD d21, nS, nU, nU, nU, nU, nU, nU, nU, nU, nU, nU, nU, nU, nU, nU, nU, nU, nU, nU, nU, nU, nU, nU, nU]) rfl k) ?_
  show Goes _ _ _ _ _ _ _ (T10.setTop (mkF m 89 _ []))
  refine G1 (fun _ k => X10.ldc2DoubleC hx hown (mvT hZ w_46) (g := (mkF m 89 #[.val (.ref x0), nD tm, nS, .val (.ref x2), nD d5, nS, .val (.int (0 : Int32)), nD d11, nS, nD d13, nS, nD d14, nS, nD d18, nS, nD d21, nS, nU, nU, nU, nU, nU, nU, nU, nU, nU, nU, nU, nU, nU, nU, nU, nU, nU, nU, nU, nU, nU, nU, nU] [])) rfl (hb hby d5_89) _ k) ?_
  show Goes _ _ _ _ _ _ _ (T10.setTop (mkF m 92 #[.val (.ref x0), nD tm, nS, .val (.ref x2), nD d5, nS, .val (.int (0 : Int32)), nD d11, nS, nD d13, nS, nD d14, nS, nD d18, nS, nD d21, nS, nU, nU, nU, nU, nU, nU, nU, nU, nU, nU, nU, nU, nU, nU, nU, nU, nU, nU, nU, nU, nU, nU, nU] [(.double (13835058055282163712 : UInt64))]))
  refine G1 (fun _ k => XS.dload X10.here hx rfl (hb hby d5_92) rfl k) ?_
  obtain ⟨d22, hd22⟩ : ∃ z, FP.dmul (13835058055282163712 : UInt64) d14 = z := ⟨_, rfl⟩
  have fr22 : OwnF.Fr 9 ((-2 : Int) * ((jv * jv) * jv)) 8192 d22 := by rw [← hd22]; exact OwnF.Fr.dmul own_k13835058055282163712 fr14 (by decide)
  refine G1 (fun _ k => XS.dmulS X10.here hx rfl (hb hby d5_94) rfl (by rw [hd22]; exact own_nn fr22) hd22 k) ?_
  show Goes _ _ _ _ _ _ _ (T10.setTop (mkF m 95 _ [(.double d22)]))
  refine G1 (fun _ k => X10.ldc2DoubleC hx hown (mvT hZ w_45) (g := (mkF m 95 #[.val (.ref x0), nD tm, nS, .val (.ref x2), nD d5, nS, .val (.int (0 : Int32)), nD d11, nS, nD d13, nS, nD d14, nS, nD d18, nS, nD d21, nS, nU, nU, nU, nU, nU, nU, nU, nU, nU, nU, nU, nU, nU, nU, nU, nU, nU, nU, nU, nU, nU, nU, nU] [(.double d22)])) rfl (hb hby d5_95) _ k) ?_
  show Goes _ _ _ _ _ _ _ (T10.setTop (mkF m 98 #[.val (.ref x0), nD tm, nS, .val (.ref x2), nD d5, nS, .val (.int (0 : Int32)), nD d11, nS, nD d13, nS, nD d14, nS, nD d18, nS, nD d21, nS, nU, nU, nU, nU, nU, nU, nU, nU, nU, nU, nU, nU, nU, nU, nU, nU, nU, nU, nU, nU, nU, nU, nU] [(.double (4613937818241073152 : UInt64)), (.double d22)]))
  refine G1 (fun _ k => XS.dload X10.here hx rfl (hb hby d5_98) rfl k) ?_
  obtain ⟨d23, hd23⟩ : ∃ z, FP.dmul (4613937818241073152 : UInt64) d13 = z := ⟨_, rfl⟩
  have fr23 : OwnF.Fr 6 ((3 : Int) * (jv * jv)) 768 d23 := by rw [← hd23]; exact OwnF.Fr.dmul own_k4613937818241073152 fr13 (by decide)
  refine G1 (fun _ k => XS.dmulS X10.here hx rfl (hb hby d5_100) rfl (by rw [hd23]; exact own_nn fr23) hd23 k) ?_
  show Goes _ _ _ _ _ _ _ (T10.setTop (mkF m 101 _ [(.double d23), (.double d22)]))
  obtain ⟨d24, hd24⟩ : ∃ z, FP.dadd d22 d23 = z := ⟨_, rfl⟩
  have fr24 : OwnF.Fr 9 (((-2 : Int) * ((jv * jv) * jv)) + (((3 : Int) * (jv * jv)) * ((2 ^ 3 : Nat) : Int))) 14336 d24 := by rw [← hd24]; exact OwnF.Fr.dadd fr22 (OwnF.Fr.up 3 fr23) (by decide)
  refine G1 (fun _ k => XS.daddS X10.here hx rfl (hb hby d5_101) rfl (by rw [hd24]; exact own_nn fr24) hd24 k) ?_
  show Goes _ _ _ _ _ _ _ (T10.setTop (mkF m 102 #[.val (.ref x0), nD tm, nS, .val (.ref x2), nD d5, nS, .val (.int (0 : Int32)), nD d11, nS, nD d13, nS, nD d14, nS, nD d18, nS, nD d21, nS, nU, nU, nU, nU, nU, nU, nU, nU, nU, nU, nU, nU, nU, nU, nU, nU, nU, nU, nU, nU, nU, nU, nU] [(.double d24)]))
  refine G1 (fun _ k => XS.dstore X10.here hx rfl (hb hby d5_102) rfl (l' := #[.val (.ref x0), nD tm, nS, .val (.ref x2), nD d5, nS, .val (.int (0 : Int32)), nD d11, nS, nD d13, nS, nD d14, nS, nD d18, nS, nD d21, nS, nD d24, nS, nU, nU, nU, nU, nU, nU, nU, nU, nU, nU, nU, nU, nU, nU, nU, nU, nU, nU, nU, nU, nU]) rfl k) ?_
  show Goes _ _ _ _ _ _ _ (T10.setTop (mkF m 104 _ []))
  refine G1 (fun _ k => XS.dload X10.here hx rfl (hb hby d5_104) rfl k) ?_
  refine G1 (fun _ k => XS.dload X10.here hx rfl (hb hby d5_106) rfl k) ?_
  obtain ⟨d25, hd25⟩ : ∃ z, FP.dsub d14 d13 = z := ⟨_, rfl⟩
  have fr25 : OwnF.Fr 9 (((jv * jv) * jv) - ((jv * jv) * ((2 ^ 3 : Nat) : Int))) 6144 d25 := by rw [← hd25]; exact OwnF.Fr.dsub fr14 (OwnF.Fr.up 3 fr13) (by decide)
  refine G1 (fun _ k => XS.dsubS X10.here hx rfl (hb hby d5_108) rfl (by rw [hd25]; exact own_nn fr25) hd25 k) ?_
  show Goes _ _ _ _ _ _ _ (T10.setTop (mkF m 109 #[.val (.ref x0), nD tm, nS, .val (.ref x2), nD d5, nS, .val (.int (0 : Int32)), nD d11, nS, nD d13, nS, nD d14, nS, nD d18, nS, nD d21, nS, nD d24, nS, nU, nU, nU, nU, nU, nU, nU, nU, nU, nU, nU, nU, nU, nU, nU, nU, nU, nU, nU, nU, nU] [(.double d25)]))
  refine G1 (fun _ k => XS.dstore X10.here hx rfl (hb hby d5_109) rfl (l' := #[.val (.ref x0), nD tm, nS, .val (.ref x2), nD d5, nS, .val (.int (0 : Int32)), nD d11, nS, nD d13, nS, nD d14, nS, nD d18, nS, nD d21, nS, nD d24, nS, nD d25, nS, nU, nU, nU, nU, nU, nU, nU, nU, nU, nU, nU, nU, nU, nU, nU, nU, nU, nU, nU]) rfl k) ?_
  show Goes _ _ _ _ _ _ _ (T10.setTop (mkF m 111 _ []))
  refine G1 (fun _ k => X10.ldc2DoubleC hx hown (mvT hZ w_47) (g := (mkF m 111 #[.val (.ref x0), nD tm, nS, .val (.ref x2), nD d5, nS, .val (.int (0 : Int32)), nD d11, nS, nD d13, nS, nD d14, nS, nD d18, nS, nD d21, nS, nD d24, nS, nD d25, nS, nU, nU, nU, nU, nU, nU, nU, nU, nU, nU, nU, nU, nU, nU, nU, nU, nU, nU, nU] [])) rfl (hb hby d5_111) _ k) ?_
  show Goes _ _ _ _ _ _ _ (T10.setTop (mkF m 114 #[.val (.ref x0), nD tm, nS, .val (.ref x2), nD d5, nS, .val (.int (0 : Int32)), nD d11, nS, nD d13, nS, nD d14, nS, nD d18, nS, nD d21, nS, nD d24, nS, nD d25, nS, nU, nU, nU, nU, nU, nU, nU, nU, nU, nU, nU, nU, nU, nU, nU, nU, nU, nU, nU] [(.double (4618441417868443648 : UInt64))]))
  refine G1 (fun _ k => XS.dload X10.here hx rfl (hb hby d5_114) rfl k) ?_
  obtain ⟨d26, hd26⟩ : ∃ z, FP.dmul (4618441417868443648 : UInt64) d13 = z := ⟨_, rfl⟩
  have fr26 : OwnF.Fr 6 ((6 : Int) * (jv * jv)) 1536 d26 := by rw [← hd26]; exact OwnF.Fr.dmul own_k4618441417868443648 fr13 (by decide)
  refine G1 (fun _ k => XS.dmulS X10.here hx rfl (hb hby d5_116) rfl (by rw [hd26]; exact own_nn fr26) hd26 k) ?_
  show Goes _ _ _ _ _ _ _ (T10.setTop (mkF m 117 _ [(.double d26)]))
  refine G1 (fun _ k => X10.ldc2DoubleC hx hown (mvT hZ w_47) (g := (mkF m 117 #[.val (.ref x0), nD tm, nS, .val (.ref x2), nD d5, nS, .val (.int (0 : Int32)), nD d11, nS, nD d13, nS, nD d14, nS, nD d18, nS, nD d21, nS, nD d24, nS, nD d25, nS, nU, nU, nU, nU, nU, nU, nU, nU, nU, nU, nU, nU, nU, nU, nU, nU, nU, nU, nU] [(.double d26)])) rfl (hb hby d5_117) _ k) ?_
  show Goes _ _ _ _ _ _ _ (T10.setTop (mkF m 120 #[.val (.ref x0), nD tm, nS, .val (.ref x2), nD d5, nS, .val (.int (0 : Int32)), nD d11, nS, nD d13, nS, nD d14, nS, nD d18, nS, nD d21, nS, nD d24, nS, nD d25, nS, nU, nU, nU, nU, nU, nU, nU, nU, nU, nU, nU, nU, nU, nU, nU, nU, nU, nU, nU] [(.double (4618441417868443648 : UInt64)), (.double d26)]))
  refine G1 (fun _ k => XS.dload X10.here hx rfl (hb hby d5_120) rfl k) ?_
  obtain ⟨d27, hd27⟩ : ∃ z, FP.dmul (4618441417868443648 : UInt64) d11 = z := ⟨_, rfl⟩
  have fr27 : OwnF.Fr 3 ((6 : Int) * jv) 96 d27 := by rw [← hd27]; exact OwnF.Fr.dmul own_k4618441417868443648 fr12 (by decide)
  refine G1 (fun _ k => XS.dmulS X10.here hx rfl (hb hby d5_122) rfl (by rw [hd27]; exact own_nn fr27) hd27 k) ?_
  show Goes _ _ _ _ _ _ _ (T10.setTop (mkF m 123 _ [(.double d27), (.double d26)]))
  obtain ⟨d28, hd28⟩ : ∃ z, FP.dsub d26 d27 = z := ⟨_, rfl⟩
  have fr28 : OwnF.Fr 6 (((6 : Int) * (jv * jv)) - (((6 : Int) * jv) * ((2 ^ 3 : Nat) : Int))) 2304 d28 := by rw [← hd28]; exact OwnF.Fr.dsub fr26 (OwnF.Fr.up 3 fr27) (by decide)
  refine G1 (fun _ k => XS.dsubS X10.here hx rfl (hb hby d5_123) rfl (by rw [hd28]; exact own_nn fr28) hd28 k) ?_
  show Goes _ _ _ _ _ _ _ (T10.setTop (mkF m 124 #[.val (.ref x0), nD tm, nS, .val (.ref x2), nD d5, nS, .val (.int (0 : Int32)), nD d11, nS, nD d13, nS, nD d14, nS, nD d18, nS, nD d21, nS, nD d24, nS, nD d25, nS, nU, nU, nU, nU, nU, nU, nU, nU, nU, nU, nU, nU, nU, nU, nU, nU, nU, nU, nU] [(.double d28)]))
  refine G1 (fun _ k => XS.dstore X10.here hx rfl (hb hby d5_124) rfl (l' := #[.val (.ref x0), nD tm, nS, .val (.ref x2), nD d5, nS, .val (.int (0 : Int32)), nD d11, nS, nD d13, nS, nD d14, nS, nD d18, nS, nD d21, nS, nD d24, nS, nD d25, nS, nD d28, nS, nU, nU, nU, nU, nU, nU, nU, nU, nU, nU, nU, nU, nU, nU, nU, nU, nU]) rfl k) ?_
  show Goes _ _ _ _ _ _ _ (T10.setTop (mkF m 126 _ []))
  refine G1 (fun _ k => X10.ldc2DoubleC hx hown (mvT hZ w_45) (g := (mkF m 126 #[.val (.ref x0), nD tm, nS, .val (.ref x2), nD d5, nS, .val (.int (0 : Int32)), nD d11, nS, nD d13, nS, nD d14, nS, nD d18, nS, nD d21, nS, nD d24, nS, nD d25, nS, nD d28, nS, nU, nU, nU, nU, nU, nU, nU, nU, nU, nU, nU, nU, nU, nU, nU, nU, nU] [])) rfl (hb hby d5_126) _ k) ?_
  show Goes _ _ _ _ _ _ _ (T10.setTop (mkF m 129 #[.val (.ref x0), nD tm, nS, .val (.ref x2), nD d5, nS, .val (.int (0 : Int32)), nD d11, nS, nD d13, nS, nD d14, nS, nD d18, nS, nD d21, nS, nD d24, nS, nD d25, nS, nD d28, nS, nU, nU, nU, nU, nU, nU, nU, nU, nU, nU, nU, nU, nU, nU, nU, nU, nU] [(.double (4613937818241073152 : UInt64))]))
  refine G1 (fun _ k => XS.dload X10.here hx rfl (hb hby d5_129) rfl k) ?_
  obtain ⟨d29, hd29⟩ : ∃ z, FP.dmul (4613937818241073152 : UInt64) d13 = z := ⟨_, rfl⟩
  have fr29 : OwnF.Fr 6 ((3 : Int) * (jv * jv)) 768 d29 := by rw [← hd29]; exact OwnF.Fr.dmul own_k4613937818241073152 fr13 (by decide)
  refine G1 (fun _ k => XS.dmulS X10.here hx rfl (hb hby d5_131) rfl (by rw [hd29]; exact own_nn fr29) hd29 k) ?_
  show Goes _ _ _ _ _ _ _ (T10.setTop (mkF m 132 _ [(.double d29)]))
  refine G1 (fun _ k => X10.ldc2DoubleC hx hown (mvT hZ w_48) (g := (mkF m 132 #[.val (.ref x0), nD tm, nS, .val (.ref x2), nD d5, nS, .val (.int (0 : Int32)), nD d11, nS, nD d13, nS, nD d14, nS, nD d18, nS, nD d21, nS, nD d24, nS, nD d25, nS, nD d28, nS, nU, nU, nU, nU, nU, nU, nU, nU, nU, nU, nU, nU, nU, nU, nU, nU, nU] [(.double d29)])) rfl (hb hby d5_132) _ k) ?_
  show Goes _ _ _ _ _ _ _ (T10.setTop (mkF m 135 #[.val (.ref x0), nD tm, nS, .val (.ref x2), nD d5, nS, .val (.int (0 : Int32)), nD d11, nS, nD d13, nS, nD d14, nS, nD d18, nS, nD d21, nS, nD d24, nS, nD d25, nS, nD d28, nS, nU, nU, nU, nU, nU, nU, nU, nU, nU, nU, nU, nU, nU, nU, nU, nU, nU] [(.double (4616189618054758400 : UInt64)), (.double d29)]))
  refine G1 (fun _ k => XS.dload X10.here hx rfl (hb hby d5_135) rfl k) ?_
  obtain ⟨d30, hd30⟩ : ∃ z, FP.dmul (4616189618054758400 : UInt64) d11 = z := ⟨_, rfl⟩
  have fr30 : OwnF.Fr 3 ((4 : Int) * jv) 64 d30 := by rw [← hd30]; exact OwnF.Fr.dmul own_k4616189618054758400 fr12 (by decide)
  refine G1 (fun _ k => XS.dmulS X10.here hx rfl (hb hby d5_137) rfl (by rw [hd30]; exact own_nn fr30) hd30 k) ?_
  show Goes _ _ _ _ _ _ _ (T10.setTop (mkF m 138 _ [(.double d30), (.double d29)]))
  obtain ⟨d31, hd31⟩ : ∃ z, FP.dsub d29 d30 = z := ⟨_, rfl⟩
  have fr31 : OwnF.Fr 6 (((3 : Int) * (jv * jv)) - (((4 : Int) * jv) * ((2 ^ 3 : Nat) : Int))) 1280 d31 := by rw [← hd31]; exact OwnF.Fr.dsub fr29 (OwnF.Fr.up 3 fr30) (by decide)
  refine G1 (fun _ k => XS.dsubS X10.here hx rfl (hb hby d5_138) rfl (by rw [hd31]; exact own_nn fr31) hd31 k) ?_
  show Goes _ _ _ _ _ _ _ (T10.setTop (mkF m 139 #[.val (.ref x0), nD tm, nS, .val (.ref x2), nD d5, nS, .val (.int (0 : Int32)), nD d11, nS, nD d13, nS, nD d14, nS, nD d18, nS, nD d21, nS, nD d24, nS, nD d25, nS, nD d28, nS, nU, nU, nU, nU, nU, nU, nU, nU, nU, nU, nU, nU, nU, nU, nU, nU, nU] [(.double d31)]))
  refine G1 (fun _ k => XS.dconst1 X10.here hx rfl (hb hby d5_139) rfl k) ?_
  obtain ⟨d32, hd32⟩ : ∃ z, FP.dadd d31 FP.dconst1 = z := ⟨_, rfl⟩
  have fr32 : OwnF.Fr 6 ((((3 : Int) * (jv * jv)) - (((4 : Int) * jv) * ((2 ^ 3 : Nat) : Int))) + ((1 : Int) * ((2 ^ 6 : Nat) : Int))) 1344 d32 := by rw [← hd32]; exact OwnF.Fr.dadd fr31 (OwnF.Fr.up 6 own_c1) (by decide)
  refine G1 (fun _ k => XS.daddS X10.here hx rfl (hb hby d5_140) rfl (by rw [hd32]; exact own_nn fr32) hd32 k) ?_
  show Goes _ _ _ _ _ _ _ (T10.setTop (mkF m 141 _ [(.double d32)]))
  refine G1 (fun _ k => XS.dstore X10.here hx rfl (hb hby d5_141) rfl (l' := #[.val (.ref x0), nD tm, nS, .val (.ref x2), nD d5, nS, .val (.int (0 : Int32)), nD d11, nS, nD d13, nS, nD d14, nS, nD d18, nS, nD d21, nS, nD d24, nS, nD d25, nS, nD d28, nS, nD d32, nS, nU, nU, nU, nU, nU, nU, nU, nU, nU, nU, nU, nU, nU, nU, nU]) rfl k) ?_
  show Goes _ _ _ _ _ _ _ (T10.setTop (mkF m 143 #[.val (.ref x0), nD tm, nS, .val (.ref x2), nD d5, nS, .val (.int (0 : Int32)), nD d11, nS, nD d13, nS, nD d14, nS, nD d18, nS, nD d21, nS, nD d24, nS, nD d25, nS, nD d28, nS, nD d32, nS, nU, nU, nU, nU, nU, nU, nU, nU, nU, nU, nU, nU, nU, nU, nU] []))
  refine G1 (fun _ k => X10.ldc2DoubleC hx hown (mvT hZ w_49) (g := (mkF m 143 #[.val (.ref x0), nD tm, nS, .val (.ref x2), nD d5, nS, .val (.int (0 : Int32)), nD d11, nS, nD d13, nS, nD d14, nS, nD d18, nS, nD d21, nS, nD d24, nS, nD d25, nS, nD d28, nS, nD d32, nS, nU, nU, nU, nU, nU, nU, nU, nU, nU, nU, nU, nU, nU, nU, nU] [])) rfl (hb hby d5_143) _ k) ?_
  show Goes _ _ _ _ _ _ _ (T10.setTop (mkF m 146 _ [(.double (13841813454723219456 : UInt64))]))
  refine G1 (fun _ k => XS.dload X10.here hx rfl (hb hby d5_146) rfl k) ?_
  obtain ⟨d33, hd33⟩ : ∃ z, FP.dmul (13841813454723219456 : UInt64) d13 = z := ⟨_, rfl⟩
  have fr33 : OwnF.Fr 6 ((-6 : Int) * (jv * jv)) 1536 d33 := by rw [← hd33]; exact OwnF.Fr.dmul own_k13841813454723219456 fr13 (by decide)
  refine G1 (fun _ k => XS.dmulS X10.here hx rfl (hb hby d5_148) rfl (by rw [hd33]; exact own_nn fr33) hd33 k) ?_
  show Goes _ _ _ _ _ _ _ (T10.setTop (mkF m 149 #[.val (.ref x0), nD tm, nS, .val (.ref x2), nD d5, nS, .val (.int (0 : Int32)), nD d11, nS, nD d13, nS, nD d14, nS, nD d18, nS, nD d21, nS, nD d24, nS, nD d25, nS, nD d28, nS, nD d32, nS, nU, nU, nU, nU, nU, nU, nU, nU, nU, nU, nU, nU, nU, nU, nU] [(.double d33)]))
  refine G1 (fun _ k => X10.ldc2DoubleC hx hown (mvT hZ w_47) (g := (mkF m 149 #[.val (.ref x0), nD tm, nS, .val (.ref x2), nD d5, nS, .val (.int (0 : Int32)), nD d11, nS, nD d13, nS, nD d14, nS, nD d18, nS, nD d21, nS, nD d24, nS, nD d25, nS, nD d28, nS, nD d32, nS, nU, nU, nU, nU, nU, nU, nU, nU, nU, nU, nU, nU, nU, nU, nU] [(.double d33)])) rfl (hb hby d5_149) _ k) ?_
  show Goes _ _ _ _ _ _ _ (T10.setTop (mkF m 152 _ [(.double (4618441417868443648 : UInt64)), (.double d33)]))
  refine G1 (fun _ k => XS.dload X10.here hx rfl (hb hby d5_152) rfl k) ?_
  obtain ⟨d34, hd34⟩ : ∃ z, FP.dmul (4618441417868443648 : UInt64) d11 = z := ⟨_, rfl⟩
  have fr34 : OwnF.Fr 3 ((6 : Int) * jv) 96 d34 := by rw [← hd34]; exact OwnF.Fr.dmul own_k4618441417868443648 fr12 (by decide)
  refine G1 (fun _ k => XS.dmulS X10.here hx rfl (hb hby d5_154) rfl (by rw [hd34]; exact own_nn fr34) hd34 k) ?_
  show Goes _ _ _ _ _ _ _ (T10.setTop (mkF m 155 #[.val (.ref x0), nD tm, nS, .val (.ref x2), nD d5, nS, .val (.int (0 : Int32)), nD d11, nS, nD d13, nS, nD d14, nS, nD d18, nS, nD d21, nS, nD d24, nS, nD d25, nS, nD d28, nS, nD d32, nS, nU, nU, nU, nU, nU, nU, nU, nU, nU, nU, nU, nU, nU, nU, nU] [(.double d34), (.double d33)]))
  obtain ⟨d35, hd35⟩ : ∃ z, FP.dadd d33 d34 = z := ⟨_, rfl⟩
  have fr35 : OwnF.Fr 6 (((-6 : Int) * (jv * jv)) + (((6 : Int) * jv) * ((2 ^ 3 : Nat) : Int))) 2304 d35 := by rw [← hd35]; exact OwnF.Fr.dadd fr33 (OwnF.Fr.up 3 fr34) (by decide)
  refine G1 (fun _ k => XS.daddS X10.here hx rfl (hb hby d5_155) rfl (by rw [hd35]; exact own_nn fr35) hd35 k) ?_
  show Goes _ _ _ _ _ _ _ (T10.setTop (mkF m 156 _ [(.double d35)]))
  refine G1 (fun _ k => XS.dstore X10.here hx rfl (hb hby d5_156) rfl (l' := #[.val (.ref x0), nD tm, nS, .val (.ref x2), nD d5, nS, .val (.int (0 : Int32)), nD d11, nS, nD d13, nS, nD d14, nS, nD d18, nS, nD d21, nS, nD d24, nS, nD d25, nS, nD d28, nS, nD d32, nS, nD d35, nS, nU, nU, nU, nU, nU, nU, nU, nU, nU, nU, nU, nU, nU]) rfl k) ?_
  show Goes _ _ _ _ _ _ _ (T10.setTop (mkF m 158 #[.val (.ref x0), nD tm, nS, .val (.ref x2), nD d5, nS, .val (.int (0 : Int32)), nD d11, nS, nD d13, nS, nD d14, nS, nD d18, nS, nD d21, nS, nD d24, nS, nD d25, nS, nD d28, nS, nD d32, nS, nD d35, nS, nU, nU, nU, nU, nU, nU, nU, nU, nU, nU, nU, nU, nU] []))
  refine G1 (fun _ k => X10.ldc2DoubleC hx hown (mvT hZ w_45) (g := (mkF m 158 #[.val (.ref x0), nD tm, nS, .val (.ref x2), nD d5, nS, .val (.int (0 : Int32)), nD d11, nS, nD d13, nS, nD d14, nS, nD d18, nS, nD d21, nS, nD d24, nS, nD d25, nS, nD d28, nS, nD d32, nS, nD d35, nS, nU, nU, nU, nU, nU, nU, nU, nU, nU, nU, nU, nU, nU] [])) rfl (hb hby d5_158) _ k) ?_
  show Goes _ _ _ _ _ _ _ (T10.setTop (mkF m 161 _ [(.double (4613937818241073152 : UInt64))]))
  refine G1 (fun _ k => XS.dload X10.here hx rfl (hb hby d5_161) rfl k) ?_
  obtain ⟨d36, hd36⟩ : ∃ z, FP.dmul (4613937818241073152 : UInt64) d13 = z := ⟨_, rfl⟩
  have fr36 : OwnF.Fr 6 ((3 : Int) * (jv * jv)) 768 d36 := by rw [← hd36]; exact OwnF.Fr.dmul own_k4613937818241073152 fr13 (by decide)
  refine G1 (fun _ k => XS.dmulS X10.here hx rfl (hb hby d5_163) rfl (by rw [hd36]; exact own_nn fr36) hd36 k) ?_
  show Goes _ _ _ _ _ _ _ (T10.setTop (mkF m 164 #[.val (.ref x0), nD tm, nS, .val (.ref x2), nD d5, nS, .val (.int (0 : Int32)), nD d11, nS, nD d13, nS, nD d14, nS, nD d18, nS, nD d21, nS, nD d24, nS, nD d25, nS, nD d28, nS, nD d32, nS, nD d35, nS, nU, nU, nU, nU, nU, nU, nU, nU, nU, nU, nU, nU, nU] [(.double d36)]))
  refine G1 (fun _ k => X10.ldc2DoubleC hx hown (mvT hZ w_44) (g := (mkF m 164 #[.val (.ref x0), nD tm, nS, .val (.ref x2), nD d5, nS, .val (.int (0 : Int32)), nD d11, nS, nD d13, nS, nD d14, nS, nD d18, nS, nD d21, nS, nD d24, nS, nD d25, nS, nD d28, nS, nD d32, nS, nD d35, nS, nU, nU, nU, nU, nU, nU, nU, nU, nU, nU, nU, nU, nU] [(.double d36)])) rfl (hb hby d5_164) _ k) ?_
  show Goes _ _ _ _ _ _ _ (T10.setTop (mkF m 167 _ [(.double (4611686018427387904 : UInt64)), (.double d36)]))
  refine G1 (fun _ k => XS.dload X10.here hx rfl (hb hby d5_167) rfl k) ?_
  obtain ⟨d37, hd37⟩ : ∃ z, FP.dmul (4611686018427387904 : UInt64) d11 = z := ⟨_, rfl⟩
  have fr37 : OwnF.Fr 3 ((2 : Int) * jv) 32 d37 := by rw [← hd37]; exact OwnF.Fr.dmul own_k4611686018427387904 fr12 (by decide)
  refine G1 (fun _ k => XS.dmulS X10.here hx rfl (hb hby d5_169) rfl (by rw [hd37]; exact own_nn fr37) hd37 k) ?_
  show Goes _ _ _ _ _ _ _ (T10.setTop (mkF m 170 #[.val (.ref x0), nD tm, nS, .val (.ref x2), nD d5, nS, .val (.int (0 : Int32)), nD d11, nS, nD d13, nS, nD d14, nS, nD d18, nS, nD d21, nS, nD d24, nS, nD d25, nS, nD d28, nS, nD d32, nS, nD d35, nS, nU, nU, nU, nU, nU, nU, nU, nU, nU, nU, nU, nU, nU] [(.double d37), (.double d36)]))
  obtain ⟨d38, hd38⟩ : ∃ z, FP.dsub d36 d37 = z := ⟨_, rfl⟩
  have fr38 : OwnF.Fr 6 (((3 : Int) * (jv * jv)) - (((2 : Int) * jv) * ((2 ^ 3 : Nat) : Int))) 1024 d38 := by rw [← hd38]; exact OwnF.Fr.dsub fr36 (OwnF.Fr.up 3 fr37) (by decide)
  refine G1 (fun _ k => XS.dsubS X10.here hx rfl (hb hby d5_170) rfl (by rw [hd38]; exact own_nn fr38) hd38 k) ?_
  show Goes _ _ _ _ _ _ _ (T10.setTop (mkF m 171 _ [(.double d38)]))
  refine G1 (fun _ k => XS.dstore X10.here hx rfl (hb hby d5_171) rfl (l' := #[.val (.ref x0), nD tm, nS, .val (.ref x2), nD d5, nS, .val (.int (0 : Int32)), nD d11, nS, nD d13, nS, nD d14, nS, nD d18, nS, nD d21, nS, nD d24, nS, nD d25, nS, nD d28, nS, nD d32, nS, nD d35, nS, nD d38, nS, nU, nU, nU, nU, nU, nU, nU, nU, nU, nU, nU]) rfl k) ?_
  show Goes _ _ _ _ _ _ _ (T10.setTop (mkF m 173 #[.val (.ref x0), nD tm, nS, .val (.ref x2), nD d5, nS, .val (.int (0 : Int32)), nD d11, nS, nD d13, nS, nD d14, nS, nD d18, nS, nD d21, nS, nD d24, nS, nD d25, nS, nD d28, nS, nD d32, nS, nD d35, nS, nD d38, nS, nU, nU, nU, nU, nU, nU, nU, nU, nU, nU, nU] []))
  refine G1 (fun _ k => XS.iload X10.here hx rfl (hb hby d5_173) rfl  k) ?_
  refine G1 (fun _ k => XS.bipush X10.here hx rfl (hb hby d5_175) k) ?_
  refine G1 (fun _ k => XS.imul X10.here hx rfl (hb hby d5_177) rfl k) ?_
  show Goes _ _ _ _ _ _ _ (T10.setTop (mkF m 178 _ [(.int (0 : Int32))]))
  refine G1 (fun _ k => XS.istore X10.here hx rfl (hb hby d5_178) rfl (l' := #[.val (.ref x0), nD tm, nS, .val (.ref x2), nD d5, nS, .val (.int (0 : Int32)), nD d11, nS, nD d13, nS, nD d14, nS, nD d18, nS, nD d21, nS, nD d24, nS, nD d25, nS, nD d28, nS, nD d32, nS, nD d35, nS, nD d38, nS, .val (.int (0 : Int32)), nU, nU, nU, nU, nU, nU, nU, nU, nU, nU]) rfl k) ?_
  show Goes _ _ _ _ _ _ _ (T10.setTop (mkF m 180 #[.val (.ref x0), nD tm, nS, .val (.ref x2), nD d5, nS, .val (.int (0 : Int32)), nD d11, nS, nD d13, nS, nD d14, nS, nD d18, nS, nD d21, nS, nD d24, nS, nD d25, nS, nD d28, nS, nD d32, nS, nD d35, nS, nD d38, nS, .val (.int (0 : Int32)), nU, nU, nU, nU, nU, nU, nU, nU, nU, nU] []))
  refine G1 (fun _ k => XS.iload X10.here hx rfl (hb hby d5_180) rfl  k) ?_
  refine G1 (fun _ k => XS.bipush X10.here hx rfl (hb hby d5_182) k) ?_
  refine G1 (fun _ k => XS.iadd X10.here hx rfl (hb hby d5_184) rfl k) ?_
  show Goes _ _ _ _ _ _ _ (T10.setTop (mkF m 185 _ [(.int (6 : Int32))]))
  refine G1 (fun _ k => XS.istore X10.here hx rfl (hb hby d5_185) rfl (l' := #[.val (.ref x0), nD tm, nS, .val (.ref x2), nD d5, nS, .val (.int (0 : Int32)), nD d11, nS, nD d13, nS, nD d14, nS, nD d18, nS, nD d21, nS, nD d24, nS, nD d25, nS, nD d28, nS, nD d32, nS, nD d35, nS, nD d38, nS, .val (.int (0 : Int32)), .val (.int (6 : Int32)), nU, nU, nU, nU, nU, nU, nU, nU, nU]) rfl k) ?_
  show Goes _ _ _ _ _ _ _ (T10.setTop (mkF m 187 #[.val (.ref x0), nD tm, nS, .val (.ref x2), nD d5, nS, .val (.int (0 : Int32)), nD d11, nS, nD d13, nS, nD d14, nS, nD d18, nS, nD d21, nS, nD d24, nS, nD d25, nS, nD d28, nS, nD d32, nS, nD d35, nS, nD d38, nS, .val (.int (0 : Int32)), .val (.int (6 : Int32)), nU, nU, nU, nU, nU, nU, nU, nU, nU] []))
  refine G1 (fun _ k => XS.iconst X10.here hx rfl (hb hby d5_187) k) ?_
  refine G1 (fun _ k => XS.istore X10.here hx rfl (hb hby d5_188) rfl (l' := #[.val (.ref x0), nD tm, nS, .val (.ref x2), nD d5, nS, .val (.int (0 : Int32)), nD d11, nS, nD d13, nS, nD d14, nS, nD d18, nS, nD d21, nS, nD d24, nS, nD d25, nS, nD d28, nS, nD d32, nS, nD d35, nS, nD d38, nS, .val (.int (0 : Int32)), .val (.int (6 : Int32)), .val (.int (0 : Int32)), nU, nU, nU, nU, nU, nU, nU, nU]) rfl k) ?_
  show Goes _ _ _ _ _ _ _ (T10.setTop (mkF m 190 _ []))
  refine G1 (fun _ k => XS.iload X10.here hx rfl (hb hby d5_190) rfl  k) ?_
  refine G1 (fun _ k => XS.iconst X10.here hx rfl (hb hby d5_192) k) ?_
  refine G1 (fun _ k => XS.icmpNo X10.here hx rfl (hb hby d5_193) rfl (tlt (by decide : (0 : Int32) < (3 : Int32))).2.1 k) ?_
  show Goes _ _ _ _ _ _ _ (T10.setTop (mkF m 196 #[.val (.ref x0), nD tm, nS, .val (.ref x2), nD d5, nS, .val (.int (0 : Int32)), nD d11, nS, nD d13, nS, nD d14, nS, nD d18, nS, nD d21, nS, nD d24, nS, nD d25, nS, nD d28, nS, nD d32, nS, nD d35, nS, nD d38, nS, .val (.int (0 : Int32)), .val (.int (6 : Int32)), .val (.int (0 : Int32)), nU, nU, nU, nU, nU, nU, nU, nU] []))
  refine G1 (fun _ k => XS.aloadN X10.here hx rfl (hb hby d5_196) rfl rfl k) ?_
  obtain ⟨T39, X39, e39, st39⟩ := getF X10 hx hZ hown (host := "") (Or.inl w_24) Via.refl eh10 F_sam (g := (mkF m 197 #[.val (.ref x0), nD tm, nS, .val (.ref x2), nD d5, nS, .val (.int (0 : Int32)), nD d11, nS, nD d13, nS, nD d14, nS, nD d18, nS, nD d21, nS, nD d24, nS, nD d25, nS, nD d28, nS, nD d32, nS, nD d35, nS, nD d38, nS, .val (.int (0 : Int32)), .val (.int (6 : Int32)), .val (.int (0 : Int32)), nU, nU, nU, nU, nU, nU, nU, nU] [(.ref x0)])) rfl rfl (hb hby d5_197)
  refine G1 st39 ?_
  show Goes _ _ _ _ _ _ _ (T39.setTop (mkF m 200 _ [(.ref sa)]))
  refine G1 (fun _ k => XS.iload X39.here hx rfl (hb hby d5_200) rfl  k) ?_
  refine G1 (fun _ k => XS.iload X39.here hx rfl (hb hby d5_202) rfl  k) ?_
  refine G1 (fun _ k => XS.iadd X39.here hx rfl (hb hby d5_204) rfl k) ?_
  show Goes _ _ _ _ _ _ _ (T39.setTop (mkF m 205 #[.val (.ref x0), nD tm, nS, .val (.ref x2), nD d5, nS, .val (.int (0 : Int32)), nD d11, nS, nD d13, nS, nD d14, nS, nD d18, nS, nD d21, nS, nD d24, nS, nD d25, nS, nD d28, nS, nD d32, nS, nD d35, nS, nD d38, nS, .val (.int (0 : Int32)), .val (.int (6 : Int32)), .val (.int (0 : Int32)), nU, nU, nU, nU, nU, nU, nU, nU] [(.int (0 : Int32)), (.ref sa)]))
  obtain ⟨cl40, Ar40, q40, S40, P40, H40, G40⟩ := id V_sa
  have hin40 : ¬ ((0 : Int32) < 0 ∨ cl40.slots.size ≤ ((0 : Int32)).toNatClampNeg) := inb_of S40 ⟨by decide, by decide⟩
  have hat40 : cl40.slots[((0 : Int32)).toNatClampNeg]? = some (.double ve0) := H40 _ (by rw [S40]; decide)
  refine G1 (fun _ k => X39.daload hx (j := (0 : Int32)) (v := (.double ve0)) (by rw [e39]; exact Ar40.1) (State.isArrayOf_alike hZ.alike Ar40.2.1) Ar40.2.2 hin40 hat40 (g := (mkF m 205 #[.val (.ref x0), nD tm, nS, .val (.ref x2), nD d5, nS, .val (.int (0 : Int32)), nD d11, nS, nD d13, nS, nD d14, nS, nD d18, nS, nD d21, nS, nD d24, nS, nD d25, nS, nD d28, nS, nD d32, nS, nD d35, nS, nD d38, nS, .val (.int (0 : Int32)), .val (.int (6 : Int32)), .val (.int (0 : Int32)), nU, nU, nU, nU, nU, nU, nU, nU] [(.int (0 : Int32)), (.ref sa)])) rfl rfl (hb hby d5_205) _ k) ?_
  show Goes _ _ _ _ _ _ _ (T39.setTop (mkF m 206 _ [(.double ve0)]))
  refine G1 (fun _ k => XS.dstore X39.here hx rfl (hb hby d5_206) rfl (l' := #[.val (.ref x0), nD tm, nS, .val (.ref x2), nD d5, nS, .val (.int (0 : Int32)), nD d11, nS, nD d13, nS, nD d14, nS, nD d18, nS, nD d21, nS, nD d24, nS, nD d25, nS, nD d28, nS, nD d32, nS, nD d35, nS, nD d38, nS, .val (.int (0 : Int32)), .val (.int (6 : Int32)), .val (.int (0 : Int32)), nD ve0, nS, nU, nU, nU, nU, nU, nU]) rfl k) ?_
  show Goes _ _ _ _ _ _ _ (T39.setTop (mkF m 208 #[.val (.ref x0), nD tm, nS, .val (.ref x2), nD d5, nS, .val (.int (0 : Int32)), nD d11, nS, nD d13, nS, nD d14, nS, nD d18, nS, nD d21, nS, nD d24, nS, nD d25, nS, nD d28, nS, nD d32, nS, nD d35, nS, nD d38, nS, .val (.int (0 : Int32)), .val (.int (6 : Int32)), .val (.int (0 : Int32)), nD ve0, nS, nU, nU, nU, nU, nU, nU] []))
  refine G1 (fun _ k => XS.aloadN X39.here hx rfl (hb hby d5_208) rfl rfl k) ?_
  obtain ⟨T41, X41, e41, st41⟩ := getF X39 hx hZ hown (host := "") (Or.inl w_24) Via.refl e39 F_sam (g := (mkF m 209 #[.val (.ref x0), nD tm, nS, .val (.ref x2), nD d5, nS, .val (.int (0 : Int32)), nD d11, nS, nD d13, nS, nD d14, nS, nD d18, nS, nD d21, nS, nD d24, nS, nD d25, nS, nD d28, nS, nD d32, nS, nD d35, nS, nD d38, nS, .val (.int (0 : Int32)), .val (.int (6 : Int32)), .val (.int (0 : Int32)), nD ve0, nS, nU, nU, nU, nU, nU, nU] [(.ref x0)])) rfl rfl (hb hby d5_209)
  refine G1 st41 ?_
  show Goes _ _ _ _ _ _ _ (T41.setTop (mkF m 212 _ [(.ref sa)]))
  refine G1 (fun _ k => XS.iload X41.here hx rfl (hb hby d5_212) rfl  k) ?_
  refine G1 (fun _ k => XS.iconst X41.here hx rfl (hb hby d5_214) k) ?_
  refine G1 (fun _ k => XS.iadd X41.here hx rfl (hb hby d5_215) rfl k) ?_
  show Goes _ _ _ _ _ _ _ (T41.setTop (mkF m 216 #[.val (.ref x0), nD tm, nS, .val (.ref x2), nD d5, nS, .val (.int (0 : Int32)), nD d11, nS, nD d13, nS, nD d14, nS, nD d18, nS, nD d21, nS, nD d24, nS, nD d25, nS, nD d28, nS, nD d32, nS, nD d35, nS, nD d38, nS, .val (.int (0 : Int32)), .val (.int (6 : Int32)), .val (.int (0 : Int32)), nD ve0, nS, nU, nU, nU, nU, nU, nU] [(.int (3 : Int32)), (.ref sa)]))
  refine G1 (fun _ k => XS.iload X41.here hx rfl (hb hby d5_216) rfl  k) ?_
  refine G1 (fun _ k => XS.iadd X41.here hx rfl (hb hby d5_218) rfl k) ?_
  show Goes _ _ _ _ _ _ _ (T41.setTop (mkF m 219 _ [(.int (3 : Int32)), (.ref sa)]))
  obtain ⟨cl42, Ar42, q42, S42, P42, H42, G42⟩ := id V_sa
  have hin42 : ¬ ((3 : Int32) < 0 ∨ cl42.slots.size ≤ ((3 : Int32)).toNatClampNeg) := inb_of S42 ⟨by decide, by decide⟩
  have hat42 : cl42.slots[((3 : Int32)).toNatClampNeg]? = some (.double ve3) := H42 _ (by rw [S42]; decide)
  refine G1 (fun _ k => X41.daload hx (j := (3 : Int32)) (v := (.double ve3)) (by rw [e41]; exact Ar42.1) (State.isArrayOf_alike hZ.alike Ar42.2.1) Ar42.2.2 hin42 hat42 (g := (mkF m 219 #[.val (.ref x0), nD tm, nS, .val (.ref x2), nD d5, nS, .val (.int (0 : Int32)), nD d11, nS, nD d13, nS, nD d14, nS, nD d18, nS, nD d21, nS, nD d24, nS, nD d25, nS, nD d28, nS, nD d32, nS, nD d35, nS, nD d38, nS, .val (.int (0 : Int32)), .val (.int (6 : Int32)), .val (.int (0 : Int32)), nD ve0, nS, nU, nU, nU, nU, nU, nU] [(.int (3 : Int32)), (.ref sa)])) rfl rfl (hb hby d5_219) _ k) ?_
  show Goes _ _ _ _ _ _ _ (T41.setTop (mkF m 220 #[.val (.ref x0), nD tm, nS, .val (.ref x2), nD d5, nS, .val (.int (0 : Int32)), nD d11, nS, nD d13, nS, nD d14, nS, nD d18, nS, nD d21, nS, nD d24, nS, nD d25, nS, nD d28, nS, nD d32, nS, nD d35, nS, nD d38, nS, .val (.int (0 : Int32)), .val (.int (6 : Int32)), .val (.int (0 : Int32)), nD ve0, nS, nU, nU, nU, nU, nU, nU] [(.double ve3)]))
  refine G1 (fun _ k => XS.aloadN X41.here hx rfl (hb hby d5_220) rfl rfl k) ?_
  obtain ⟨T43, X43, e43, st43⟩ := getF X41 hx hZ hown (host := "") (Or.inl w_22) Via.refl e41 F_step (g := (mkF m 221 #[.val (.ref x0), nD tm, nS, .val (.ref x2), nD d5, nS, .val (.int (0 : Int32)), nD d11, nS, nD d13, nS, nD d14, nS, nD d18, nS, nD d21, nS, nD d24, nS, nD d25, nS, nD d28, nS, nD d32, nS, nD d35, nS, nD d38, nS, .val (.int (0 : Int32)), .val (.int (6 : Int32)), .val (.int (0 : Int32)), nD ve0, nS, nU, nU, nU, nU, nU, nU] [(.ref x0), (.double ve3)])) rfl rfl (hb hby d5_221)
  refine G1 st43 ?_
  show Goes _ _ _ _ _ _ _ (T43.setTop (mkF m 224 _ [(.double stp), (.double ve3)]))
  obtain ⟨d44, hd44⟩ : ∃ z, FP.dmul ve3 stp = z := ⟨_, rfl⟩
  have fr44 : OwnF.Fr 0 (vP3 * si) 33554432 d44 := by rw [← hd44]; exact OwnF.Fr.dmul fP3 fs (by decide)
  refine G1 (fun _ k => XS.dmulS X43.here hx rfl (hb hby d5_224) rfl (by rw [hd44]; exact own_nn fr44) hd44 k) ?_
  show Goes _ _ _ _ _ _ _ (T43.setTop (mkF m 225 #[.val (.ref x0), nD tm, nS, .val (.ref x2), nD d5, nS, .val (.int (0 : Int32)), nD d11, nS, nD d13, nS, nD d14, nS, nD d18, nS, nD d21, nS, nD d24, nS, nD d25, nS, nD d28, nS, nD d32, nS, nD d35, nS, nD d38, nS, .val (.int (0 : Int32)), .val (.int (6 : Int32)), .val (.int (0 : Int32)), nD ve0, nS, nU, nU, nU, nU, nU, nU] [(.double d44)]))
  refine G1 (fun _ k => XS.dstore X43.here hx rfl (hb hby d5_225) rfl (l' := #[.val (.ref x0), nD tm, nS, .val (.ref x2), nD d5, nS, .val (.int (0 : Int32)), nD d11, nS, nD d13, nS, nD d14, nS, nD d18, nS, nD d21, nS, nD d24, nS, nD d25, nS, nD d28, nS, nD d32, nS, nD d35, nS, nD d38, nS, .val (.int (0 : Int32)), .val (.int (6 : Int32)), .val (.int (0 : Int32)), nD ve0, nS, nD d44, nS, nU, nU, nU, nU]) rfl k) ?_
  show Goes _ _ _ _ _ _ _ (T43.setTop (mkF m 227 _ []))
  refine G1 (fun _ k => XS.aloadN X43.here hx rfl (hb hby d5_227) rfl rfl k) ?_
  obtain ⟨T45, X45, e45, st45⟩ := getF X43 hx hZ hown (host := "") (Or.inl w_24) Via.refl e43 F_sam (g := (mkF m 228 #[.val (.ref x0), nD tm, nS, .val (.ref x2), nD d5, nS, .val (.int (0 : Int32)), nD d11, nS, nD d13, nS, nD d14, nS, nD d18, nS, nD d21, nS, nD d24, nS, nD d25, nS, nD d28, nS, nD d32, nS, nD d35, nS, nD d38, nS, .val (.int (0 : Int32)), .val (.int (6 : Int32)), .val (.int (0 : Int32)), nD ve0, nS, nD d44, nS, nU, nU, nU, nU] [(.ref x0)])) rfl rfl (hb hby d5_228)
  refine G1 st45 ?_
  show Goes _ _ _ _ _ _ _ (T45.setTop (mkF m 231 #[.val (.ref x0), nD tm, nS, .val (.ref x2), nD d5, nS, .val (.int (0 : Int32)), nD d11, nS, nD d13, nS, nD d14, nS, nD d18, nS, nD d21, nS, nD d24, nS, nD d25, nS, nD d28, nS, nD d32, nS, nD d35, nS, nD d38, nS, .val (.int (0 : Int32)), .val (.int (6 : Int32)), .val (.int (0 : Int32)), nD ve0, nS, nD d44, nS, nU, nU, nU, nU] [(.ref sa)]))
  refine G1 (fun _ k => XS.iload X45.here hx rfl (hb hby d5_231) rfl  k) ?_
  refine G1 (fun _ k => XS.iload X45.here hx rfl (hb hby d5_233) rfl  k) ?_
  refine G1 (fun _ k => XS.iadd X45.here hx rfl (hb hby d5_235) rfl k) ?_
  show Goes _ _ _ _ _ _ _ (T45.setTop (mkF m 236 _ [(.int (6 : Int32)), (.ref sa)]))
  obtain ⟨cl46, Ar46, q46, S46, P46, H46, G46⟩ := id V_sa
  have hin46 : ¬ ((6 : Int32) < 0 ∨ cl46.slots.size ≤ ((6 : Int32)).toNatClampNeg) := inb_of S46 ⟨by decide, by decide⟩
  have hat46 : cl46.slots[((6 : Int32)).toNatClampNeg]? = some (.double ve6) := H46 _ (by rw [S46]; decide)
  refine G1 (fun _ k => X45.daload hx (j := (6 : Int32)) (v := (.double ve6)) (by rw [e45]; exact Ar46.1) (State.isArrayOf_alike hZ.alike Ar46.2.1) Ar46.2.2 hin46 hat46 (g := (mkF m 236 #[.val (.ref x0), nD tm, nS, .val (.ref x2), nD d5, nS, .val (.int (0 : Int32)), nD d11, nS, nD d13, nS, nD d14, nS, nD d18, nS, nD d21, nS, nD d24, nS, nD d25, nS, nD d28, nS, nD d32, nS, nD d35, nS, nD d38, nS, .val (.int (0 : Int32)), .val (.int (6 : Int32)), .val (.int (0 : Int32)), nD ve0, nS, nD d44, nS, nU, nU, nU, nU] [(.int (6 : Int32)), (.ref sa)])) rfl rfl (hb hby d5_236) _ k) ?_
  show Goes _ _ _ _ _ _ _ (T45.setTop (mkF m 237 #[.val (.ref x0), nD tm, nS, .val (.ref x2), nD d5, nS, .val (.int (0 : Int32)), nD d11, nS, nD d13, nS, nD d14, nS, nD d18, nS, nD d21, nS, nD d24, nS, nD d25, nS, nD d28, nS, nD d32, nS, nD d35, nS, nD d38, nS, .val (.int (0 : Int32)), .val (.int (6 : Int32)), .val (.int (0 : Int32)), nD ve0, nS, nD d44, nS, nU, nU, nU, nU] [(.double ve6)]))
  refine G1 (fun _ k => XS.dstore X45.here hx rfl (hb hby d5_237) rfl (l' := #[.val (.ref x0), nD tm, nS, .val (.ref x2), nD d5, nS, .val (.int (0 : Int32)), nD d11, nS, nD d13, nS, nD d14, nS, nD d18, nS, nD d21, nS, nD d24, nS, nD d25, nS, nD d28, nS, nD d32, nS, nD d35, nS, nD d38, nS, .val (.int (0 : Int32)), .val (.int (6 : Int32)), .val (.int (0 : Int32)), nD ve0, nS, nD d44, nS, nD ve6, nS, nU, nU]) rfl k) ?_
  show Goes _ _ _ _ _ _ _ (T45.setTop (mkF m 239 _ []))
  refine G1 (fun _ k => XS.aloadN X45.here hx rfl (hb hby d5_239) rfl rfl k) ?_
  obtain ⟨T47, X47, e47, st47⟩ := getF X45 hx hZ hown (host := "") (Or.inl w_24) Via.refl e45 F_sam (g := (mkF m 240 #[.val (.ref x0), nD tm, nS, .val (.ref x2), nD d5, nS, .val (.int (0 : Int32)), nD d11, nS, nD d13, nS, nD d14, nS, nD d18, nS, nD d21, nS, nD d24, nS, nD d25, nS, nD d28, nS, nD d32, nS, nD d35, nS, nD d38, nS, .val (.int (0 : Int32)), .val (.int (6 : Int32)), .val (.int (0 : Int32)), nD ve0, nS, nD d44, nS, nD ve6, nS, nU, nU] [(.ref x0)])) rfl rfl (hb hby d5_240)
  refine G1 st47 ?_
  show Goes _ _ _ _ _ _ _ (T47.setTop (mkF m 243 #[.val (.ref x0), nD tm, nS, .val (.ref x2), nD d5, nS, .val (.int (0 : Int32)), nD d11, nS, nD d13, nS, nD d14, nS, nD d18, nS, nD d21, nS, nD d24, nS, nD d25, nS, nD d28, nS, nD d32, nS, nD d35, nS, nD d38, nS, .val (.int (0 : Int32)), .val (.int (6 : Int32)), .val (.int (0 : Int32)), nD ve0, nS, nD d44, nS, nD ve6, nS, nU, nU] [(.ref sa)]))
  refine G1 (fun _ k => XS.iload X47.here hx rfl (hb hby d5_243) rfl  k) ?_
  refine G1 (fun _ k => XS.iconst X47.here hx rfl (hb hby d5_245) k) ?_
  refine G1 (fun _ k => XS.iadd X47.here hx rfl (hb hby d5_246) rfl k) ?_
  show Goes _ _ _ _ _ _ _ (T47.setTop (mkF m 247 _ [(.int (9 : Int32)), (.ref sa)]))
  refine G1 (fun _ k => XS.iload X47.here hx rfl (hb hby d5_247) rfl  k) ?_
  refine G1 (fun _ k => XS.iadd X47.here hx rfl (hb hby d5_249) rfl k) ?_
  show Goes _ _ _ _ _ _ _ (T47.setTop (mkF m 250 #[.val (.ref x0), nD tm, nS, .val (.ref x2), nD d5, nS, .val (.int (0 : Int32)), nD d11, nS, nD d13, nS, nD d14, nS, nD d18, nS, nD d21, nS, nD d24, nS, nD d25, nS, nD d28, nS, nD d32, nS, nD d35, nS, nD d38, nS, .val (.int (0 : Int32)), .val (.int (6 : Int32)), .val (.int (0 : Int32)), nD ve0, nS, nD d44, nS, nD ve6, nS, nU, nU] [(.int (9 : Int32)), (.ref sa)]))
  obtain ⟨cl48, Ar48, q48, S48, P48, H48, G48⟩ := id V_sa
  have hin48 : ¬ ((9 : Int32) < 0 ∨ cl48.slots.size ≤ ((9 : Int32)).toNatClampNeg) := inb_of S48 ⟨by decide, by decide⟩
  have hat48 : cl48.slots[((9 : Int32)).toNatClampNeg]? = some (.double ve9) := H48 _ (by rw [S48]; decide)
  refine G1 (fun _ k => X47.daload hx (j := (9 : Int32)) (v := (.double ve9)) (by rw [e47]; exact Ar48.1) (State.isArrayOf_alike hZ.alike Ar48.2.1) Ar48.2.2 hin48 hat48 (g := (mkF m 250 #[.val (.ref x0), nD tm, nS, .val (.ref x2), nD d5, nS, .val (.int (0 : Int32)), nD d11, nS, nD d13, nS, nD d14, nS, nD d18, nS, nD d21, nS, nD d24, nS, nD d25, nS, nD d28, nS, nD d32, nS, nD d35, nS, nD d38, nS, .val (.int (0 : Int32)), .val (.int (6 : Int32)), .val (.int (0 : Int32)), nD ve0, nS, nD d44, nS, nD ve6, nS, nU, nU] [(.int (9 : Int32)), (.ref sa)])) rfl rfl (hb hby d5_250) _ k) ?_
  show Goes _ _ _ _ _ _ _ (T47.setTop (mkF m 251 _ [(.double ve9)]))
  refine G1 (fun _ k => XS.aloadN X47.here hx rfl (hb hby d5_251) rfl rfl k) ?_
  obtain ⟨T49, X49, e49, st49⟩ := getF X47 hx hZ hown (host := "") (Or.inl w_22) Via.refl e47 F_step (g := (mkF m 252 #[.val (.ref x0), nD tm, nS, .val (.ref x2), nD d5, nS, .val (.int (0 : Int32)), nD d11, nS, nD d13, nS, nD d14, nS, nD d18, nS, nD d21, nS, nD d24, nS, nD d25, nS, nD d28, nS, nD d32, nS, nD d35, nS, nD d38, nS, .val (.int (0 : Int32)), .val (.int (6 : Int32)), .val (.int (0 : Int32)), nD ve0, nS, nD d44, nS, nD ve6, nS, nU, nU] [(.ref x0), (.double ve9)])) rfl rfl (hb hby d5_252)
  refine G1 st49 ?_
  show Goes _ _ _ _ _ _ _ (T49.setTop (mkF m 255 #[.val (.ref x0), nD tm, nS, .val (.ref x2), nD d5, nS, .val (.int (0 : Int32)), nD d11, nS, nD d13, nS, nD d14, nS, nD d18, nS, nD d21, nS, nD d24, nS, nD d25, nS, nD d28, nS, nD d32, nS, nD d35, nS, nD d38, nS, .val (.int (0 : Int32)), .val (.int (6 : Int32)), .val (.int (0 : Int32)), nD ve0, nS, nD d44, nS, nD ve6, nS, nU, nU] [(.double stp), (.double ve9)]))
  obtain ⟨d50, hd50⟩ : ∃ z, FP.dmul ve9 stp = z := ⟨_, rfl⟩
  have fr50 : OwnF.Fr 0 (vP9 * si) 33554432 d50 := by rw [← hd50]; exact OwnF.Fr.dmul fP9 fs (by decide)
  refine G1 (fun _ k => XS.dmulS X49.here hx rfl (hb hby d5_255) rfl (by rw [hd50]; exact own_nn fr50) hd50 k) ?_
  show Goes _ _ _ _ _ _ _ (T49.setTop (mkF m 256 _ [(.double d50)]))
  refine G1 (fun _ k => XS.dstore X49.here hx rfl (hb hby d5_256) rfl (l' := #[.val (.ref x0), nD tm, nS, .val (.ref x2), nD d5, nS, .val (.int (0 : Int32)), nD d11, nS, nD d13, nS, nD d14, nS, nD d18, nS, nD d21, nS, nD d24, nS, nD d25, nS, nD d28, nS, nD d32, nS, nD d35, nS, nD d38, nS, .val (.int (0 : Int32)), .val (.int (6 : Int32)), .val (.int (0 : Int32)), nD ve0, nS, nD d44, nS, nD ve6, nS, nD d50, nS]) rfl k) ?_
  show Goes _ _ _ _ _ _ _ (T49.setTop (mkF m 258 #[.val (.ref x0), nD tm, nS, .val (.ref x2), nD d5, nS, .val (.int (0 : Int32)), nD d11, nS, nD d13, nS, nD d14, nS, nD d18, nS, nD d21, nS, nD d24, nS, nD d25, nS, nD d28, nS, nD d32, nS, nD d35, nS, nD d38, nS, .val (.int (0 : Int32)), .val (.int (6 : Int32)), .val (.int (0 : Int32)), nD ve0, nS, nD d44, nS, nD ve6, nS, nD d50, nS] []))
  refine G1 (fun _ k => XS.aloadN X49.here hx rfl (hb hby d5_258) rfl rfl k) ?_
  refine G1 (fun _ k => XS.iload X49.here hx rfl (hb hby d5_259) rfl  k) ?_
  refine G1 (fun _ k => XS.dload X49.here hx rfl (hb hby d5_261) rfl k) ?_
  refine G1 (fun _ k => XS.dload X49.here hx rfl (hb hby d5_263) rfl k) ?_
  show Goes _ _ _ _ _ _ _ (T49.setTop (mkF m 265 _ [(.double ve0), (.double d18), (.int (0 : Int32)), (.ref x2)]))
  obtain ⟨d51, hd51⟩ : ∃ z, FP.dmul d18 ve0 = z := ⟨_, rfl⟩
  have fr51 : OwnF.Fr 9 (((((2 : Int) * ((jv * jv) * jv)) - (((3 : Int) * (jv * jv)) * ((2 ^ 3 : Nat) : Int))) + ((1 : Int) * ((2 ^ 9 : Nat) : Int))) * vP0) 498216206336 d51 := by rw [← hd51]; exact OwnF.Fr.dmul fr18 fP0 (by decide)
  refine G1 (fun _ k => XS.dmulS X49.here hx rfl (hb hby d5_265) rfl (by rw [hd51]; exact own_nn fr51) hd51 k) ?_
  show Goes _ _ _ _ _ _ _ (T49.setTop (mkF m 266 #[.val (.ref x0), nD tm, nS, .val (.ref x2), nD d5, nS, .val (.int (0 : Int32)), nD d11, nS, nD d13, nS, nD d14, nS, nD d18, nS, nD d21, nS, nD d24, nS, nD d25, nS, nD d28, nS, nD d32, nS, nD d35, nS, nD d38, nS, .val (.int (0 : Int32)), .val (.int (6 : Int32)), .val (.int (0 : Int32)), nD ve0, nS, nD d44, nS, nD ve6, nS, nD d50, nS] [(.double d51), (.int (0 : Int32)), (.ref x2)]))
  refine G1 (fun _ k => XS.dload X49.here hx rfl (hb hby d5_266) rfl k) ?_
  refine G1 (fun _ k => XS.dload X49.here hx rfl (hb hby d5_268) rfl k) ?_
  obtain ⟨d52, hd52⟩ : ∃ z, FP.dmul d21 d44 = z := ⟨_, rfl⟩
  have fr52 : OwnF.Fr 9 (((((jv * jv) * jv) - (((2 : Int) * (jv * jv)) * ((2 ^ 3 : Nat) : Int))) + (jv * ((2 ^ 6 : Nat) : Int))) * (vP3 * si)) 309237645312 d52 := by rw [← hd52]; exact OwnF.Fr.dmul fr21 fr44 (by decide)
  refine G1 (fun _ k => XS.dmulS X49.here hx rfl (hb hby d5_270) rfl (by rw [hd52]; exact own_nn fr52) hd52 k) ?_
  show Goes _ _ _ _ _ _ _ (T49.setTop (mkF m 271 _ [(.double d52), (.double d51), (.int (0 : Int32)), (.ref x2)]))
  obtain ⟨d53, hd53⟩ : ∃ z, FP.dadd d51 d52 = z := ⟨_, rfl⟩
  have fr53 : OwnF.Fr 9 ((((((2 : Int) * ((jv * jv) * jv)) - (((3 : Int) * (jv * jv)) * ((2 ^ 3 : Nat) : Int))) + ((1 : Int) * ((2 ^ 9 : Nat) : Int))) * vP0) + (((((jv * jv) * jv) - (((2 : Int) * (jv * jv)) * ((2 ^ 3 : Nat) : Int))) + (jv * ((2 ^ 6 : Nat) : Int))) * (vP3 * si))) 807453851648 d53 := by rw [← hd53]; exact OwnF.Fr.dadd fr51 fr52 (by decide)
  refine G1 (fun _ k => XS.daddS X49.here hx rfl (hb hby d5_271) rfl (by rw [hd53]; exact own_nn fr53) hd53 k) ?_
  show Goes _ _ _ _ _ _ _ (T49.setTop (mkF m 272 #[.val (.ref x0), nD tm, nS, .val (.ref x2), nD d5, nS, .val (.int (0 : Int32)), nD d11, nS, nD d13, nS, nD d14, nS, nD d18, nS, nD d21, nS, nD d24, nS, nD d25, nS, nD d28, nS, nD d32, nS, nD d35, nS, nD d38, nS, .val (.int (0 : Int32)), .val (.int (6 : Int32)), .val (.int (0 : Int32)), nD ve0, nS, nD d44, nS, nD ve6, nS, nD d50, nS] [(.double d53), (.int (0 : Int32)), (.ref x2)]))
  refine G1 (fun _ k => XS.dload X49.here hx rfl (hb hby d5_272) rfl k) ?_
  refine G1 (fun _ k => XS.dload X49.here hx rfl (hb hby d5_274) rfl k) ?_
  obtain ⟨d54, hd54⟩ : ∃ z, FP.dmul d24 ve6 = z := ⟨_, rfl⟩
  have fr54 : OwnF.Fr 9 ((((-2 : Int) * ((jv * jv) * jv)) + (((3 : Int) * (jv * jv)) * ((2 ^ 3 : Nat) : Int))) * vP6) 481036337152 d54 := by rw [← hd54]; exact OwnF.Fr.dmul fr24 fP6 (by decide)
  refine G1 (fun _ k => XS.dmulS X49.here hx rfl (hb hby d5_276) rfl (by rw [hd54]; exact own_nn fr54) hd54 k) ?_
  show Goes _ _ _ _ _ _ _ (T49.setTop (mkF m 277 _ [(.double d54), (.double d53), (.int (0 : Int32)), (.ref x2)]))
  obtain ⟨d55, hd55⟩ : ∃ z, FP.dadd d53 d54 = z := ⟨_, rfl⟩
  have fr55 : OwnF.Fr 9 (((((((2 : Int) * ((jv * jv) * jv)) - (((3 : Int) * (jv * jv)) * ((2 ^ 3 : Nat) : Int))) + ((1 : Int) * ((2 ^ 9 : Nat) : Int))) * vP0) + (((((jv * jv) * jv) - (((2 : Int) * (jv * jv)) * ((2 ^ 3 : Nat) : Int))) + (jv * ((2 ^ 6 : Nat) : Int))) * (vP3 * si))) + ((((-2 : Int) * ((jv * jv) * jv)) + (((3 : Int) * (jv * jv)) * ((2 ^ 3 : Nat) : Int))) * vP6)) 1288490188800 d55 := by rw [← hd55]; exact OwnF.Fr.dadd fr53 fr54 (by decide)
  refine G1 (fun _ k => XS.daddS X49.here hx rfl (hb hby d5_277) rfl (by rw [hd55]; exact own_nn fr55) hd55 k) ?_
  show Goes _ _ _ _ _ _ _ (T49.setTop (mkF m 278 #[.val (.ref x0), nD tm, nS, .val (.ref x2), nD d5, nS, .val (.int (0 : Int32)), nD d11, nS, nD d13, nS, nD d14, nS, nD d18, nS, nD d21, nS, nD d24, nS, nD d25, nS, nD d28, nS, nD d32, nS, nD d35, nS, nD d38, nS, .val (.int (0 : Int32)), .val (.int (6 : Int32)), .val (.int (0 : Int32)), nD ve0, nS, nD d44, nS, nD ve6, nS, nD d50, nS] [(.double d55), (.int (0 : Int32)), (.ref x2)]))
  refine G1 (fun _ k => XS.dload X49.here hx rfl (hb hby d5_278) rfl k) ?_
  refine G1 (fun _ k => XS.dload X49.here hx rfl (hb hby d5_280) rfl k) ?_
  obtain ⟨d56, hd56⟩ : ∃ z, FP.dmul d25 d50 = z := ⟨_, rfl⟩
  have fr56 : OwnF.Fr 9 ((((jv * jv) * jv) - ((jv * jv) * ((2 ^ 3 : Nat) : Int))) * (vP9 * si)) 206158430208 d56 := by rw [← hd56]; exact OwnF.Fr.dmul fr25 fr50 (by decide)
  refine G1 (fun _ k => XS.dmulS X49.here hx rfl (hb hby d5_282) rfl (by rw [hd56]; exact own_nn fr56) hd56 k) ?_
  show Goes _ _ _ _ _ _ _ (T49.setTop (mkF m 283 _ [(.double d56), (.double d55), (.int (0 : Int32)), (.ref x2)]))
  obtain ⟨d57, hd57⟩ : ∃ z, FP.dadd d55 d56 = z := ⟨_, rfl⟩
  have fr57 : OwnF.Fr 9 ((((((((2 : Int) * ((jv * jv) * jv)) - (((3 : Int) * (jv * jv)) * ((2 ^ 3 : Nat) : Int))) + ((1 : Int) * ((2 ^ 9 : Nat) : Int))) * vP0) + (((((jv * jv) * jv) - (((2 : Int) * (jv * jv)) * ((2 ^ 3 : Nat) : Int))) + (jv * ((2 ^ 6 : Nat) : Int))) * (vP3 * si))) + ((((-2 : Int) * ((jv * jv) * jv)) + (((3 : Int) * (jv * jv)) * ((2 ^ 3 : Nat) : Int))) * vP6)) + ((((jv * jv) * jv) - ((jv * jv) * ((2 ^ 3 : Nat) : Int))) * (vP9 * si))) 1494648619008 d57 := by rw [← hd57]; exact OwnF.Fr.dadd fr55 fr56 (by decide)
  refine G1 (fun _ k => XS.daddS X49.here hx rfl (hb hby d5_283) rfl (by rw [hd57]; exact own_nn fr57) hd57 k) ?_
  show Goes _ _ _ _ _ _ _ (T49.setTop (mkF m 284 #[.val (.ref x0), nD tm, nS, .val (.ref x2), nD d5, nS, .val (.int (0 : Int32)), nD d11, nS, nD d13, nS, nD d14, nS, nD d18, nS, nD d21, nS, nD d24, nS, nD d25, nS, nD d28, nS, nD d32, nS, nD d35, nS, nD d38, nS, .val (.int (0 : Int32)), .val (.int (6 : Int32)), .val (.int (0 : Int32)), nD ve0, nS, nD d44, nS, nD ve6, nS, nD d50, nS] [(.double d57), (.int (0 : Int32)), (.ref x2)]))
  obtain ⟨cl58, Ar58, q58, S58, P58, H58, G58⟩ := id V_x2
  have hin58 : ¬ ((0 : Int32) < 0 ∨ cl58.slots.size ≤ ((0 : Int32)).toNatClampNeg) := inb_of S58 ⟨by decide, by decide⟩
  obtain ⟨T59, h59, X59, e59, W59, st59⟩ := stD X49 hx hZ e49 Ar58 (j := (0 : Int32)) hin58 (g := (mkF m 284 #[.val (.ref x0), nD tm, nS, .val (.ref x2), nD d5, nS, .val (.int (0 : Int32)), nD d11, nS, nD d13, nS, nD d14, nS, nD d18, nS, nD d21, nS, nD d24, nS, nD d25, nS, nD d28, nS, nD d32, nS, nD d35, nS, nD d38, nS, .val (.int (0 : Int32)), .val (.int (6 : Int32)), .val (.int (0 : Int32)), nD ve0, nS, nD d44, nS, nD ve6, nS, nD d50, nS] [(.double d57), (.int (0 : Int32)), (.ref x2)])) rfl rfl (hb hby d5_284)
  refine G1 st59 ?_
  have V59 := Arv.set Ar58 q58 S58 P58 H58 G58 rfl W59 0 rfl (Nat.le_of_ble_eq_true rfl)
  have f60 := F_step.other W59 (Or.inl ne1)
  have f61 := F_sam.other W59 (Or.inl ne1)
  have f62 := F_size.other W59 (Or.inl ne1)
  have f63 := V_sa.other W59 ne2
  have f64 := V59
  have K65 : Keep h0 h59 [x2] := K0.wr W59 (Or.inl (List.mem_of_getElem? (i := 0) rfl))
  have Z65 : n0 ≤ h59.size := by rw [Wr.size W59]; exact Z0
  have N65 := Fr.snoc X59 NA10 g_x2
  show Goes _ _ _ _ _ _ _ (T59.setTop (mkF m 285 _ []))
  refine G1 (fun _ k => XS.aloadN X59.here hx rfl (hb hby d5_285) rfl rfl k) ?_
  refine G1 (fun _ k => XS.iconst X59.here hx rfl (hb hby d5_286) k) ?_
  refine G1 (fun _ k => XS.iload X59.here hx rfl (hb hby d5_287) rfl  k) ?_
  refine G1 (fun _ k => XS.iadd X59.here hx rfl (hb hby d5_289) rfl k) ?_
  show Goes _ _ _ _ _ _ _ (T59.setTop (mkF m 290 #[.val (.ref x0), nD tm, nS, .val (.ref x2), nD d5, nS, .val (.int (0 : Int32)), nD d11, nS, nD d13, nS, nD d14, nS, nD d18, nS, nD d21, nS, nD d24, nS, nD d25, nS, nD d28, nS, nD d32, nS, nD d35, nS, nD d38, nS, .val (.int (0 : Int32)), .val (.int (6 : Int32)), .val (.int (0 : Int32)), nD ve0, nS, nD d44, nS, nD ve6, nS, nD d50, nS] [(.int (3 : Int32)), (.ref x2)]))
  refine G1 (fun _ k => XS.dload X59.here hx rfl (hb hby d5_290) rfl k) ?_
  refine G1 (fun _ k => XS.dload X59.here hx rfl (hb hby d5_292) rfl k) ?_
  obtain ⟨d66, hd66⟩ : ∃ z, FP.dmul d28 ve0 = z := ⟨_, rfl⟩
  have fr66 : OwnF.Fr 6 ((((6 : Int) * (jv * jv)) - (((6 : Int) * jv) * ((2 ^ 3 : Nat) : Int))) * vP0) 77309411328 d66 := by rw [← hd66]; exact OwnF.Fr.dmul fr28 fP0 (by decide)
  refine G1 (fun _ k => XS.dmulS X59.here hx rfl (hb hby d5_294) rfl (by rw [hd66]; exact own_nn fr66) hd66 k) ?_
  show Goes _ _ _ _ _ _ _ (T59.setTop (mkF m 295 _ [(.double d66), (.int (3 : Int32)), (.ref x2)]))
  refine G1 (fun _ k => XS.dload X59.here hx rfl (hb hby d5_295) rfl k) ?_
  refine G1 (fun _ k => XS.dload X59.here hx rfl (hb hby d5_297) rfl k) ?_
  obtain ⟨d67, hd67⟩ : ∃ z, FP.dmul d32 d44 = z := ⟨_, rfl⟩
  have fr67 : OwnF.Fr 6 (((((3 : Int) * (jv * jv)) - (((4 : Int) * jv) * ((2 ^ 3 : Nat) : Int))) + ((1 : Int) * ((2 ^ 6 : Nat) : Int))) * (vP3 * si)) 45097156608 d67 := by rw [← hd67]; exact OwnF.Fr.dmul fr32 fr44 (by decide)
  refine G1 (fun _ k => XS.dmulS X59.here hx rfl (hb hby d5_299) rfl (by rw [hd67]; exact own_nn fr67) hd67 k) ?_
  show Goes _ _ _ _ _ _ _ (T59.setTop (mkF m 300 #[.val (.ref x0), nD tm, nS, .val (.ref x2), nD d5, nS, .val (.int (0 : Int32)), nD d11, nS, nD d13, nS, nD d14, nS, nD d18, nS, nD d21, nS, nD d24, nS, nD d25, nS, nD d28, nS, nD d32, nS, nD d35, nS, nD d38, nS, .val (.int (0 : Int32)), .val (.int (6 : Int32)), .val (.int (0 : Int32)), nD ve0, nS, nD d44, nS, nD ve6, nS, nD d50, nS] [(.double d67), (.double d66), (.int (3 : Int32)), (.ref x2)]))
  obtain ⟨d68, hd68⟩ : ∃ z, FP.dadd d66 d67 = z := ⟨_, rfl⟩
  have fr68 : OwnF.Fr 6 (((((6 : Int) * (jv * jv)) - (((6 : Int) * jv) * ((2 ^ 3 : Nat) : Int))) * vP0) + (((((3 : Int) * (jv * jv)) - (((4 : Int) * jv) * ((2 ^ 3 : Nat) : Int))) + ((1 : Int) * ((2 ^ 6 : Nat) : Int))) * (vP3 * si))) 122406567936 d68 := by rw [← hd68]; exact OwnF.Fr.dadd fr66 fr67 (by decide)
  refine G1 (fun _ k => XS.daddS X59.here hx rfl (hb hby d5_300) rfl (by rw [hd68]; exact own_nn fr68) hd68 k) ?_
  show Goes _ _ _ _ _ _ _ (T59.setTop (mkF m 301 _ [(.double d68), (.int (3 : Int32)), (.ref x2)]))
  refine G1 (fun _ k => XS.dload X59.here hx rfl (hb hby d5_301) rfl k) ?_
  refine G1 (fun _ k => XS.dload X59.here hx rfl (hb hby d5_303) rfl k) ?_
  obtain ⟨d69, hd69⟩ : ∃ z, FP.dmul d35 ve6 = z := ⟨_, rfl⟩
  have fr69 : OwnF.Fr 6 ((((-6 : Int) * (jv * jv)) + (((6 : Int) * jv) * ((2 ^ 3 : Nat) : Int))) * vP6) 77309411328 d69 := by rw [← hd69]; exact OwnF.Fr.dmul fr35 fP6 (by decide)
  refine G1 (fun _ k => XS.dmulS X59.here hx rfl (hb hby d5_305) rfl (by rw [hd69]; exact own_nn fr69) hd69 k) ?_
  show Goes _ _ _ _ _ _ _ (T59.setTop (mkF m 306 #[.val (.ref x0), nD tm, nS, .val (.ref x2), nD d5, nS, .val (.int (0 : Int32)), nD d11, nS, nD d13, nS, nD d14, nS, nD d18, nS, nD d21, nS, nD d24, nS, nD d25, nS, nD d28, nS, nD d32, nS, nD d35, nS, nD d38, nS, .val (.int (0 : Int32)), .val (.int (6 : Int32)), .val (.int (0 : Int32)), nD ve0, nS, nD d44, nS, nD ve6, nS, nD d50, nS] [(.double d69), (.double d68), (.int (3 : Int32)), (.ref x2)]))
  obtain ⟨d70, hd70⟩ : ∃ z, FP.dadd d68 d69 = z := ⟨_, rfl⟩
  have fr70 : OwnF.Fr 6 ((((((6 : Int) * (jv * jv)) - (((6 : Int) * jv) * ((2 ^ 3 : Nat) : Int))) * vP0) + (((((3 : Int) * (jv * jv)) - (((4 : Int) * jv) * ((2 ^ 3 : Nat) : Int))) + ((1 : Int) * ((2 ^ 6 : Nat) : Int))) * (vP3 * si))) + ((((-6 : Int) * (jv * jv)) + (((6 : Int) * jv) * ((2 ^ 3 : Nat) : Int))) * vP6)) 199715979264 d70 := by rw [← hd70]; exact OwnF.Fr.dadd fr68 fr69 (by decide)
  refine G1 (fun _ k => XS.daddS X59.here hx rfl (hb hby d5_306) rfl (by rw [hd70]; exact own_nn fr70) hd70 k) ?_
  show Goes _ _ _ _ _ _ _ (T59.setTop (mkF m 307 _ [(.double d70), (.int (3 : Int32)), (.ref x2)]))
  refine G1 (fun _ k => XS.dload X59.here hx rfl (hb hby d5_307) rfl k) ?_
  refine G1 (fun _ k => XS.dload X59.here hx rfl (hb hby d5_309) rfl k) ?_
  obtain ⟨d71, hd71⟩ : ∃ z, FP.dmul d38 d50 = z := ⟨_, rfl⟩
  have fr71 : OwnF.Fr 6 ((((3 : Int) * (jv * jv)) - (((2 : Int) * jv) * ((2 ^ 3 : Nat) : Int))) * (vP9 * si)) 34359738368 d71 := by rw [← hd71]; exact OwnF.Fr.dmul fr38 fr50 (by decide)
  refine G1 (fun _ k => XS.dmulS X59.here hx rfl (hb hby d5_311) rfl (by rw [hd71]; exact own_nn fr71) hd71 k) ?_
  show Goes _ _ _ _ _ _ _ (T59.setTop (mkF m 312 #[.val (.ref x0), nD tm, nS, .val (.ref x2), nD d5, nS, .val (.int (0 : Int32)), nD d11, nS, nD d13, nS, nD d14, nS, nD d18, nS, nD d21, nS, nD d24, nS, nD d25, nS, nD d28, nS, nD d32, nS, nD d35, nS, nD d38, nS, .val (.int (0 : Int32)), .val (.int (6 : Int32)), .val (.int (0 : Int32)), nD ve0, nS, nD d44, nS, nD ve6, nS, nD d50, nS] [(.double d71), (.double d70), (.int (3 : Int32)), (.ref x2)]))
  obtain ⟨d72, hd72⟩ : ∃ z, FP.dadd d70 d71 = z := ⟨_, rfl⟩
  have fr72 : OwnF.Fr 6 (((((((6 : Int) * (jv * jv)) - (((6 : Int) * jv) * ((2 ^ 3 : Nat) : Int))) * vP0) + (((((3 : Int) * (jv * jv)) - (((4 : Int) * jv) * ((2 ^ 3 : Nat) : Int))) + ((1 : Int) * ((2 ^ 6 : Nat) : Int))) * (vP3 * si))) + ((((-6 : Int) * (jv * jv)) + (((6 : Int) * jv) * ((2 ^ 3 : Nat) : Int))) * vP6)) + ((((3 : Int) * (jv * jv)) - (((2 : Int) * jv) * ((2 ^ 3 : Nat) : Int))) * (vP9 * si))) 234075717632 d72 := by rw [← hd72]; exact OwnF.Fr.dadd fr70 fr71 (by decide)
  refine G1 (fun _ k => XS.daddS X59.here hx rfl (hb hby d5_312) rfl (by rw [hd72]; exact own_nn fr72) hd72 k) ?_
  show Goes _ _ _ _ _ _ _ (T59.setTop (mkF m 313 _ [(.double d72), (.int (3 : Int32)), (.ref x2)]))
  refine G1 (fun _ k => XS.aloadN X59.here hx rfl (hb hby d5_313) rfl rfl k) ?_
  obtain ⟨T73, X73, e73, st73⟩ := getF X59 hx hZ hown (host := "") (Or.inl w_22) Via.refl e59 f60 (g := (mkF m 314 #[.val (.ref x0), nD tm, nS, .val (.ref x2), nD d5, nS, .val (.int (0 : Int32)), nD d11, nS, nD d13, nS, nD d14, nS, nD d18, nS, nD d21, nS, nD d24, nS, nD d25, nS, nD d28, nS, nD d32, nS, nD d35, nS, nD d38, nS, .val (.int (0 : Int32)), .val (.int (6 : Int32)), .val (.int (0 : Int32)), nD ve0, nS, nD d44, nS, nD ve6, nS, nD d50, nS] [(.ref x0), (.double d72), (.int (3 : Int32)), (.ref x2)])) rfl rfl (hb hby d5_314)
  refine G1 st73 ?_
  show Goes _ _ _ _ _ _ _ (T73.setTop (mkF m 317 #[.val (.ref x0), nD tm, nS, .val (.ref x2), nD d5, nS, .val (.int (0 : Int32)), nD d11, nS, nD d13, nS, nD d14, nS, nD d18, nS, nD d21, nS, nD d24, nS, nD d25, nS, nD d28, nS, nD d32, nS, nD d35, nS, nD d38, nS, .val (.int (0 : Int32)), .val (.int (6 : Int32)), .val (.int (0 : Int32)), nD ve0, nS, nD d44, nS, nD ve6, nS, nD d50, nS] [(.double stp), (.double d72), (.int (3 : Int32)), (.ref x2)]))
  obtain ⟨d74, hd74⟩ : ∃ z, FP.ddiv d72 stp = z := ⟨_, rfl⟩
  have fr74 : OwnF.Fr 6 ((((((-6 : Int) * (jv * jv)) + (((6 : Int) * jv) * ((2 ^ 3 : Nat) : Int))) * vg0) + (((((3 : Int) * (jv * jv)) - (((4 : Int) * jv) * ((2 ^ 3 : Nat) : Int))) + ((1 : Int) * ((2 ^ 6 : Nat) : Int))) * vP3)) + ((((3 : Int) * (jv * jv)) - (((2 : Int) * jv) * ((2 ^ 3 : Nat) : Int))) * vP9)) 43620761600 d74 := by rw [← hd74]; exact OwnF.Fr.ddiv fr72 fs hs1 (own_vel0_0 hg0) (own_ba (own_ba (own_bm fr35.2 gb0) (own_bm fr32.2 fP3.2)) (own_bm fr38.2 fP9.2)) (by decide)
  refine G1 (fun _ k => XS.ddivS X73.here hx rfl (hb hby d5_317) rfl (by rw [hd74]; exact own_nn fr74) hd74 k) ?_
  show Goes _ _ _ _ _ _ _ (T73.setTop (mkF m 318 _ [(.double d74), (.int (3 : Int32)), (.ref x2)]))
  obtain ⟨cl75, Ar75, q75, S75, P75, H75, G75⟩ := id f64
  have hin75 : ¬ ((3 : Int32) < 0 ∨ cl75.slots.size ≤ ((3 : Int32)).toNatClampNeg) := inb_of S75 ⟨by decide, by decide⟩
  obtain ⟨T76, h76, X76, e76, W76, st76⟩ := stD X73 hx hZ e73 Ar75 (j := (3 : Int32)) hin75 (g := (mkF m 318 #[.val (.ref x0), nD tm, nS, .val (.ref x2), nD d5, nS, .val (.int (0 : Int32)), nD d11, nS, nD d13, nS, nD d14, nS, nD d18, nS, nD d21, nS, nD d24, nS, nD d25, nS, nD d28, nS, nD d32, nS, nD d35, nS, nD d38, nS, .val (.int (0 : Int32)), .val (.int (6 : Int32)), .val (.int (0 : Int32)), nD ve0, nS, nD d44, nS, nD ve6, nS, nD d50, nS] [(.double d74), (.int (3 : Int32)), (.ref x2)])) rfl rfl (hb hby d5_318)
  refine G1 st76 ?_
  have V76 := Arv.set Ar75 q75 S75 P75 H75 G75 rfl W76 3 rfl (Nat.le_of_ble_eq_true rfl)
  have f77 := f60.other W76 (Or.inl ne1)
  have f78 := f61.other W76 (Or.inl ne1)
  have f79 := f62.other W76 (Or.inl ne1)
  have f80 := f63.other W76 ne2
  have f81 := V76
  have K82 : Keep h0 h76 [x2] := K65.wr W76 (Or.inl (List.mem_of_getElem? (i := 0) rfl))
  have Z82 : n0 ≤ h76.size := by rw [Wr.size W76]; exact Z65
  have N82 := Fr.snoc X76 N65 g_x2
  show Goes _ _ _ _ _ _ _ (T76.setTop (mkF m 319 #[.val (.ref x0), nD tm, nS, .val (.ref x2), nD d5, nS, .val (.int (0 : Int32)), nD d11, nS, nD d13, nS, nD d14, nS, nD d18, nS, nD d21, nS, nD d24, nS, nD d25, nS, nD d28, nS, nD d32, nS, nD d35, nS, nD d38, nS, .val (.int (0 : Int32)), .val (.int (6 : Int32)), .val (.int (0 : Int32)), nD ve0, nS, nD d44, nS, nD ve6, nS, nD d50, nS] []))
  refine G1 (fun _ k => XS.iinc X76.here hx rfl (hb hby d5_319) rfl (l' := #[.val (.ref x0), nD tm, nS, .val (.ref x2), nD d5, nS, .val (.int (0 : Int32)), nD d11, nS, nD d13, nS, nD d14, nS, nD d18, nS, nD d21, nS, nD d24, nS, nD d25, nS, nD d28, nS, nD d32, nS, nD d35, nS, nD d38, nS, .val (.int (0 : Int32)), .val (.int (6 : Int32)), .val (.int (1 : Int32)), nD ve0, nS, nD d44, nS, nD ve6, nS, nD d50, nS]) rfl k) ?_
  show Goes _ _ _ _ _ _ _ (T76.setTop (mkF m 322 _ []))
  refine G1 (fun _ k => XS.goto X76.here hx rfl (pc0 := 322) (pc' := 190) rfl (hb hby d5_322) (by decide) (by decide) k) ?_
  show Goes _ _ _ _ _ _ _ (T76.setTop (mkF m 190 #[.val (.ref x0), nD tm, nS, .val (.ref x2), nD d5, nS, .val (.int (0 : Int32)), nD d11, nS, nD d13, nS, nD d14, nS, nD d18, nS, nD d21, nS, nD d24, nS, nD d25, nS, nD d28, nS, nD d32, nS, nD d35, nS, nD d38, nS, .val (.int (0 : Int32)), .val (.int (6 : Int32)), .val (.int (1 : Int32)), nD ve0, nS, nD d44, nS, nD ve6, nS, nD d50, nS] []))
  refine G1 (fun _ k => XS.iload X76.here hx rfl (hb hby d5_190) rfl  k) ?_
  refine G1 (fun _ k => XS.iconst X76.here hx rfl (hb hby d5_192) k) ?_
  refine G1 (fun _ k => XS.icmpNo X76.here hx rfl (hb hby d5_193) rfl (tlt (by decide : (1 : Int32) < (3 : Int32))).2.1 k) ?_
  show Goes _ _ _ _ _ _ _ (T76.setTop (mkF m 196 _ []))
  refine G1 (fun _ k => XS.aloadN X76.here hx rfl (hb hby d5_196) rfl rfl k) ?_
  obtain ⟨T83, X83, e83, st83⟩ := getF X76 hx hZ hown (host := "") (Or.inl w_24) Via.refl e76 f78 (g := (mkF m 197 #[.val (.ref x0), nD tm, nS, .val (.ref x2), nD d5, nS, .val (.int (0 : Int32)), nD d11, nS, nD d13, nS, nD d14, nS, nD d18, nS, nD d21, nS, nD d24, nS, nD d25, nS, nD d28, nS, nD d32, nS, nD d35, nS, nD d38, nS, .val (.int (0 : Int32)), .val (.int (6 : Int32)), .val (.int (1 : Int32)), nD ve0, nS, nD d44, nS, nD ve6, nS, nD d50, nS] [(.ref x0)])) rfl rfl (hb hby d5_197)
  refine G1 st83 ?_
  show Goes _ _ _ _ _ _ _ (T83.setTop (mkF m 200 #[.val (.ref x0), nD tm, nS, .val (.ref x2), nD d5, nS, .val (.int (0 : Int32)), nD d11, nS, nD d13, nS, nD d14, nS, nD d18, nS, nD d21, nS, nD d24, nS, nD d25, nS, nD d28, nS, nD d32, nS, nD d35, nS, nD d38, nS, .val (.int (0 : Int32)), .val (.int (6 : Int32)), .val (.int (1 : Int32)), nD ve0, nS, nD d44, nS, nD ve6, nS, nD d50, nS] [(.ref sa)]))
  refine G1 (fun _ k => XS.iload X83.here hx rfl (hb hby d5_200) rfl  k) ?_
  refine G1 (fun _ k => XS.iload X83.here hx rfl (hb hby d5_202) rfl  k) ?_
  refine G1 (fun _ k => XS.iadd X83.here hx rfl (hb hby d5_204) rfl k) ?_
  show Goes _ _ _ _ _ _ _ (T83.setTop (mkF m 205 _ [(.int (1 : Int32)), (.ref sa)]))
  obtain ⟨cl84, Ar84, q84, S84, P84, H84, G84⟩ := id f80
  have hin84 : ¬ ((1 : Int32) < 0 ∨ cl84.slots.size ≤ ((1 : Int32)).toNatClampNeg) := inb_of S84 ⟨by decide, by decide⟩
  have hat84 : cl84.slots[((1 : Int32)).toNatClampNeg]? = some (.double ve1) := H84 _ (by rw [S84]; decide)
  refine G1 (fun _ k => X83.daload hx (j := (1 : Int32)) (v := (.double ve1)) (by rw [e83]; exact Ar84.1) (State.isArrayOf_alike hZ.alike Ar84.2.1) Ar84.2.2 hin84 hat84 (g := (mkF m 205 #[.val (.ref x0), nD tm, nS, .val (.ref x2), nD d5, nS, .val (.int (0 : Int32)), nD d11, nS, nD d13, nS, nD d14, nS, nD d18, nS, nD d21, nS, nD d24, nS, nD d25, nS, nD d28, nS, nD d32, nS, nD d35, nS, nD d38, nS, .val (.int (0 : Int32)), .val (.int (6 : Int32)), .val (.int (1 : Int32)), nD ve0, nS, nD d44, nS, nD ve6, nS, nD d50, nS] [(.int (1 : Int32)), (.ref sa)])) rfl rfl (hb hby d5_205) _ k) ?_
  show Goes _ _ _ _ _ _ _ (T83.setTop (mkF m 206 #[.val (.ref x0), nD tm, nS, .val (.ref x2), nD d5, nS, .val (.int (0 : Int32)), nD d11, nS, nD d13, nS, nD d14, nS, nD d18, nS, nD d21, nS, nD d24, nS, nD d25, nS, nD d28, nS, nD d32, nS, nD d35, nS, nD d38, nS, .val (.int (0 : Int32)), .val (.int (6 : Int32)), .val (.int (1 : Int32)), nD ve0, nS, nD d44, nS, nD ve6, nS, nD d50, nS] [(.double ve1)]))
  refine G1 (fun _ k => XS.dstore X83.here hx rfl (hb hby d5_206) rfl (l' := #[.val (.ref x0), nD tm, nS, .val (.ref x2), nD d5, nS, .val (.int (0 : Int32)), nD d11, nS, nD d13, nS, nD d14, nS, nD d18, nS, nD d21, nS, nD d24, nS, nD d25, nS, nD d28, nS, nD d32, nS, nD d35, nS, nD d38, nS, .val (.int (0 : Int32)), .val (.int (6 : Int32)), .val (.int (1 : Int32)), nD ve1, nS, nD d44, nS, nD ve6, nS, nD d50, nS]) rfl k) ?_
  show Goes _ _ _ _ _ _ _ (T83.setTop (mkF m 208 _ []))
  refine G1 (fun _ k => XS.aloadN X83.here hx rfl (hb hby d5_208) rfl rfl k) ?_
  obtain ⟨T85, X85, e85, st85⟩ := getF X83 hx hZ hown (host := "") (Or.inl w_24) Via.refl e83 f78 (g := (mkF m 209 #[.val (.ref x0), nD tm, nS, .val (.ref x2), nD d5, nS, .val (.int (0 : Int32)), nD d11, nS, nD d13, nS, nD d14, nS, nD d18, nS, nD d21, nS, nD d24, nS, nD d25, nS, nD d28, nS, nD d32, nS, nD d35, nS, nD d38, nS, .val (.int (0 : Int32)), .val (.int (6 : Int32)), .val (.int (1 : Int32)), nD ve1, nS, nD d44, nS, nD ve6, nS, nD d50, nS] [(.ref x0)])) rfl rfl (hb hby d5_209)
  refine G1 st85 ?_
  show Goes _ _ _ _ _ _ _ (T85.setTop (mkF m 212 #[.val (.ref x0), nD tm, nS, .val (.ref x2), nD d5, nS, .val (.int (0 : Int32)), nD d11, nS, nD d13, nS, nD d14, nS, nD d18, nS, nD d21, nS, nD d24, nS, nD d25, nS, nD d28, nS, nD d32, nS, nD d35, nS, nD d38, nS, .val (.int (0 : Int32)), .val (.int (6 : Int32)), .val (.int (1 : Int32)), nD ve1, nS, nD d44, nS, nD ve6, nS, nD d50, nS] [(.ref sa)]))
  refine G1 (fun _ k => XS.iload X85.here hx rfl (hb hby d5_212) rfl  k) ?_
  refine G1 (fun _ k => XS.iconst X85.here hx rfl (hb hby d5_214) k) ?_
  refine G1 (fun _ k => XS.iadd X85.here hx rfl (hb hby d5_215) rfl k) ?_
  show Goes _ _ _ _ _ _ _ (T85.setTop (mkF m 216 _ [(.int (3 : Int32)), (.ref sa)]))
  refine G1 (fun _ k => XS.iload X85.here hx rfl (hb hby d5_216) rfl  k) ?_
  refine G1 (fun _ k => XS.iadd X85.here hx rfl (hb hby d5_218) rfl k) ?_
  show Goes _ _ _ _ _ _ _ (T85.setTop (mkF m 219 #[.val (.ref x0), nD tm, nS, .val (.ref x2), nD d5, nS, .val (.int (0 : Int32)), nD d11, nS, nD d13, nS, nD d14, nS, nD d18, nS, nD d21, nS, nD d24, nS, nD d25, nS, nD d28, nS, nD d32, nS, nD d35, nS, nD d38, nS, .val (.int (0 : Int32)), .val (.int (6 : Int32)), .val (.int (1 : Int32)), nD ve1, nS, nD d44, nS, nD ve6, nS, nD d50, nS] [(.int (4 : Int32)), (.ref sa)]))
  obtain ⟨cl86, Ar86, q86, S86, P86, H86, G86⟩ := id f80
  have hin86 : ¬ ((4 : Int32) < 0 ∨ cl86.slots.size ≤ ((4 : Int32)).toNatClampNeg) := inb_of S86 ⟨by decide, by decide⟩
  have hat86 : cl86.slots[((4 : Int32)).toNatClampNeg]? = some (.double ve4) := H86 _ (by rw [S86]; decide)
  refine G1 (fun _ k => X85.daload hx (j := (4 : Int32)) (v := (.double ve4)) (by rw [e85]; exact Ar86.1) (State.isArrayOf_alike hZ.alike Ar86.2.1) Ar86.2.2 hin86 hat86 (g := (mkF m 219 #[.val (.ref x0), nD tm, nS, .val (.ref x2), nD d5, nS, .val (.int (0 : Int32)), nD d11, nS, nD d13, nS, nD d14, nS, nD d18, nS, nD d21, nS, nD d24, nS, nD d25, nS, nD d28, nS, nD d32, nS, nD d35, nS, nD d38, nS, .val (.int (0 : Int32)), .val (.int (6 : Int32)), .val (.int (1 : Int32)), nD ve1, nS, nD d44, nS, nD ve6, nS, nD d50, nS] [(.int (4 : Int32)), (.ref sa)])) rfl rfl (hb hby d5_219) _ k) ?_
  show Goes _ _ _ _ _ _ _ (T85.setTop (mkF m 220 _ [(.double ve4)]))
  refine G1 (fun _ k => XS.aloadN X85.here hx rfl (hb hby d5_220) rfl rfl k) ?_
  obtain ⟨T87, X87, e87, st87⟩ := getF X85 hx hZ hown (host := "") (Or.inl w_22) Via.refl e85 f77 (g := (mkF m 221 #[.val (.ref x0), nD tm, nS, .val (.ref x2), nD d5, nS, .val (.int (0 : Int32)), nD d11, nS, nD d13, nS, nD d14, nS, nD d18, nS, nD d21, nS, nD d24, nS, nD d25, nS, nD d28, nS, nD d32, nS, nD d35, nS, nD d38, nS, .val (.int (0 : Int32)), .val (.int (6 : Int32)), .val (.int (1 : Int32)), nD ve1, nS, nD d44, nS, nD ve6, nS, nD d50, nS] [(.ref x0), (.double ve4)])) rfl rfl (hb hby d5_221)
  refine G1 st87 ?_
  show Goes _ _ _ _ _ _ _ (T87.setTop (mkF m 224 #[.val (.ref x0), nD tm, nS, .val (.ref x2), nD d5, nS, .val (.int (0 : Int32)), nD d11, nS, nD d13, nS, nD d14, nS, nD d18, nS, nD d21, nS, nD d24, nS, nD d25, nS, nD d28, nS, nD d32, nS, nD d35, nS, nD d38, nS, .val (.int (0 : Int32)), .val (.int (6 : Int32)), .val (.int (1 : Int32)), nD ve1, nS, nD d44, nS, nD ve6, nS, nD d50, nS] [(.double stp), (.double ve4)]))
  obtain ⟨d88, hd88⟩ : ∃ z, FP.dmul ve4 stp = z := ⟨_, rfl⟩
  have fr88 : OwnF.Fr 0 (vP4 * si) 33554432 d88 := by rw [← hd88]; exact OwnF.Fr.dmul fP4 fs (by decide)
  refine G1 (fun _ k => XS.dmulS X87.here hx rfl (hb hby d5_224) rfl (by rw [hd88]; exact own_nn fr88) hd88 k) ?_
  show Goes _ _ _ _ _ _ _ (T87.setTop (mkF m 225 _ [(.double d88)]))
  refine G1 (fun _ k => XS.dstore X87.here hx rfl (hb hby d5_225) rfl (l' := #[.val (.ref x0), nD tm, nS, .val (.ref x2), nD d5, nS, .val (.int (0 : Int32)), nD d11, nS, nD d13, nS, nD d14, nS, nD d18, nS, nD d21, nS, nD d24, nS, nD d25, nS, nD d28, nS, nD d32, nS, nD d35, nS, nD d38, nS, .val (.int (0 : Int32)), .val (.int (6 : Int32)), .val (.int (1 : Int32)), nD ve1, nS, nD d88, nS, nD ve6, nS, nD d50, nS]) rfl k) ?_
  show Goes _ _ _ _ _ _ _ (T87.setTop (mkF m 227 #[.val (.ref x0), nD tm, nS, .val (.ref x2), nD d5, nS, .val (.int (0 : Int32)), nD d11, nS, nD d13, nS, nD d14, nS, nD d18, nS, nD d21, nS, nD d24, nS, nD d25, nS, nD d28, nS, nD d32, nS, nD d35, nS, nD d38, nS, .val (.int (0 : Int32)), .val (.int (6 : Int32)), .val (.int (1 : Int32)), nD ve1, nS, nD d88, nS, nD ve6, nS, nD d50, nS] []))
  refine G1 (fun _ k => XS.aloadN X87.here hx rfl (hb hby d5_227) rfl rfl k) ?_
  obtain ⟨T89, X89, e89, st89⟩ := getF X87 hx hZ hown (host := "") (Or.inl w_24) Via.refl e87 f78 (g := (mkF m 228 #[.val (.ref x0), nD tm, nS, .val (.ref x2), nD d5, nS, .val (.int (0 : Int32)), nD d11, nS, nD d13, nS, nD d14, nS, nD d18, nS, nD d21, nS, nD d24, nS, nD d25, nS, nD d28, nS, nD d32, nS, nD d35, nS, nD d38, nS, .val (.int (0 : Int32)), .val (.int (6 : Int32)), .val (.int (1 : Int32)), nD ve1, nS, nD d88, nS, nD ve6, nS, nD d50, nS] [(.ref x0)])) rfl rfl (hb hby d5_228)
  refine G1 st89 ?_
  show Goes _ _ _ _ _ _ _ (T89.setTop (mkF m 231 _ [(.ref sa)]))
  refine G1 (fun _ k => XS.iload X89.here hx rfl (hb hby d5_231) rfl  k) ?_
  refine G1 (fun _ k => XS.iload X89.here hx rfl (hb hby d5_233) rfl  k) ?_
  refine G1 (fun _ k => XS.iadd X89.here hx rfl (hb hby d5_235) rfl k) ?_
  show Goes _ _ _ _ _ _ _ (T89.setTop (mkF m 236 #[.val (.ref x0), nD tm, nS, .val (.ref x2), nD d5, nS, .val (.int (0 : Int32)), nD d11, nS, nD d13, nS, nD d14, nS, nD d18, nS, nD d21, nS, nD d24, nS, nD d25, nS, nD d28, nS, nD d32, nS, nD d35, nS, nD d38, nS, .val (.int (0 : Int32)), .val (.int (6 : Int32)), .val (.int (1 : Int32)), nD ve1, nS, nD d88, nS, nD ve6, nS, nD d50, nS] [(.int (7 : Int32)), (.ref sa)]))
  obtain ⟨cl90, Ar90, q90, S90, P90, H90, G90⟩ := id f80
  have hin90 : ¬ ((7 : Int32) < 0 ∨ cl90.slots.size ≤ ((7 : Int32)).toNatClampNeg) := inb_of S90 ⟨by decide, by decide⟩
  have hat90 : cl90.slots[((7 : Int32)).toNatClampNeg]? = some (.double ve7) := H90 _ (by rw [S90]; decide)
  refine G1 (fun _ k => X89.daload hx (j := (7 : Int32)) (v := (.double ve7)) (by rw [e89]; exact Ar90.1) (State.isArrayOf_alike hZ.alike Ar90.2.1) Ar90.2.2 hin90 hat90 (g := (mkF m 236 #[.val (.ref x0), nD tm, nS, .val (.ref x2), nD d5, nS, .val (.int (0 : Int32)), nD d11, nS, nD d13, nS, nD d14, nS, nD d18, nS, nD d21, nS, nD d24, nS, nD d25, nS, nD d28, nS, nD d32, nS, nD d35, nS, nD d38, nS, .val (.int (0 : Int32)), .val (.int (6 : Int32)), .val (.int (1 : Int32)), nD ve1, nS, nD d88, nS, nD ve6, nS, nD d50, nS] [(.int (7 : Int32)), (.ref sa)])) rfl rfl (hb hby d5_236) _ k) ?_
  show Goes _ _ _ _ _ _ _ (T89.setTop (mkF m 237 _ [(.double ve7)]))
  refine G1 (fun _ k => XS.dstore X89.here hx rfl (hb hby d5_237) rfl (l' := #[.val (.ref x0), nD tm, nS, .val (.ref x2), nD d5, nS, .val (.int (0 : Int32)), nD d11, nS, nD d13, nS, nD d14, nS, nD d18, nS, nD d21, nS, nD d24, nS, nD d25, nS, nD d28, nS, nD d32, nS, nD d35, nS, nD d38, nS, .val (.int (0 : Int32)), .val (.int (6 : Int32)), .val (.int (1 : Int32)), nD ve1, nS, nD d88, nS, nD ve7, nS, nD d50, nS]) rfl k) ?_
  show Goes _ _ _ _ _ _ _ (T89.setTop (mkF m 239 #[.val (.ref x0), nD tm, nS, .val (.ref x2), nD d5, nS, .val (.int (0 : Int32)), nD d11, nS, nD d13, nS, nD d14, nS, nD d18, nS, nD d21, nS, nD d24, nS, nD d25, nS, nD d28, nS, nD d32, nS, nD d35, nS, nD d38, nS, .val (.int (0 : Int32)), .val (.int (6 : Int32)), .val (.int (1 : Int32)), nD ve1, nS, nD d88, nS, nD ve7, nS, nD d50, nS] []))
  refine G1 (fun _ k => XS.aloadN X89.here hx rfl (hb hby d5_239) rfl rfl k) ?_
  obtain ⟨T91, X91, e91, st91⟩ := getF X89 hx hZ hown (host := "") (Or.inl w_24) Via.refl e89 f78 (g := (mkF m 240 #[.val (.ref x0), nD tm, nS, .val (.ref x2), nD d5, nS, .val (.int (0 : Int32)), nD d11, nS, nD d13, nS, nD d14, nS, nD d18, nS, nD d21, nS, nD d24, nS, nD d25, nS, nD d28, nS, nD d32, nS, nD d35, nS, nD d38, nS, .val (.int (0 : Int32)), .val (.int (6 : Int32)), .val (.int (1 : Int32)), nD ve1, nS, nD d88, nS, nD ve7, nS, nD d50, nS] [(.ref x0)])) rfl rfl (hb hby d5_240)
  refine G1 st91 ?_
  show Goes _ _ _ _ _ _ _ (T91.setTop (mkF m 243 _ [(.ref sa)]))
  refine G1 (fun _ k => XS.iload X91.here hx rfl (hb hby d5_243) rfl  k) ?_
  refine G1 (fun _ k => XS.iconst X91.here hx rfl (hb hby d5_245) k) ?_
  refine G1 (fun _ k => XS.iadd X91.here hx rfl (hb hby d5_246) rfl k) ?_
  show Goes _ _ _ _ _ _ _ (T91.setTop (mkF m 247 #[.val (.ref x0), nD tm, nS, .val (.ref x2), nD d5, nS, .val (.int (0 : Int32)), nD d11, nS, nD d13, nS, nD d14, nS, nD d18, nS, nD d21, nS, nD d24, nS, nD d25, nS, nD d28, nS, nD d32, nS, nD d35, nS, nD d38, nS, .val (.int (0 : Int32)), .val (.int (6 : Int32)), .val (.int (1 : Int32)), nD ve1, nS, nD d88, nS, nD ve7, nS, nD d50, nS] [(.int (9 : Int32)), (.ref sa)]))
  refine G1 (fun _ k => XS.iload X91.here hx rfl (hb hby d5_247) rfl  k) ?_
  refine G1 (fun _ k => XS.iadd X91.here hx rfl (hb hby d5_249) rfl k) ?_
  show Goes _ _ _ _ _ _ _ (T91.setTop (mkF m 250 _ [(.int (10 : Int32)), (.ref sa)]))
  obtain ⟨cl92, Ar92, q92, S92, P92, H92, G92⟩ := id f80
  have hin92 : ¬ ((10 : Int32) < 0 ∨ cl92.slots.size ≤ ((10 : Int32)).toNatClampNeg) := inb_of S92 ⟨by decide, by decide⟩
  have hat92 : cl92.slots[((10 : Int32)).toNatClampNeg]? = some (.double ve10) := H92 _ (by rw [S92]; decide)
  refine G1 (fun _ k => X91.daload hx (j := (10 : Int32)) (v := (.double ve10)) (by rw [e91]; exact Ar92.1) (State.isArrayOf_alike hZ.alike Ar92.2.1) Ar92.2.2 hin92 hat92 (g := (mkF m 250 #[.val (.ref x0), nD tm, nS, .val (.ref x2), nD d5, nS, .val (.int (0 : Int32)), nD d11, nS, nD d13, nS, nD d14, nS, nD d18, nS, nD d21, nS, nD d24, nS, nD d25, nS, nD d28, nS, nD d32, nS, nD d35, nS, nD d38, nS, .val (.int (0 : Int32)), .val (.int (6 : Int32)), .val (.int (1 : Int32)), nD ve1, nS, nD d88, nS, nD ve7, nS, nD d50, nS] [(.int (10 : Int32)), (.ref sa)])) rfl rfl (hb hby d5_250) _ k) ?_
  show Goes _ _ _ _ _ _ _ (T91.setTop (mkF m 251 #[.val (.ref x0), nD tm, nS, .val (.ref x2), nD d5, nS, .val (.int (0 : Int32)), nD d11, nS, nD d13, nS, nD d14, nS, nD d18, nS, nD d21, nS, nD d24, nS, nD d25, nS, nD d28, nS, nD d32, nS, nD d35, nS, nD d38, nS, .val (.int (0 : Int32)), .val (.int (6 : Int32)), .val (.int (1 : Int32)), nD ve1, nS, nD d88, nS, nD ve7, nS, nD d50, nS] [(.double ve10)]))
  refine G1 (fun _ k => XS.aloadN X91.here hx rfl (hb hby d5_251) rfl rfl k) ?_
  obtain ⟨T93, X93, e93, st93⟩ := getF X91 hx hZ hown (host := "") (Or.inl w_22) Via.refl e91 f77 (g := (mkF m 252 #[.val (.ref x0), nD tm, nS, .val (.ref x2), nD d5, nS, .val (.int (0 : Int32)), nD d11, nS, nD d13, nS, nD d14, nS, nD d18, nS, nD d21, nS, nD d24, nS, nD d25, nS, nD d28, nS, nD d32, nS, nD d35, nS, nD d38, nS, .val (.int (0 : Int32)), .val (.int (6 : Int32)), .val (.int (1 : Int32)), nD ve1, nS, nD d88, nS, nD ve7, nS, nD d50, nS] [(.ref x0), (.double ve10)])) rfl rfl (hb hby d5_252)
  refine G1 st93 ?_
  show Goes _ _ _ _ _ _ _ (T93.setTop (mkF m 255 _ [(.double stp), (.double ve10)]))
  obtain ⟨d94, hd94⟩ : ∃ z, FP.dmul ve10 stp = z := ⟨_, rfl⟩
  have fr94 : OwnF.Fr 0 (vP10 * si) 33554432 d94 := by rw [← hd94]; exact OwnF.Fr.dmul fP10 fs (by decide)
  refine G1 (fun _ k => XS.dmulS X93.here hx rfl (hb hby d5_255) rfl (by rw [hd94]; exact own_nn fr94) hd94 k) ?_
  show Goes _ _ _ _ _ _ _ (T93.setTop (mkF m 256 #[.val (.ref x0), nD tm, nS, .val (.ref x2), nD d5, nS, .val (.int (0 : Int32)), nD d11, nS, nD d13, nS, nD d14, nS, nD d18, nS, nD d21, nS, nD d24, nS, nD d25, nS, nD d28, nS, nD d32, nS, nD d35, nS, nD d38, nS, .val (.int (0 : Int32)), .val (.int (6 : Int32)), .val (.int (1 : Int32)), nD ve1, nS, nD d88, nS, nD ve7, nS, nD d50, nS] [(.double d94)]))
  refine G1 (fun _ k => XS.dstore X93.here hx rfl (hb hby d5_256) rfl (l' := #[.val (.ref x0), nD tm, nS, .val (.ref x2), nD d5, nS, .val (.int (0 : Int32)), nD d11, nS, nD d13, nS, nD d14, nS, nD d18, nS, nD d21, nS, nD d24, nS, nD d25, nS, nD d28, nS, nD d32, nS, nD d35, nS, nD d38, nS, .val (.int (0 : Int32)), .val (.int (6 : Int32)), .val (.int (1 : Int32)), nD ve1, nS, nD d88, nS, nD ve7, nS, nD d94, nS]) rfl k) ?_
  show Goes _ _ _ _ _ _ _ (T93.setTop (mkF m 258 _ []))
  refine G1 (fun _ k => XS.aloadN X93.here hx rfl (hb hby d5_258) rfl rfl k) ?_
  refine G1 (fun _ k => XS.iload X93.here hx rfl (hb hby d5_259) rfl  k) ?_
  refine G1 (fun _ k => XS.dload X93.here hx rfl (hb hby d5_261) rfl k) ?_
  refine G1 (fun _ k => XS.dload X93.here hx rfl (hb hby d5_263) rfl k) ?_
  show Goes _ _ _ _ _ _ _ (T93.setTop (mkF m 265 #[.val (.ref x0), nD tm, nS, .val (.ref x2), nD d5, nS, .val (.int (0 : Int32)), nD d11, nS, nD d13, nS, nD d14, nS, nD d18, nS, nD d21, nS, nD d24, nS, nD d25, nS, nD d28, nS, nD d32, nS, nD d35, nS, nD d38, nS, .val (.int (0 : Int32)), .val (.int (6 : Int32)), .val (.int (1 : Int32)), nD ve1, nS, nD d88, nS, nD ve7, nS, nD d94, nS] [(.double ve1), (.double d18), (.int (1 : Int32)), (.ref x2)]))
  obtain ⟨d95, hd95⟩ : ∃ z, FP.dmul d18 ve1 = z := ⟨_, rfl⟩
  have fr95 : OwnF.Fr 9 (((((2 : Int) * ((jv * jv) * jv)) - (((3 : Int) * (jv * jv)) * ((2 ^ 3 : Nat) : Int))) + ((1 : Int) * ((2 ^ 9 : Nat) : Int))) * vP1) 498216206336 d95 := by rw [← hd95]; exact OwnF.Fr.dmul fr18 fP1 (by decide)
  refine G1 (fun _ k => XS.dmulS X93.here hx rfl (hb hby d5_265) rfl (by rw [hd95]; exact own_nn fr95) hd95 k) ?_
  show Goes _ _ _ _ _ _ _ (T93.setTop (mkF m 266 _ [(.double d95), (.int (1 : Int32)), (.ref x2)]))
  refine G1 (fun _ k => XS.dload X93.here hx rfl (hb hby d5_266) rfl k) ?_
  refine G1 (fun _ k => XS.dload X93.here hx rfl (hb hby d5_268) rfl k) ?_
  obtain ⟨d96, hd96⟩ : ∃ z, FP.dmul d21 d88 = z := ⟨_, rfl⟩
  have fr96 : OwnF.Fr 9 (((((jv * jv) * jv) - (((2 : Int) * (jv * jv)) * ((2 ^ 3 : Nat) : Int))) + (jv * ((2 ^ 6 : Nat) : Int))) * (vP4 * si)) 309237645312 d96 := by rw [← hd96]; exact OwnF.Fr.dmul fr21 fr88 (by decide)
  refine G1 (fun _ k => XS.dmulS X93.here hx rfl (hb hby d5_270) rfl (by rw [hd96]; exact own_nn fr96) hd96 k) ?_
  show Goes _ _ _ _ _ _ _ (T93.setTop (mkF m 271 #[.val (.ref x0), nD tm, nS, .val (.ref x2), nD d5, nS, .val (.int (0 : Int32)), nD d11, nS, nD d13, nS, nD d14, nS, nD d18, nS, nD d21, nS, nD d24, nS, nD d25, nS, nD d28, nS, nD d32, nS, nD d35, nS, nD d38, nS, .val (.int (0 : Int32)), .val (.int (6 : Int32)), .val (.int (1 : Int32)), nD ve1, nS, nD d88, nS, nD ve7, nS, nD d94, nS] [(.double d96), (.double d95), (.int (1 : Int32)), (.ref x2)]))
  obtain ⟨d97, hd97⟩ : ∃ z, FP.dadd d95 d96 = z := ⟨_, rfl⟩
  have fr97 : OwnF.Fr 9 ((((((2 : Int) * ((jv * jv) * jv)) - (((3 : Int) * (jv * jv)) * ((2 ^ 3 : Nat) : Int))) + ((1 : Int) * ((2 ^ 9 : Nat) : Int))) * vP1) + (((((jv * jv) * jv) - (((2 : Int) * (jv * jv)) * ((2 ^ 3 : Nat) : Int))) + (jv * ((2 ^ 6 : Nat) : Int))) * (vP4 * si))) 807453851648 d97 := by rw [← hd97]; exact OwnF.Fr.dadd fr95 fr96 (by decide)
  refine G1 (fun _ k => XS.daddS X93.here hx rfl (hb hby d5_271) rfl (by rw [hd97]; exact own_nn fr97) hd97 k) ?_
  show Goes _ _ _ _ _ _ _ (T93.setTop (mkF m 272 _ [(.double d97), (.int (1 : Int32)), (.ref x2)]))
  refine G1 (fun _ k => XS.dload X93.here hx rfl (hb hby d5_272) rfl k) ?_
  refine G1 (fun _ k => XS.dload X93.here hx rfl (hb hby d5_274) rfl k) ?_
  obtain ⟨d98, hd98⟩ : ∃ z, FP.dmul d24 ve7 = z := ⟨_, rfl⟩
  have fr98 : OwnF.Fr 9 ((((-2 : Int) * ((jv * jv) * jv)) + (((3 : Int) * (jv * jv)) * ((2 ^ 3 : Nat) : Int))) * vP7) 481036337152 d98 := by rw [← hd98]; exact OwnF.Fr.dmul fr24 fP7 (by decide)
  refine G1 (fun _ k => XS.dmulS X93.here hx rfl (hb hby d5_276) rfl (by rw [hd98]; exact own_nn fr98) hd98 k) ?_
  show Goes _ _ _ _ _ _ _ (T93.setTop (mkF m 277 #[.val (.ref x0), nD tm, nS, .val (.ref x2), nD d5, nS, .val (.int (0 : Int32)), nD d11, nS, nD d13, nS, nD d14, nS, nD d18, nS, nD d21, nS, nD d24, nS, nD d25, nS, nD d28, nS, nD d32, nS, nD d35, nS, nD d38, nS, .val (.int (0 : Int32)), .val (.int (6 : Int32)), .val (.int (1 : Int32)), nD ve1, nS, nD d88, nS, nD ve7, nS, nD d94, nS] [(.double d98), (.double d97), (.int (1 : Int32)), (.ref x2)]))
  obtain ⟨d99, hd99⟩ : ∃ z, FP.dadd d97 d98 = z := ⟨_, rfl⟩
  have fr99 : OwnF.Fr 9 (((((((2 : Int) * ((jv * jv) * jv)) - (((3 : Int) * (jv * jv)) * ((2 ^ 3 : Nat) : Int))) + ((1 : Int) * ((2 ^ 9 : Nat) : Int))) * vP1) + (((((jv * jv) * jv) - (((2 : Int) * (jv * jv)) * ((2 ^ 3 : Nat) : Int))) + (jv * ((2 ^ 6 : Nat) : Int))) * (vP4 * si))) + ((((-2 : Int) * ((jv * jv) * jv)) + (((3 : Int) * (jv * jv)) * ((2 ^ 3 : Nat) : Int))) * vP7)) 1288490188800 d99 := by rw [← hd99]; exact OwnF.Fr.dadd fr97 fr98 (by decide)
  refine G1 (fun _ k => XS.daddS X93.here hx rfl (hb hby d5_277) rfl (by rw [hd99]; exact own_nn fr99) hd99 k) ?_
  show Goes _ _ _ _ _ _ _ (T93.setTop (mkF m 278 _ [(.double d99), (.int (1 : Int32)), (.ref x2)]))
  refine G1 (fun _ k => XS.dload X93.here hx rfl (hb hby d5_278) rfl k) ?_
  refine G1 (fun _ k => XS.dload X93.here hx rfl (hb hby d5_280) rfl k) ?_
  obtain ⟨d100, hd100⟩ : ∃ z, FP.dmul d25 d94 = z := ⟨_, rfl⟩
  have fr100 : OwnF.Fr 9 ((((jv * jv) * jv) - ((jv * jv) * ((2 ^ 3 : Nat) : Int))) * (vP10 * si)) 206158430208 d100 := by rw [← hd100]; exact OwnF.Fr.dmul fr25 fr94 (by decide)
  refine G1 (fun _ k => XS.dmulS X93.here hx rfl (hb hby d5_282) rfl (by rw [hd100]; exact own_nn fr100) hd100 k) ?_
  show Goes _ _ _ _ _ _ _ (T93.setTop (mkF m 283 #[.val (.ref x0), nD tm, nS, .val (.ref x2), nD d5, nS, .val (.int (0 : Int32)), nD d11, nS, nD d13, nS, nD d14, nS, nD d18, nS, nD d21, nS, nD d24, nS, nD d25, nS, nD d28, nS, nD d32, nS, nD d35, nS, nD d38, nS, .val (.int (0 : Int32)), .val (.int (6 : Int32)), .val (.int (1 : Int32)), nD ve1, nS, nD d88, nS, nD ve7, nS, nD d94, nS] [(.double d100), (.double d99), (.int (1 : Int32)), (.ref x2)]))
  obtain ⟨d101, hd101⟩ : ∃ z, FP.dadd d99 d100 = z := ⟨_, rfl⟩
  have fr101 : OwnF.Fr 9 ((((((((2 : Int) * ((jv * jv) * jv)) - (((3 : Int) * (jv * jv)) * ((2 ^ 3 : Nat) : Int))) + ((1 : Int) * ((2 ^ 9 : Nat) : Int))) * vP1) + (((((jv * jv) * jv) - (((2 : Int) * (jv * jv)) * ((2 ^ 3 : Nat) : Int))) + (jv * ((2 ^ 6 : Nat) : Int))) * (vP4 * si))) + ((((-2 : Int) * ((jv * jv) * jv)) + (((3 : Int) * (jv * jv)) * ((2 ^ 3 : Nat) : Int))) * vP7)) + ((((jv * jv) * jv) - ((jv * jv) * ((2 ^ 3 : Nat) : Int))) * (vP10 * si))) 1494648619008 d101 := by rw [← hd101]; exact OwnF.Fr.dadd fr99 fr100 (by decide)
  refine G1 (fun _ k => XS.daddS X93.here hx rfl (hb hby d5_283) rfl (by rw [hd101]; exact own_nn fr101) hd101 k) ?_
  show Goes _ _ _ _ _ _ _ (T93.setTop (mkF m 284 _ [(.double d101), (.int (1 : Int32)), (.ref x2)]))
  obtain ⟨cl102, Ar102, q102, S102, P102, H102, G102⟩ := id f81
  have hin102 : ¬ ((1 : Int32) < 0 ∨ cl102.slots.size ≤ ((1 : Int32)).toNatClampNeg) := inb_of S102 ⟨by decide, by decide⟩
  obtain ⟨T103, h103, X103, e103, W103, st103⟩ := stD X93 hx hZ e93 Ar102 (j := (1 : Int32)) hin102 (g := (mkF m 284 #[.val (.ref x0), nD tm, nS, .val (.ref x2), nD d5, nS, .val (.int (0 : Int32)), nD d11, nS, nD d13, nS, nD d14, nS, nD d18, nS, nD d21, nS, nD d24, nS, nD d25, nS, nD d28, nS, nD d32, nS, nD d35, nS, nD d38, nS, .val (.int (0 : Int32)), .val (.int (6 : Int32)), .val (.int (1 : Int32)), nD ve1, nS, nD d88, nS, nD ve7, nS, nD d94, nS] [(.double d101), (.int (1 : Int32)), (.ref x2)])) rfl rfl (hb hby d5_284)
  refine G1 st103 ?_
  have V103 := Arv.set Ar102 q102 S102 P102 H102 G102 rfl W103 1 rfl (Nat.le_of_ble_eq_true rfl)
  have f104 := f77.other W103 (Or.inl ne1)
  have f105 := f78.other W103 (Or.inl ne1)
  have f106 := f79.other W103 (Or.inl ne1)
  have f107 := f80.other W103 ne2
  have f108 := V103
  have K109 : Keep h0 h103 [x2] := K82.wr W103 (Or.inl (List.mem_of_getElem? (i := 0) rfl))
  have Z109 : n0 ≤ h103.size := by rw [Wr.size W103]; exact Z82
  have N109 := Fr.snoc X103 N82 g_x2
  show Goes _ _ _ _ _ _ _ (T103.setTop (mkF m 285 #[.val (.ref x0), nD tm, nS, .val (.ref x2), nD d5, nS, .val (.int (0 : Int32)), nD d11, nS, nD d13, nS, nD d14, nS, nD d18, nS, nD d21, nS, nD d24, nS, nD d25, nS, nD d28, nS, nD d32, nS, nD d35, nS, nD d38, nS, .val (.int (0 : Int32)), .val (.int (6 : Int32)), .val (.int (1 : Int32)), nD ve1, nS, nD d88, nS, nD ve7, nS, nD d94, nS] []))
  refine G1 (fun _ k => XS.aloadN X103.here hx rfl (hb hby d5_285) rfl rfl k) ?_
  refine G1 (fun _ k => XS.iconst X103.here hx rfl (hb hby d5_286) k) ?_
  refine G1 (fun _ k => XS.iload X103.here hx rfl (hb hby d5_287) rfl  k) ?_
  refine G1 (fun _ k => XS.iadd X103.here hx rfl (hb hby d5_289) rfl k) ?_
  show Goes _ _ _ _ _ _ _ (T103.setTop (mkF m 290 _ [(.int (4 : Int32)), (.ref x2)]))
  refine G1 (fun _ k => XS.dload X103.here hx rfl (hb hby d5_290) rfl k) ?_
  refine G1 (fun _ k => XS.dload X103.here hx rfl (hb hby d5_292) rfl k) ?_
  obtain ⟨d110, hd110⟩ : ∃ z, FP.dmul d28 ve1 = z := ⟨_, rfl⟩
  have fr110 : OwnF.Fr 6 ((((6 : Int) * (jv * jv)) - (((6 : Int) * jv) * ((2 ^ 3 : Nat) : Int))) * vP1) 77309411328 d110 := by rw [← hd110]; exact OwnF.Fr.dmul fr28 fP1 (by decide)
  refine G1 (fun _ k => XS.dmulS X103.here hx rfl (hb hby d5_294) rfl (by rw [hd110]; exact own_nn fr110) hd110 k) ?_
  show Goes _ _ _ _ _ _ _ (T103.setTop (mkF m 295 #[.val (.ref x0), nD tm, nS, .val (.ref x2), nD d5, nS, .val (.int (0 : Int32)), nD d11, nS, nD d13, nS, nD d14, nS, nD d18, nS, nD d21, nS, nD d24, nS, nD d25, nS, nD d28, nS, nD d32, nS, nD d35, nS, nD d38, nS, .val (.int (0 : Int32)), .val (.int (6 : Int32)), .val (.int (1 : Int32)), nD ve1, nS, nD d88, nS, nD ve7, nS, nD d94, nS] [(.double d110), (.int (4 : Int32)), (.ref x2)]))
  refine G1 (fun _ k => XS.dload X103.here hx rfl (hb hby d5_295) rfl k) ?_
  refine G1 (fun _ k => XS.dload X103.here hx rfl (hb hby d5_297) rfl k) ?_
  obtain ⟨d111, hd111⟩ : ∃ z, FP.dmul d32 d88 = z := ⟨_, rfl⟩
  have fr111 : OwnF.Fr 6 (((((3 : Int) * (jv * jv)) - (((4 : Int) * jv) * ((2 ^ 3 : Nat) : Int))) + ((1 : Int) * ((2 ^ 6 : Nat) : Int))) * (vP4 * si)) 45097156608 d111 := by rw [← hd111]; exact OwnF.Fr.dmul fr32 fr88 (by decide)
  refine G1 (fun _ k => XS.dmulS X103.here hx rfl (hb hby d5_299) rfl (by rw [hd111]; exact own_nn fr111) hd111 k) ?_
  show Goes _ _ _ _ _ _ _ (T103.setTop (mkF m 300 _ [(.double d111), (.double d110), (.int (4 : Int32)), (.ref x2)]))
  obtain ⟨d112, hd112⟩ : ∃ z, FP.dadd d110 d111 = z := ⟨_, rfl⟩
  have fr112 : OwnF.Fr 6 (((((6 : Int) * (jv * jv)) - (((6 : Int) * jv) * ((2 ^ 3 : Nat) : Int))) * vP1) + (((((3 : Int) * (jv * jv)) - (((4 : Int) * jv) * ((2 ^ 3 : Nat) : Int))) + ((1 : Int) * ((2 ^ 6 : Nat) : Int))) * (vP4 * si))) 122406567936 d112 := by rw [← hd112]; exact OwnF.Fr.dadd fr110 fr111 (by decide)
  refine G1 (fun _ k => XS.daddS X103.here hx rfl (hb hby d5_300) rfl (by rw [hd112]; exact own_nn fr112) hd112 k) ?_
  show Goes _ _ _ _ _ _ _ (T103.setTop (mkF m 301 #[.val (.ref x0), nD tm, nS, .val (.ref x2), nD d5, nS, .val (.int (0 : Int32)), nD d11, nS, nD d13, nS, nD d14, nS, nD d18, nS, nD d21, nS, nD d24, nS, nD d25, nS, nD d28, nS, nD d32, nS, nD d35, nS, nD d38, nS, .val (.int (0 : Int32)), .val (.int (6 : Int32)), .val (.int (1 : Int32)), nD ve1, nS, nD d88, nS, nD ve7, nS, nD d94, nS] [(.double d112), (.int (4 : Int32)), (.ref x2)]))
  refine G1 (fun _ k => XS.dload X103.here hx rfl (hb hby d5_301) rfl k) ?_
  refine G1 (fun _ k => XS.dload X103.here hx rfl (hb hby d5_303) rfl k) ?_
  obtain ⟨d113, hd113⟩ : ∃ z, FP.dmul d35 ve7 = z := ⟨_, rfl⟩
  have fr113 : OwnF.Fr 6 ((((-6 : Int) * (jv * jv)) + (((6 : Int) * jv) * ((2 ^ 3 : Nat) : Int))) * vP7) 77309411328 d113 := by rw [← hd113]; exact OwnF.Fr.dmul fr35 fP7 (by decide)
  refine G1 (fun _ k => XS.dmulS X103.here hx rfl (hb hby d5_305) rfl (by rw [hd113]; exact own_nn fr113) hd113 k) ?_
  show Goes _ _ _ _ _ _ _ (T103.setTop (mkF m 306 _ [(.double d113), (.double d112), (.int (4 : Int32)), (.ref x2)]))
  obtain ⟨d114, hd114⟩ : ∃ z, FP.dadd d112 d113 = z := ⟨_, rfl⟩
  have fr114 : OwnF.Fr 6 ((((((6 : Int) * (jv * jv)) - (((6 : Int) * jv) * ((2 ^ 3 : Nat) : Int))) * vP1) + (((((3 : Int) * (jv * jv)) - (((4 : Int) * jv) * ((2 ^ 3 : Nat) : Int))) + ((1 : Int) * ((2 ^ 6 : Nat) : Int))) * (vP4 * si))) + ((((-6 : Int) * (jv * jv)) + (((6 : Int) * jv) * ((2 ^ 3 : Nat) : Int))) * vP7)) 199715979264 d114 := by rw [← hd114]; exact OwnF.Fr.dadd fr112 fr113 (by decide)
  refine G1 (fun _ k => XS.daddS X103.here hx rfl (hb hby d5_306) rfl (by rw [hd114]; exact own_nn fr114) hd114 k) ?_
  show Goes _ _ _ _ _ _ _ (T103.setTop (mkF m 307 #[.val (.ref x0), nD tm, nS, .val (.ref x2), nD d5, nS, .val (.int (0 : Int32)), nD d11, nS, nD d13, nS, nD d14, nS, nD d18, nS, nD d21, nS, nD d24, nS, nD d25, nS, nD d28, nS, nD d32, nS, nD d35, nS, nD d38, nS, .val (.int (0 : Int32)), .val (.int (6 : Int32)), .val (.int (1 : Int32)), nD ve1, nS, nD d88, nS, nD ve7, nS, nD d94, nS] [(.double d114), (.int (4 : Int32)), (.ref x2)]))
  refine G1 (fun _ k => XS.dload X103.here hx rfl (hb hby d5_307) rfl k) ?_
  refine G1 (fun _ k => XS.dload X103.here hx rfl (hb hby d5_309) rfl k) ?_
  obtain ⟨d115, hd115⟩ : ∃ z, FP.dmul d38 d94 = z := ⟨_, rfl⟩
  have fr115 : OwnF.Fr 6 ((((3 : Int) * (jv * jv)) - (((2 : Int) * jv) * ((2 ^ 3 : Nat) : Int))) * (vP10 * si)) 34359738368 d115 := by rw [← hd115]; exact OwnF.Fr.dmul fr38 fr94 (by decide)
  refine G1 (fun _ k => XS.dmulS X103.here hx rfl (hb hby d5_311) rfl (by rw [hd115]; exact own_nn fr115) hd115 k) ?_
  show Goes _ _ _ _ _ _ _ (T103.setTop (mkF m 312 _ [(.double d115), (.double d114), (.int (4 : Int32)), (.ref x2)]))
  obtain ⟨d116, hd116⟩ : ∃ z, FP.dadd d114 d115 = z := ⟨_, rfl⟩
  have fr116 : OwnF.Fr 6 (((((((6 : Int) * (jv * jv)) - (((6 : Int) * jv) * ((2 ^ 3 : Nat) : Int))) * vP1) + (((((3 : Int) * (jv * jv)) - (((4 : Int) * jv) * ((2 ^ 3 : Nat) : Int))) + ((1 : Int) * ((2 ^ 6 : Nat) : Int))) * (vP4 * si))) + ((((-6 : Int) * (jv * jv)) + (((6 : Int) * jv) * ((2 ^ 3 : Nat) : Int))) * vP7)) + ((((3 : Int) * (jv * jv)) - (((2 : Int) * jv) * ((2 ^ 3 : Nat) : Int))) * (vP10 * si))) 234075717632 d116 := by rw [← hd116]; exact OwnF.Fr.dadd fr114 fr115 (by decide)
  refine G1 (fun _ k => XS.daddS X103.here hx rfl (hb hby d5_312) rfl (by rw [hd116]; exact own_nn fr116) hd116 k) ?_
  show Goes _ _ _ _ _ _ _ (T103.setTop (mkF m 313 #[.val (.ref x0), nD tm, nS, .val (.ref x2), nD d5, nS, .val (.int (0 : Int32)), nD d11, nS, nD d13, nS, nD d14, nS, nD d18, nS, nD d21, nS, nD d24, nS, nD d25, nS, nD d28, nS, nD d32, nS, nD d35, nS, nD d38, nS, .val (.int (0 : Int32)), .val (.int (6 : Int32)), .val (.int (1 : Int32)), nD ve1, nS, nD d88, nS, nD ve7, nS, nD d94, nS] [(.double d116), (.int (4 : Int32)), (.ref x2)]))
  refine G1 (fun _ k => XS.aloadN X103.here hx rfl (hb hby d5_313) rfl rfl k) ?_
  obtain ⟨T117, X117, e117, st117⟩ := getF X103 hx hZ hown (host := "") (Or.inl w_22) Via.refl e103 f104 (g := (mkF m 314 #[.val (.ref x0), nD tm, nS, .val (.ref x2), nD d5, nS, .val (.int (0 : Int32)), nD d11, nS, nD d13, nS, nD d14, nS, nD d18, nS, nD d21, nS, nD d24, nS, nD d25, nS, nD d28, nS, nD d32, nS, nD d35, nS, nD d38, nS, .val (.int (0 : Int32)), .val (.int (6 : Int32)), .val (.int (1 : Int32)), nD ve1, nS, nD d88, nS, nD ve7, nS, nD d94, nS] [(.ref x0), (.double d116), (.int (4 : Int32)), (.ref x2)])) rfl rfl (hb hby d5_314)
  refine G1 st117 ?_
  show Goes _ _ _ _ _ _ _ (T117.setTop (mkF m 317 _ [(.double stp), (.double d116), (.int (4 : Int32)), (.ref x2)]))
  obtain ⟨d118, hd118⟩ : ∃ z, FP.ddiv d116 stp = z := ⟨_, rfl⟩
  have fr118 : OwnF.Fr 6 ((((((-6 : Int) * (jv * jv)) + (((6 : Int) * jv) * ((2 ^ 3 : Nat) : Int))) * vg1) + (((((3 : Int) * (jv * jv)) - (((4 : Int) * jv) * ((2 ^ 3 : Nat) : Int))) + ((1 : Int) * ((2 ^ 6 : Nat) : Int))) * vP4)) + ((((3 : Int) * (jv * jv)) - (((2 : Int) * jv) * ((2 ^ 3 : Nat) : Int))) * vP10)) 43620761600 d118 := by rw [← hd118]; exact OwnF.Fr.ddiv fr116 fs hs1 (own_vel0_1 hg1) (own_ba (own_ba (own_bm fr35.2 gb1) (own_bm fr32.2 fP4.2)) (own_bm fr38.2 fP10.2)) (by decide)
  refine G1 (fun _ k => XS.ddivS X117.here hx rfl (hb hby d5_317) rfl (by rw [hd118]; exact own_nn fr118) hd118 k) ?_
  show Goes _ _ _ _ _ _ _ (T117.setTop (mkF m 318 #[.val (.ref x0), nD tm, nS, .val (.ref x2), nD d5, nS, .val (.int (0 : Int32)), nD d11, nS, nD d13, nS, nD d14, nS, nD d18, nS, nD d21, nS, nD d24, nS, nD d25, nS, nD d28, nS, nD d32, nS, nD d35, nS, nD d38, nS, .val (.int (0 : Int32)), .val (.int (6 : Int32)), .val (.int (1 : Int32)), nD ve1, nS, nD d88, nS, nD ve7, nS, nD d94, nS] [(.double d118), (.int (4 : Int32)), (.ref x2)]))
  obtain ⟨cl119, Ar119, q119, S119, P119, H119, G119⟩ := id f108
  have hin119 : ¬ ((4 : Int32) < 0 ∨ cl119.slots.size ≤ ((4 : Int32)).toNatClampNeg) := inb_of S119 ⟨by decide, by decide⟩
  obtain ⟨T120, h120, X120, e120, W120, st120⟩ := stD X117 hx hZ e117 Ar119 (j := (4 : Int32)) hin119 (g := (mkF m 318 #[.val (.ref x0), nD tm, nS, .val (.ref x2), nD d5, nS, .val (.int (0 : Int32)), nD d11, nS, nD d13, nS, nD d14, nS, nD d18, nS, nD d21, nS, nD d24, nS, nD d25, nS, nD d28, nS, nD d32, nS, nD d35, nS, nD d38, nS, .val (.int (0 : Int32)), .val (.int (6 : Int32)), .val (.int (1 : Int32)), nD ve1, nS, nD d88, nS, nD ve7, nS, nD d94, nS] [(.double d118), (.int (4 : Int32)), (.ref x2)])) rfl rfl (hb hby d5_318)
  refine G1 st120 ?_
  have V120 := Arv.set Ar119 q119 S119 P119 H119 G119 rfl W120 4 rfl (Nat.le_of_ble_eq_true rfl)
  have f121 := f104.other W120 (Or.inl ne1)
  have f122 := f105.other W120 (Or.inl ne1)
  have f123 := f106.other W120 (Or.inl ne1)
  have f124 := f107.other W120 ne2
  have f125 := V120
  have K126 : Keep h0 h120 [x2] := K109.wr W120 (Or.inl (List.mem_of_getElem? (i := 0) rfl))
  have Z126 : n0 ≤ h120.size := by rw [Wr.size W120]; exact Z109
  have N126 := Fr.snoc X120 N109 g_x2
  show Goes _ _ _ _ _ _ _ (T120.setTop (mkF m 319 _ []))
  refine G1 (fun _ k => XS.iinc X120.here hx rfl (hb hby d5_319) rfl (l' := #[.val (.ref x0), nD tm, nS, .val (.ref x2), nD d5, nS, .val (.int (0 : Int32)), nD d11, nS, nD d13, nS, nD d14, nS, nD d18, nS, nD d21, nS, nD d24, nS, nD d25, nS, nD d28, nS, nD d32, nS, nD d35, nS, nD d38, nS, .val (.int (0 : Int32)), .val (.int (6 : Int32)), .val (.int (2 : Int32)), nD ve1, nS, nD d88, nS, nD ve7, nS, nD d94, nS]) rfl k) ?_
  show Goes _ _ _ _ _ _ _ (T120.setTop (mkF m 322 #[.val (.ref x0), nD tm, nS, .val (.ref x2), nD d5, nS, .val (.int (0 : Int32)), nD d11, nS, nD d13, nS, nD d14, nS, nD d18, nS, nD d21, nS, nD d24, nS, nD d25, nS, nD d28, nS, nD d32, nS, nD d35, nS, nD d38, nS, .val (.int (0 : Int32)), .val (.int (6 : Int32)), .val (.int (2 : Int32)), nD ve1, nS, nD d88, nS, nD ve7, nS, nD d94, nS] []))
  refine G1 (fun _ k => XS.goto X120.here hx rfl (pc0 := 322) (pc' := 190) rfl (hb hby d5_322) (by decide) (by decide) k) ?_
  show Goes _ _ _ _ _ _ _ (T120.setTop (mkF m 190 _ []))
  refine G1 (fun _ k => XS.iload X120.here hx rfl (hb hby d5_190) rfl  k) ?_
  refine G1 (fun _ k => XS.iconst X120.here hx rfl (hb hby d5_192) k) ?_
  refine G1 (fun _ k => XS.icmpNo X120.here hx rfl (hb hby d5_193) rfl (tlt (by decide : (2 : Int32) < (3 : Int32))).2.1 k) ?_
  show Goes _ _ _ _ _ _ _ (T120.setTop (mkF m 196 #[.val (.ref x0), nD tm, nS, .val (.ref x2), nD d5, nS, .val (.int (0 : Int32)), nD d11, nS, nD d13, nS, nD d14, nS, nD d18, nS, nD d21, nS, nD d24, nS, nD d25, nS, nD d28, nS, nD d32, nS, nD d35, nS, nD d38, nS, .val (.int (0 : Int32)), .val (.int (6 : Int32)), .val (.int (2 : Int32)), nD ve1, nS, nD d88, nS, nD ve7, nS, nD d94, nS] []))
  refine G1 (fun _ k => XS.aloadN X120.here hx rfl (hb hby d5_196) rfl rfl k) ?_
  obtain ⟨T127, X127, e127, st127⟩ := getF X120 hx hZ hown (host := "") (Or.inl w_24) Via.refl e120 f122 (g := (mkF m 197 #[.val (.ref x0), nD tm, nS, .val (.ref x2), nD d5, nS, .val (.int (0 : Int32)), nD d11, nS, nD d13, nS, nD d14, nS, nD d18, nS, nD d21, nS, nD d24, nS, nD d25, nS, nD d28, nS, nD d32, nS, nD d35, nS, nD d38, nS, .val (.int (0 : Int32)), .val (.int (6 : Int32)), .val (.int (2 : Int32)), nD ve1, nS, nD d88, nS, nD ve7, nS, nD d94, nS] [(.ref x0)])) rfl rfl (hb hby d5_197)
  refine G1 st127 ?_
  show Goes _ _ _ _ _ _ _ (T127.setTop (mkF m 200 _ [(.ref sa)]))
  refine G1 (fun _ k => XS.iload X127.here hx rfl (hb hby d5_200) rfl  k) ?_
  refine G1 (fun _ k => XS.iload X127.here hx rfl (hb hby d5_202) rfl  k) ?_
  refine G1 (fun _ k => XS.iadd X127.here hx rfl (hb hby d5_204) rfl k) ?_
  show Goes _ _ _ _ _ _ _ (T127.setTop (mkF m 205 #[.val (.ref x0), nD tm, nS, .val (.ref x2), nD d5, nS, .val (.int (0 : Int32)), nD d11, nS, nD d13, nS, nD d14, nS, nD d18, nS, nD d21, nS, nD d24, nS, nD d25, nS, nD d28, nS, nD d32, nS, nD d35, nS, nD d38, nS, .val (.int (0 : Int32)), .val (.int (6 : Int32)), .val (.int (2 : Int32)), nD ve1, nS, nD d88, nS, nD ve7, nS, nD d94, nS] [(.int (2 : Int32)), (.ref sa)]))
  obtain ⟨cl128, Ar128, q128, S128, P128, H128, G128⟩ := id f124
  have hin128 : ¬ ((2 : Int32) < 0 ∨ cl128.slots.size ≤ ((2 : Int32)).toNatClampNeg) := inb_of S128 ⟨by decide, by decide⟩
  have hat128 : cl128.slots[((2 : Int32)).toNatClampNeg]? = some (.double ve2) := H128 _ (by rw [S128]; decide)
  refine G1 (fun _ k => X127.daload hx (j := (2 : Int32)) (v := (.double ve2)) (by rw [e127]; exact Ar128.1) (State.isArrayOf_alike hZ.alike Ar128.2.1) Ar128.2.2 hin128 hat128 (g := (mkF m 205 #[.val (.ref x0), nD tm, nS, .val (.ref x2), nD d5, nS, .val (.int (0 : Int32)), nD d11, nS, nD d13, nS, nD d14, nS, nD d18, nS, nD d21, nS, nD d24, nS, nD d25, nS, nD d28, nS, nD d32, nS, nD d35, nS, nD d38, nS, .val (.int (0 : Int32)), .val (.int (6 : Int32)), .val (.int (2 : Int32)), nD ve1, nS, nD d88, nS, nD ve7, nS, nD d94, nS] [(.int (2 : Int32)), (.ref sa)])) rfl rfl (hb hby d5_205) _ k) ?_
  show Goes _ _ _ _ _ _ _ (T127.setTop (mkF m 206 _ [(.double ve2)]))
  refine G1 (fun _ k => XS.dstore X127.here hx rfl (hb hby d5_206) rfl (l' := #[.val (.ref x0), nD tm, nS, .val (.ref x2), nD d5, nS, .val (.int (0 : Int32)), nD d11, nS, nD d13, nS, nD d14, nS, nD d18, nS, nD d21, nS, nD d24, nS, nD d25, nS, nD d28, nS, nD d32, nS, nD d35, nS, nD d38, nS, .val (.int (0 : Int32)), .val (.int (6 : Int32)), .val (.int (2 : Int32)), nD ve2, nS, nD d88, nS, nD ve7, nS, nD d94, nS]) rfl k) ?_
  show Goes _ _ _ _ _ _ _ (T127.setTop (mkF m 208 #[.val (.ref x0), nD tm, nS, .val (.ref x2), nD d5, nS, .val (.int (0 : Int32)), nD d11, nS, nD d13, nS, nD d14, nS, nD d18, nS, nD d21, nS, nD d24, nS, nD d25, nS, nD d28, nS, nD d32, nS, nD d35, nS, nD d38, nS, .val (.int (0 : Int32)), .val (.int (6 : Int32)), .val (.int (2 : Int32)), nD ve2, nS, nD d88, nS, nD ve7, nS, nD d94, nS] []))
  refine G1 (fun _ k => XS.aloadN X127.here hx rfl (hb hby d5_208) rfl rfl k) ?_
  obtain ⟨T129, X129, e129, st129⟩ := getF X127 hx hZ hown (host := "") (Or.inl w_24) Via.refl e127 f122 (g := (mkF m 209 #[.val (.ref x0), nD tm, nS, .val (.ref x2), nD d5, nS, .val (.int (0 : Int32)), nD d11, nS, nD d13, nS, nD d14, nS, nD d18, nS, nD d21, nS, nD d24, nS, nD d25, nS, nD d28, nS, nD d32, nS, nD d35, nS, nD d38, nS, .val (.int (0 : Int32)), .val (.int (6 : Int32)), .val (.int (2 : Int32)), nD ve2, nS, nD d88, nS, nD ve7, nS, nD d94, nS] [(.ref x0)])) rfl rfl (hb hby d5_209)
  refine G1 st129 ?_
  show Goes _ _ _ _ _ _ _ (T129.setTop (mkF m 212 _ [(.ref sa)]))
  refine G1 (fun _ k => XS.iload X129.here hx rfl (hb hby d5_212) rfl  k) ?_
  refine G1 (fun _ k => XS.iconst X129.here hx rfl (hb hby d5_214) k) ?_
  refine G1 (fun _ k => XS.iadd X129.here hx rfl (hb hby d5_215) rfl k) ?_
  show Goes _ _ _ _ _ _ _ (T129.setTop (mkF m 216 #[.val (.ref x0), nD tm, nS, .val (.ref x2), nD d5, nS, .val (.int (0 : Int32)), nD d11, nS, nD d13, nS, nD d14, nS, nD d18, nS, nD d21, nS, nD d24, nS, nD d25, nS, nD d28, nS, nD d32, nS, nD d35, nS, nD d38, nS, .val (.int (0 : Int32)), .val (.int (6 : Int32)), .val (.int (2 : Int32)), nD ve2, nS, nD d88, nS, nD ve7, nS, nD d94, nS] [(.int (3 : Int32)), (.ref sa)]))
  refine G1 (fun _ k => XS.iload X129.here hx rfl (hb hby d5_216) rfl  k) ?_
  refine G1 (fun _ k => XS.iadd X129.here hx rfl (hb hby d5_218) rfl k) ?_
  show Goes _ _ _ _ _ _ _ (T129.setTop (mkF m 219 _ [(.int (5 : Int32)), (.ref sa)]))
  obtain ⟨cl130, Ar130, q130, S130, P130, H130, G130⟩ := id f124
  have hin130 : ¬ ((5 : Int32) < 0 ∨ cl130.slots.size ≤ ((5 : Int32)).toNatClampNeg) := inb_of S130 ⟨by decide, by decide⟩
  have hat130 : cl130.slots[((5 : Int32)).toNatClampNeg]? = some (.double ve5) := H130 _ (by rw [S130]; decide)
  refine G1 (fun _ k => X129.daload hx (j := (5 : Int32)) (v := (.double ve5)) (by rw [e129]; exact Ar130.1) (State.isArrayOf_alike hZ.alike Ar130.2.1) Ar130.2.2 hin130 hat130 (g := (mkF m 219 #[.val (.ref x0), nD tm, nS, .val (.ref x2), nD d5, nS, .val (.int (0 : Int32)), nD d11, nS, nD d13, nS, nD d14, nS, nD d18, nS, nD d21, nS, nD d24, nS, nD d25, nS, nD d28, nS, nD d32, nS, nD d35, nS, nD d38, nS, .val (.int (0 : Int32)), .val (.int (6 : Int32)), .val (.int (2 : Int32)), nD ve2, nS, nD d88, nS, nD ve7, nS, nD d94, nS] [(.int (5 : Int32)), (.ref sa)])) rfl rfl (hb hby d5_219) _ k) ?_
  show Goes _ _ _ _ _ _ _ (T129.setTop (mkF m 220 #[.val (.ref x0), nD tm, nS, .val (.ref x2), nD d5, nS, .val (.int (0 : Int32)), nD d11, nS, nD d13, nS, nD d14, nS, nD d18, nS, nD d21, nS, nD d24, nS, nD d25, nS, nD d28, nS, nD d32, nS, nD d35, nS, nD d38, nS, .val (.int (0 : Int32)), .val (.int (6 : Int32)), .val (.int (2 : Int32)), nD ve2, nS, nD d88, nS, nD ve7, nS, nD d94, nS] [(.double ve5)]))
  refine G1 (fun _ k => XS.aloadN X129.here hx rfl (hb hby d5_220) rfl rfl k) ?_
  obtain ⟨T131, X131, e131, st131⟩ := getF X129 hx hZ hown (host := "") (Or.inl w_22) Via.refl e129 f121 (g := (mkF m 221 #[.val (.ref x0), nD tm, nS, .val (.ref x2), nD d5, nS, .val (.int (0 : Int32)), nD d11, nS, nD d13, nS, nD d14, nS, nD d18, nS, nD d21, nS, nD d24, nS, nD d25, nS, nD d28, nS, nD d32, nS, nD d35, nS, nD d38, nS, .val (.int (0 : Int32)), .val (.int (6 : Int32)), .val (.int (2 : Int32)), nD ve2, nS, nD d88, nS, nD ve7, nS, nD d94, nS] [(.ref x0), (.double ve5)])) rfl rfl (hb hby d5_221)
  refine G1 st131 ?_
  show Goes _ _ _ _ _ _ _ (T131.setTop (mkF m 224 _ [(.double stp), (.double ve5)]))
  obtain ⟨d132, hd132⟩ : ∃ z, FP.dmul ve5 stp = z := ⟨_, rfl⟩
  have fr132 : OwnF.Fr 0 (vP5 * si) 33554432 d132 := by rw [← hd132]; exact OwnF.Fr.dmul fP5 fs (by decide)
  refine G1 (fun _ k => XS.dmulS X131.here hx rfl (hb hby d5_224) rfl (by rw [hd132]; exact own_nn fr132) hd132 k) ?_
  show Goes _ _ _ _ _ _ _ (T131.setTop (mkF m 225 #[.val (.ref x0), nD tm, nS, .val (.ref x2), nD d5, nS, .val (.int (0 : Int32)), nD d11, nS, nD d13, nS, nD d14, nS, nD d18, nS, nD d21, nS, nD d24, nS, nD d25, nS, nD d28, nS, nD d32, nS, nD d35, nS, nD d38, nS, .val (.int (0 : Int32)), .val (.int (6 : Int32)), .val (.int (2 : Int32)), nD ve2, nS, nD d88, nS, nD ve7, nS, nD d94, nS] [(.double d132)]))
  refine G1 (fun _ k => XS.dstore X131.here hx rfl (hb hby d5_225) rfl (l' := #[.val (.ref x0), nD tm, nS, .val (.ref x2), nD d5, nS, .val (.int (0 : Int32)), nD d11, nS, nD d13, nS, nD d14, nS, nD d18, nS, nD d21, nS, nD d24, nS, nD d25, nS, nD d28, nS, nD d32, nS, nD d35, nS, nD d38, nS, .val (.int (0 : Int32)), .val (.int (6 : Int32)), .val (.int (2 : Int32)), nD ve2, nS, nD d132, nS, nD ve7, nS, nD d94, nS]) rfl k) ?_
  show Goes _ _ _ _ _ _ _ (T131.setTop (mkF m 227 _ []))
  refine G1 (fun _ k => XS.aloadN X131.here hx rfl (hb hby d5_227) rfl rfl k) ?_
  obtain ⟨T133, X133, e133, st133⟩ := getF X131 hx hZ hown (host := "") (Or.inl w_24) Via.refl e131 f122 (g := (mkF m 228 #[.val (.ref x0), nD tm, nS, .val (.ref x2), nD d5, nS, .val (.int (0 : Int32)), nD d11, nS, nD d13, nS, nD d14, nS, nD d18, nS, nD d21, nS, nD d24, nS, nD d25, nS, nD d28, nS, nD d32, nS, nD d35, nS, nD d38, nS, .val (.int (0 : Int32)), .val (.int (6 : Int32)), .val (.int (2 : Int32)), nD ve2, nS, nD d132, nS, nD ve7, nS, nD d94, nS] [(.ref x0)])) rfl rfl (hb hby d5_228)
  refine G1 st133 ?_
  show Goes _ _ _ _ _ _ _ (T133.setTop (mkF m 231 #[.val (.ref x0), nD tm, nS, .val (.ref x2), nD d5, nS, .val (.int (0 : Int32)), nD d11, nS, nD d13, nS, nD d14, nS, nD d18, nS, nD d21, nS, nD d24, nS, nD d25, nS, nD d28, nS, nD d32, nS, nD d35, nS, nD d38, nS, .val (.int (0 : Int32)), .val (.int (6 : Int32)), .val (.int (2 : Int32)), nD ve2, nS, nD d132, nS, nD ve7, nS, nD d94, nS] [(.ref sa)]))
  refine G1 (fun _ k => XS.iload X133.here hx rfl (hb hby d5_231) rfl  k) ?_
  refine G1 (fun _ k => XS.iload X133.here hx rfl (hb hby d5_233) rfl  k) ?_
  refine G1 (fun _ k => XS.iadd X133.here hx rfl (hb hby d5_235) rfl k) ?_
  show Goes _ _ _ _ _ _ _ (T133.setTop (mkF m 236 _ [(.int (8 : Int32)), (.ref sa)]))
  obtain ⟨cl134, Ar134, q134, S134, P134, H134, G134⟩ := id f124
  have hin134 : ¬ ((8 : Int32) < 0 ∨ cl134.slots.size ≤ ((8 : Int32)).toNatClampNeg) := inb_of S134 ⟨by decide, by decide⟩
  have hat134 : cl134.slots[((8 : Int32)).toNatClampNeg]? = some (.double ve8) := H134 _ (by rw [S134]; decide)
  refine G1 (fun _ k => X133.daload hx (j := (8 : Int32)) (v := (.double ve8)) (by rw [e133]; exact Ar134.1) (State.isArrayOf_alike hZ.alike Ar134.2.1) Ar134.2.2 hin134 hat134 (g := (mkF m 236 #[.val (.ref x0), nD tm, nS, .val (.ref x2), nD d5, nS, .val (.int (0 : Int32)), nD d11, nS, nD d13, nS, nD d14, nS, nD d18, nS, nD d21, nS, nD d24, nS, nD d25, nS, nD d28, nS, nD d32, nS, nD d35, nS, nD d38, nS, .val (.int (0 : Int32)), .val (.int (6 : Int32)), .val (.int (2 : Int32)), nD ve2, nS, nD d132, nS, nD ve7, nS, nD d94, nS] [(.int (8 : Int32)), (.ref sa)])) rfl rfl (hb hby d5_236) _ k) ?_
  show Goes _ _ _ _ _ _ _ (T133.setTop (mkF m 237 #[.val (.ref x0), nD tm, nS, .val (.ref x2), nD d5, nS, .val (.int (0 : Int32)), nD d11, nS, nD d13, nS, nD d14, nS, nD d18, nS, nD d21, nS, nD d24, nS, nD d25, nS, nD d28, nS, nD d32, nS, nD d35, nS, nD d38, nS, .val (.int (0 : Int32)), .val (.int (6 : Int32)), .val (.int (2 : Int32)), nD ve2, nS, nD d132, nS, nD ve7, nS, nD d94, nS] [(.double ve8)]))
  refine G1 (fun _ k => XS.dstore X133.here hx rfl (hb hby d5_237) rfl (l' := #[.val (.ref x0), nD tm, nS, .val (.ref x2), nD d5, nS, .val (.int (0 : Int32)), nD d11, nS, nD d13, nS, nD d14, nS, nD d18, nS, nD d21, nS, nD d24, nS, nD d25, nS, nD d28, nS, nD d32, nS, nD d35, nS, nD d38, nS, .val (.int (0 : Int32)), .val (.int (6 : Int32)), .val (.int (2 : Int32)), nD ve2, nS, nD d132, nS, nD ve8, nS, nD d94, nS]) rfl k) ?_
  show Goes _ _ _ _ _ _ _ (T133.setTop (mkF m 239 _ []))
  refine G1 (fun _ k => XS.aloadN X133.here hx rfl (hb hby d5_239) rfl rfl k) ?_
  obtain ⟨T135, X135, e135, st135⟩ := getF X133 hx hZ hown (host := "") (Or.inl w_24) Via.refl e133 f122 (g := (mkF m 240 #[.val (.ref x0), nD tm, nS, .val (.ref x2), nD d5, nS, .val (.int (0 : Int32)), nD d11, nS, nD d13, nS, nD d14, nS, nD d18, nS, nD d21, nS, nD d24, nS, nD d25, nS, nD d28, nS, nD d32, nS, nD d35, nS, nD d38, nS, .val (.int (0 : Int32)), .val (.int (6 : Int32)), .val (.int (2 : Int32)), nD ve2, nS, nD d132, nS, nD ve8, nS, nD d94, nS] [(.ref x0)])) rfl rfl (hb hby d5_240)
  refine G1 st135 ?_
  show Goes _ _ _ _ _ _ _ (T135.setTop (mkF m 243 #[.val (.ref x0), nD tm, nS, .val (.ref x2), nD d5, nS, .val (.int (0 : Int32)), nD d11, nS, nD d13, nS, nD d14, nS, nD d18, nS, nD d21, nS, nD d24, nS, nD d25, nS, nD d28, nS, nD d32, nS, nD d35, nS, nD d38, nS, .val (.int (0 : Int32)), .val (.int (6 : Int32)), .val (.int (2 : Int32)), nD ve2, nS, nD d132, nS, nD ve8, nS, nD d94, nS] [(.ref sa)]))
  refine G1 (fun _ k => XS.iload X135.here hx rfl (hb hby d5_243) rfl  k) ?_
  refine G1 (fun _ k => XS.iconst X135.here hx rfl (hb hby d5_245) k) ?_
  refine G1 (fun _ k => XS.iadd X135.here hx rfl (hb hby d5_246) rfl k) ?_
  show Goes _ _ _ _ _ _ _ (T135.setTop (mkF m 247 _ [(.int (9 : Int32)), (.ref sa)]))
  refine G1 (fun _ k => XS.iload X135.here hx rfl (hb hby d5_247) rfl  k) ?_
  refine G1 (fun _ k => XS.iadd X135.here hx rfl (hb hby d5_249) rfl k) ?_
  show Goes _ _ _ _ _ _ _ (T135.setTop (mkF m 250 #[.val (.ref x0), nD tm, nS, .val (.ref x2), nD d5, nS, .val (.int (0 : Int32)), nD d11, nS, nD d13, nS, nD d14, nS, nD d18, nS, nD d21, nS, nD d24, nS, nD d25, nS, nD d28, nS, nD d32, nS, nD d35, nS, nD d38, nS, .val (.int (0 : Int32)), .val (.int (6 : Int32)), .val (.int (2 : Int32)), nD ve2, nS, nD d132, nS, nD ve8, nS, nD d94, nS] [(.int (11 : Int32)), (.ref sa)]))
  obtain ⟨cl136, Ar136, q136, S136, P136, H136, G136⟩ := id f124
  have hin136 : ¬ ((11 : Int32) < 0 ∨ cl136.slots.size ≤ ((11 : Int32)).toNatClampNeg) := inb_of S136 ⟨by decide, by decide⟩
  have hat136 : cl136.slots[((11 : Int32)).toNatClampNeg]? = some (.double ve11) := H136 _ (by rw [S136]; decide)
  refine G1 (fun _ k => X135.daload hx (j := (11 : Int32)) (v := (.double ve11)) (by rw [e135]; exact Ar136.1) (State.isArrayOf_alike hZ.alike Ar136.2.1) Ar136.2.2 hin136 hat136 (g := (mkF m 250 #[.val (.ref x0), nD tm, nS, .val (.ref x2), nD d5, nS, .val (.int (0 : Int32)), nD d11, nS, nD d13, nS, nD d14, nS, nD d18, nS, nD d21, nS, nD d24, nS, nD d25, nS, nD d28, nS, nD d32, nS, nD d35, nS, nD d38, nS, .val (.int (0 : Int32)), .val (.int (6 : Int32)), .val (.int (2 : Int32)), nD ve2, nS, nD d132, nS, nD ve8, nS, nD d94, nS] [(.int (11 : Int32)), (.ref sa)])) rfl rfl (hb hby d5_250) _ k) ?_
  show Goes _ _ _ _ _ _ _ (T135.setTop (mkF m 251 _ [(.double ve11)]))
  refine G1 (fun _ k => XS.aloadN X135.here hx rfl (hb hby d5_251) rfl rfl k) ?_
  obtain ⟨T137, X137, e137, st137⟩ := getF X135 hx hZ hown (host := "") (Or.inl w_22) Via.refl e135 f121 (g := (mkF m 252 #[.val (.ref x0), nD tm, nS, .val (.ref x2), nD d5, nS, .val (.int (0 : Int32)), nD d11, nS, nD d13, nS, nD d14, nS, nD d18, nS, nD d21, nS, nD d24, nS, nD d25, nS, nD d28, nS, nD d32, nS, nD d35, nS, nD d38, nS, .val (.int (0 : Int32)), .val (.int (6 : Int32)), .val (.int (2 : Int32)), nD ve2, nS, nD d132, nS, nD ve8, nS, nD d94, nS] [(.ref x0), (.double ve11)])) rfl rfl (hb hby d5_252)
  refine G1 st137 ?_
  show Goes _ _ _ _ _ _ _ (T137.setTop (mkF m 255 #[.val (.ref x0), nD tm, nS, .val (.ref x2), nD d5, nS, .val (.int (0 : Int32)), nD d11, nS, nD d13, nS, nD d14, nS, nD d18, nS, nD d21, nS, nD d24, nS, nD d25, nS, nD d28, nS, nD d32, nS, nD d35, nS, nD d38, nS, .val (.int (0 : Int32)), .val (.int (6 : Int32)), .val (.int (2 : Int32)), nD ve2, nS, nD d132, nS, nD ve8, nS, nD d94, nS] [(.double stp), (.double ve11)]))
  obtain ⟨d138, hd138⟩ : ∃ z, FP.dmul ve11 stp = z := ⟨_, rfl⟩
  have fr138 : OwnF.Fr 0 (vP11 * si) 33554432 d138 := by rw [← hd138]; exact OwnF.Fr.dmul fP11 fs (by decide)
  refine G1 (fun _ k => XS.dmulS X137.here hx rfl (hb hby d5_255) rfl (by rw [hd138]; exact own_nn fr138) hd138 k) ?_
  show Goes _ _ _ _ _ _ _ (T137.setTop (mkF m 256 _ [(.double d138)]))
  refine G1 (fun _ k => XS.dstore X137.here hx rfl (hb hby d5_256) rfl (l' := #[.val (.ref x0), nD tm, nS, .val (.ref x2), nD d5, nS, .val (.int (0 : Int32)), nD d11, nS, nD d13, nS, nD d14, nS, nD d18, nS, nD d21, nS, nD d24, nS, nD d25, nS, nD d28, nS, nD d32, nS, nD d35, nS, nD d38, nS, .val (.int (0 : Int32)), .val (.int (6 : Int32)), .val (.int (2 : Int32)), nD ve2, nS, nD d132, nS, nD ve8, nS, nD d138, nS]) rfl k) ?_
  show Goes _ _ _ _ _ _ _ (T137.setTop (mkF m 258 #[.val (.ref x0), nD tm, nS, .val (.ref x2), nD d5, nS, .val (.int (0 : Int32)), nD d11, nS, nD d13, nS, nD d14, nS, nD d18, nS, nD d21, nS, nD d24, nS, nD d25, nS, nD d28, nS, nD d32, nS, nD d35, nS, nD d38, nS, .val (.int (0 : Int32)), .val (.int (6 : Int32)), .val (.int (2 : Int32)), nD ve2, nS, nD d132, nS, nD ve8, nS, nD d138, nS] []))
  refine G1 (fun _ k => XS.aloadN X137.here hx rfl (hb hby d5_258) rfl rfl k) ?_
  refine G1 (fun _ k => XS.iload X137.here hx rfl (hb hby d5_259) rfl  k) ?_
  refine G1 (fun _ k => XS.dload X137.here hx rfl (hb hby d5_261) rfl k) ?_
  refine G1 (fun _ k => XS.dload X137.here hx rfl (hb hby d5_263) rfl k) ?_
  show Goes _ _ _ _ _ _ _ (T137.setTop (mkF m 265 _ [(.double ve2), (.double d18), (.int (2 : Int32)), (.ref x2)]))
  obtain ⟨d139, hd139⟩ : ∃ z, FP.dmul d18 ve2 = z := ⟨_, rfl⟩
  have fr139 : OwnF.Fr 9 (((((2 : Int) * ((jv * jv) * jv)) - (((3 : Int) * (jv * jv)) * ((2 ^ 3 : Nat) : Int))) + ((1 : Int) * ((2 ^ 9 : Nat) : Int))) * vP2) 498216206336 d139 := by rw [← hd139]; exact OwnF.Fr.dmul fr18 fP2 (by decide)
  refine G1 (fun _ k => XS.dmulS X137.here hx rfl (hb hby d5_265) rfl (by rw [hd139]; exact own_nn fr139) hd139 k) ?_
  show Goes _ _ _ _ _ _ _ (T137.setTop (mkF m 266 #[.val (.ref x0), nD tm, nS, .val (.ref x2), nD d5, nS, .val (.int (0 : Int32)), nD d11, nS, nD d13, nS, nD d14, nS, nD d18, nS, nD d21, nS, nD d24, nS, nD d25, nS, nD d28, nS, nD d32, nS, nD d35, nS, nD d38, nS, .val (.int (0 : Int32)), .val (.int (6 : Int32)), .val (.int (2 : Int32)), nD ve2, nS, nD d132, nS, nD ve8, nS, nD d138, nS] [(.double d139), (.int (2 : Int32)), (.ref x2)]))
  refine G1 (fun _ k => XS.dload X137.here hx rfl (hb hby d5_266) rfl k) ?_
  refine G1 (fun _ k => XS.dload X137.here hx rfl (hb hby d5_268) rfl k) ?_
  obtain ⟨d140, hd140⟩ : ∃ z, FP.dmul d21 d132 = z := ⟨_, rfl⟩
  have fr140 : OwnF.Fr 9 (((((jv * jv) * jv) - (((2 : Int) * (jv * jv)) * ((2 ^ 3 : Nat) : Int))) + (jv * ((2 ^ 6 : Nat) : Int))) * (vP5 * si)) 309237645312 d140 := by rw [← hd140]; exact OwnF.Fr.dmul fr21 fr132 (by decide)
  refine G1 (fun _ k => XS.dmulS X137.here hx rfl (hb hby d5_270) rfl (by rw [hd140]; exact own_nn fr140) hd140 k) ?_
  show Goes _ _ _ _ _ _ _ (T137.setTop (mkF m 271 _ [(.double d140), (.double d139), (.int (2 : Int32)), (.ref x2)]))
  obtain ⟨d141, hd141⟩ : ∃ z, FP.dadd d139 d140 = z := ⟨_, rfl⟩
  have fr141 : OwnF.Fr 9 ((((((2 : Int) * ((jv * jv) * jv)) - (((3 : Int) * (jv * jv)) * ((2 ^ 3 : Nat) : Int))) + ((1 : Int) * ((2 ^ 9 : Nat) : Int))) * vP2) + (((((jv * jv) * jv) - (((2 : Int) * (jv * jv)) * ((2 ^ 3 : Nat) : Int))) + (jv * ((2 ^ 6 : Nat) : Int))) * (vP5 * si))) 807453851648 d141 := by rw [← hd141]; exact OwnF.Fr.dadd fr139 fr140 (by decide)
  refine G1 (fun _ k => XS.daddS X137.here hx rfl (hb hby d5_271) rfl (by rw [hd141]; exact own_nn fr141) hd141 k) ?_
  show Goes _ _ _ _ _ _ _ (T137.setTop (mkF m 272 #[.val (.ref x0), nD tm, nS, .val (.ref x2), nD d5, nS, .val (.int (0 : Int32)), nD d11, nS, nD d13, nS, nD d14, nS, nD d18, nS, nD d21, nS, nD d24, nS, nD d25, nS, nD d28, nS, nD d32, nS, nD d35, nS, nD d38, nS, .val (.int (0 : Int32)), .val (.int (6 : Int32)), .val (.int (2 : Int32)), nD ve2, nS, nD d132, nS, nD ve8, nS, nD d138, nS] [(.double d141), (.int (2 : Int32)), (.ref x2)]))
  refine G1 (fun _ k => XS.dload X137.here hx rfl (hb hby d5_272) rfl k) ?_
  refine G1 (fun _ k => XS.dload X137.here hx rfl (hb hby d5_274) rfl k) ?_
  obtain ⟨d142, hd142⟩ : ∃ z, FP.dmul d24 ve8 = z := ⟨_, rfl⟩
  have fr142 : OwnF.Fr 9 ((((-2 : Int) * ((jv * jv) * jv)) + (((3 : Int) * (jv * jv)) * ((2 ^ 3 : Nat) : Int))) * vP8) 481036337152 d142 := by rw [← hd142]; exact OwnF.Fr.dmul fr24 fP8 (by decide)
  refine G1 (fun _ k => XS.dmulS X137.here hx rfl (hb hby d5_276) rfl (by rw [hd142]; exact own_nn fr142) hd142 k) ?_
  show Goes _ _ _ _ _ _ _ (T137.setTop (mkF m 277 _ [(.double d142), (.double d141), (.int (2 : Int32)), (.ref x2)]))
  obtain ⟨d143, hd143⟩ : ∃ z, FP.dadd d141 d142 = z := ⟨_, rfl⟩
  have fr143 : OwnF.Fr 9 (((((((2 : Int) * ((jv * jv) * jv)) - (((3 : Int) * (jv * jv)) * ((2 ^ 3 : Nat) : Int))) + ((1 : Int) * ((2 ^ 9 : Nat) : Int))) * vP2) + (((((jv * jv) * jv) - (((2 : Int) * (jv * jv)) * ((2 ^ 3 : Nat) : Int))) + (jv * ((2 ^ 6 : Nat) : Int))) * (vP5 * si))) + ((((-2 : Int) * ((jv * jv) * jv)) + (((3 : Int) * (jv * jv)) * ((2 ^ 3 : Nat) : Int))) * vP8)) 1288490188800 d143 := by rw [← hd143]; exact OwnF.Fr.dadd fr141 fr142 (by decide)
  refine G1 (fun _ k => XS.daddS X137.here hx rfl (hb hby d5_277) rfl (by rw [hd143]; exact own_nn fr143) hd143 k) ?_
  show Goes _ _ _ _ _ _ _ (T137.setTop (mkF m 278 #[.val (.ref x0), nD tm, nS, .val (.ref x2), nD d5, nS, .val (.int (0 : Int32)), nD d11, nS, nD d13, nS, nD d14, nS, nD d18, nS, nD d21, nS, nD d24, nS, nD d25, nS, nD d28, nS, nD d32, nS, nD d35, nS, nD d38, nS, .val (.int (0 : Int32)), .val (.int (6 : Int32)), .val (.int (2 : Int32)), nD ve2, nS, nD d132, nS, nD ve8, nS, nD d138, nS] [(.double d143), (.int (2 : Int32)), (.ref x2)]))
  refine G1 (fun _ k => XS.dload X137.here hx rfl (hb hby d5_278) rfl k) ?_
  refine G1 (fun _ k => XS.dload X137.here hx rfl (hb hby d5_280) rfl k) ?_
  obtain ⟨d144, hd144⟩ : ∃ z, FP.dmul d25 d138 = z := ⟨_, rfl⟩
  have fr144 : OwnF.Fr 9 ((((jv * jv) * jv) - ((jv * jv) * ((2 ^ 3 : Nat) : Int))) * (vP11 * si)) 206158430208 d144 := by rw [← hd144]; exact OwnF.Fr.dmul fr25 fr138 (by decide)
  refine G1 (fun _ k => XS.dmulS X137.here hx rfl (hb hby d5_282) rfl (by rw [hd144]; exact own_nn fr144) hd144 k) ?_
  show Goes _ _ _ _ _ _ _ (T137.setTop (mkF m 283 _ [(.double d144), (.double d143), (.int (2 : Int32)), (.ref x2)]))
  obtain ⟨d145, hd145⟩ : ∃ z, FP.dadd d143 d144 = z := ⟨_, rfl⟩
  have fr145 : OwnF.Fr 9 ((((((((2 : Int) * ((jv * jv) * jv)) - (((3 : Int) * (jv * jv)) * ((2 ^ 3 : Nat) : Int))) + ((1 : Int) * ((2 ^ 9 : Nat) : Int))) * vP2) + (((((jv * jv) * jv) - (((2 : Int) * (jv * jv)) * ((2 ^ 3 : Nat) : Int))) + (jv * ((2 ^ 6 : Nat) : Int))) * (vP5 * si))) + ((((-2 : Int) * ((jv * jv) * jv)) + (((3 : Int) * (jv * jv)) * ((2 ^ 3 : Nat) : Int))) * vP8)) + ((((jv * jv) * jv) - ((jv * jv) * ((2 ^ 3 : Nat) : Int))) * (vP11 * si))) 1494648619008 d145 := by rw [← hd145]; exact OwnF.Fr.dadd fr143 fr144 (by decide)
  refine G1 (fun _ k => XS.daddS X137.here hx rfl (hb hby d5_283) rfl (by rw [hd145]; exact own_nn fr145) hd145 k) ?_
  show Goes _ _ _ _ _ _ _ (T137.setTop (mkF m 284 #[.val (.ref x0), nD tm, nS, .val (.ref x2), nD d5, nS, .val (.int (0 : Int32)), nD d11, nS, nD d13, nS, nD d14, nS, nD d18, nS, nD d21, nS, nD d24, nS, nD d25, nS, nD d28, nS, nD d32, nS, nD d35, nS, nD d38, nS, .val (.int (0 : Int32)), .val (.int (6 : Int32)), .val (.int (2 : Int32)), nD ve2, nS, nD d132, nS, nD ve8, nS, nD d138, nS] [(.double d145), (.int (2 : Int32)), (.ref x2)]))
  obtain ⟨cl146, Ar146, q146, S146, P146, H146, G146⟩ := id f125
  have hin146 : ¬ ((2 : Int32) < 0 ∨ cl146.slots.size ≤ ((2 : Int32)).toNatClampNeg) := inb_of S146 ⟨by decide, by decide⟩
  obtain ⟨T147, h147, X147, e147, W147, st147⟩ := stD X137 hx hZ e137 Ar146 (j := (2 : Int32)) hin146 (g := (mkF m 284 #[.val (.ref x0), nD tm, nS, .val (.ref x2), nD d5, nS, .val (.int (0 : Int32)), nD d11, nS, nD d13, nS, nD d14, nS, nD d18, nS, nD d21, nS, nD d24, nS, nD d25, nS, nD d28, nS, nD d32, nS, nD d35, nS, nD d38, nS, .val (.int (0 : Int32)), .val (.int (6 : Int32)), .val (.int (2 : Int32)), nD ve2, nS, nD d132, nS, nD ve8, nS, nD d138, nS] [(.double d145), (.int (2 : Int32)), (.ref x2)])) rfl rfl (hb hby d5_284)
  refine G1 st147 ?_
  have V147 := Arv.set Ar146 q146 S146 P146 H146 G146 rfl W147 2 rfl (Nat.le_of_ble_eq_true rfl)
  have f148 := f121.other W147 (Or.inl ne1)
  have f149 := f122.other W147 (Or.inl ne1)
  have f150 := f123.other W147 (Or.inl ne1)
  have f151 := f124.other W147 ne2
  have f152 := V147
  have K153 : Keep h0 h147 [x2] := K126.wr W147 (Or.inl (List.mem_of_getElem? (i := 0) rfl))
  have Z153 : n0 ≤ h147.size := by rw [Wr.size W147]; exact Z126
  have N153 := Fr.snoc X147 N126 g_x2
  show Goes _ _ _ _ _ _ _ (T147.setTop (mkF m 285 _ []))
  refine G1 (fun _ k => XS.aloadN X147.here hx rfl (hb hby d5_285) rfl rfl k) ?_
  refine G1 (fun _ k => XS.iconst X147.here hx rfl (hb hby d5_286) k) ?_
  refine G1 (fun _ k => XS.iload X147.here hx rfl (hb hby d5_287) rfl  k) ?_
  refine G1 (fun _ k => XS.iadd X147.here hx rfl (hb hby d5_289) rfl k) ?_
  show Goes _ _ _ _ _ _ _ (T147.setTop (mkF m 290 #[.val (.ref x0), nD tm, nS, .val (.ref x2), nD d5, nS, .val (.int (0 : Int32)), nD d11, nS, nD d13, nS, nD d14, nS, nD d18, nS, nD d21, nS, nD d24, nS, nD d25, nS, nD d28, nS, nD d32, nS, nD d35, nS, nD d38, nS, .val (.int (0 : Int32)), .val (.int (6 : Int32)), .val (.int (2 : Int32)), nD ve2, nS, nD d132, nS, nD ve8, nS, nD d138, nS] [(.int (5 : Int32)), (.ref x2)]))
  refine G1 (fun _ k => XS.dload X147.here hx rfl (hb hby d5_290) rfl k) ?_
  refine G1 (fun _ k => XS.dload X147.here hx rfl (hb hby d5_292) rfl k) ?_
  obtain ⟨d154, hd154⟩ : ∃ z, FP.dmul d28 ve2 = z := ⟨_, rfl⟩
  have fr154 : OwnF.Fr 6 ((((6 : Int) * (jv * jv)) - (((6 : Int) * jv) * ((2 ^ 3 : Nat) : Int))) * vP2) 77309411328 d154 := by rw [← hd154]; exact OwnF.Fr.dmul fr28 fP2 (by decide)
  refine G1 (fun _ k => XS.dmulS X147.here hx rfl (hb hby d5_294) rfl (by rw [hd154]; exact own_nn fr154) hd154 k) ?_
  show Goes _ _ _ _ _ _ _ (T147.setTop (mkF m 295 _ [(.double d154), (.int (5 : Int32)), (.ref x2)]))
  refine G1 (fun _ k => XS.dload X147.here hx rfl (hb hby d5_295) rfl k) ?_
  refine G1 (fun _ k => XS.dload X147.here hx rfl (hb hby d5_297) rfl k) ?_
  obtain ⟨d155, hd155⟩ : ∃ z, FP.dmul d32 d132 = z := ⟨_, rfl⟩
  have fr155 : OwnF.Fr 6 (((((3 : Int) * (jv * jv)) - (((4 : Int) * jv) * ((2 ^ 3 : Nat) : Int))) + ((1 : Int) * ((2 ^ 6 : Nat) : Int))) * (vP5 * si)) 45097156608 d155 := by rw [← hd155]; exact OwnF.Fr.dmul fr32 fr132 (by decide)
  refine G1 (fun _ k => XS.dmulS X147.here hx rfl (hb hby d5_299) rfl (by rw [hd155]; exact own_nn fr155) hd155 k) ?_
  show Goes _ _ _ _ _ _ _ (T147.setTop (mkF m 300 #[.val (.ref x0), nD tm, nS, .val (.ref x2), nD d5, nS, .val (.int (0 : Int32)), nD d11, nS, nD d13, nS, nD d14, nS, nD d18, nS, nD d21, nS, nD d24, nS, nD d25, nS, nD d28, nS, nD d32, nS, nD d35, nS, nD d38, nS, .val (.int (0 : Int32)), .val (.int (6 : Int32)), .val (.int (2 : Int32)), nD ve2, nS, nD d132, nS, nD ve8, nS, nD d138, nS] [(.double d155), (.double d154), (.int (5 : Int32)), (.ref x2)]))
  obtain ⟨d156, hd156⟩ : ∃ z, FP.dadd d154 d155 = z := ⟨_, rfl⟩
  have fr156 : OwnF.Fr 6 (((((6 : Int) * (jv * jv)) - (((6 : Int) * jv) * ((2 ^ 3 : Nat) : Int))) * vP2) + (((((3 : Int) * (jv * jv)) - (((4 : Int) * jv) * ((2 ^ 3 : Nat) : Int))) + ((1 : Int) * ((2 ^ 6 : Nat) : Int))) * (vP5 * si))) 122406567936 d156 := by rw [← hd156]; exact OwnF.Fr.dadd fr154 fr155 (by decide)
  refine G1 (fun _ k => XS.daddS X147.here hx rfl (hb hby d5_300) rfl (by rw [hd156]; exact own_nn fr156) hd156 k) ?_
  show Goes _ _ _ _ _ _ _ (T147.setTop (mkF m 301 _ [(.double d156), (.int (5 : Int32)), (.ref x2)]))
  refine G1 (fun _ k => XS.dload X147.here hx rfl (hb hby d5_301) rfl k) ?_
  refine G1 (fun _ k => XS.dload X147.here hx rfl (hb hby d5_303) rfl k) ?_
  obtain ⟨d157, hd157⟩ : ∃ z, FP.dmul d35 ve8 = z := ⟨_, rfl⟩
  have fr157 : OwnF.Fr 6 ((((-6 : Int) * (jv * jv)) + (((6 : Int) * jv) * ((2 ^ 3 : Nat) : Int))) * vP8) 77309411328 d157 := by rw [← hd157]; exact OwnF.Fr.dmul fr35 fP8 (by decide)
  refine G1 (fun _ k => XS.dmulS X147.here hx rfl (hb hby d5_305) rfl (by rw [hd157]; exact own_nn fr157) hd157 k) ?_
  show Goes _ _ _ _ _ _ _ (T147.setTop (mkF m 306 #[.val (.ref x0), nD tm, nS, .val (.ref x2), nD d5, nS, .val (.int (0 : Int32)), nD d11, nS, nD d13, nS, nD d14, nS, nD d18, nS, nD d21, nS, nD d24, nS, nD d25, nS, nD d28, nS, nD d32, nS, nD d35, nS, nD d38, nS, .val (.int (0 : Int32)), .val (.int (6 : Int32)), .val (.int (2 : Int32)), nD ve2, nS, nD d132, nS, nD ve8, nS, nD d138, nS] [(.double d157), (.double d156), (.int (5 : Int32)), (.ref x2)]))
  obtain ⟨d158, hd158⟩ : ∃ z, FP.dadd d156 d157 = z := ⟨_, rfl⟩
  have fr158 : OwnF.Fr 6 ((((((6 : Int) * (jv * jv)) - (((6 : Int) * jv) * ((2 ^ 3 : Nat) : Int))) * vP2) + (((((3 : Int) * (jv * jv)) - (((4 : Int) * jv) * ((2 ^ 3 : Nat) : Int))) + ((1 : Int) * ((2 ^ 6 : Nat) : Int))) * (vP5 * si))) + ((((-6 : Int) * (jv * jv)) + (((6 : Int) * jv) * ((2 ^ 3 : Nat) : Int))) * vP8)) 199715979264 d158 := by rw [← hd158]; exact OwnF.Fr.dadd fr156 fr157 (by decide)
  refine G1 (fun _ k => XS.daddS X147.here hx rfl (hb hby d5_306) rfl (by rw [hd158]; exact own_nn fr158) hd158 k) ?_
  show Goes _ _ _ _ _ _ _ (T147.setTop (mkF m 307 _ [(.double d158), (.int (5 : Int32)), (.ref x2)]))
  refine G1 (fun _ k => XS.dload X147.here hx rfl (hb hby d5_307) rfl k) ?_
  refine G1 (fun _ k => XS.dload X147.here hx rfl (hb hby d5_309) rfl k) ?_
  obtain ⟨d159, hd159⟩ : ∃ z, FP.dmul d38 d138 = z := ⟨_, rfl⟩
  have fr159 : OwnF.Fr 6 ((((3 : Int) * (jv * jv)) - (((2 : Int) * jv) * ((2 ^ 3 : Nat) : Int))) * (vP11 * si)) 34359738368 d159 := by rw [← hd159]; exact OwnF.Fr.dmul fr38 fr138 (by decide)
  refine G1 (fun _ k => XS.dmulS X147.here hx rfl (hb hby d5_311) rfl (by rw [hd159]; exact own_nn fr159) hd159 k) ?_
  show Goes _ _ _ _ _ _ _ (T147.setTop (mkF m 312 #[.val (.ref x0), nD tm, nS, .val (.ref x2), nD d5, nS, .val (.int (0 : Int32)), nD d11, nS, nD d13, nS, nD d14, nS, nD d18, nS, nD d21, nS, nD d24, nS, nD d25, nS, nD d28, nS, nD d32, nS, nD d35, nS, nD d38, nS, .val (.int (0 : Int32)), .val (.int (6 : Int32)), .val (.int (2 : Int32)), nD ve2, nS, nD d132, nS, nD ve8, nS, nD d138, nS] [(.double d159), (.double d158), (.int (5 : Int32)), (.ref x2)]))
  obtain ⟨d160, hd160⟩ : ∃ z, FP.dadd d158 d159 = z := ⟨_, rfl⟩
  have fr160 : OwnF.Fr 6 (((((((6 : Int) * (jv * jv)) - (((6 : Int) * jv) * ((2 ^ 3 : Nat) : Int))) * vP2) + (((((3 : Int) * (jv * jv)) - (((4 : Int) * jv) * ((2 ^ 3 : Nat) : Int))) + ((1 : Int) * ((2 ^ 6 : Nat) : Int))) * (vP5 * si))) + ((((-6 : Int) * (jv * jv)) + (((6 : Int) * jv) * ((2 ^ 3 : Nat) : Int))) * vP8)) + ((((3 : Int) * (jv * jv)) - (((2 : Int) * jv) * ((2 ^ 3 : Nat) : Int))) * (vP11 * si))) 234075717632 d160 := by rw [← hd160]; exact OwnF.Fr.dadd fr158 fr159 (by decide)
  refine G1 (fun _ k => XS.daddS X147.here hx rfl (hb hby d5_312) rfl (by rw [hd160]; exact own_nn fr160) hd160 k) ?_
  show Goes _ _ _ _ _ _ _ (T147.setTop (mkF m 313 _ [(.double d160), (.int (5 : Int32)), (.ref x2)]))
  refine G1 (fun _ k => XS.aloadN X147.here hx rfl (hb hby d5_313) rfl rfl k) ?_
  obtain ⟨T161, X161, e161, st161⟩ := getF X147 hx hZ hown (host := "") (Or.inl w_22) Via.refl e147 f148 (g := (mkF m 314 #[.val (.ref x0), nD tm, nS, .val (.ref x2), nD d5, nS, .val (.int (0 : Int32)), nD d11, nS, nD d13, nS, nD d14, nS, nD d18, nS, nD d21, nS, nD d24, nS, nD d25, nS, nD d28, nS, nD d32, nS, nD d35, nS, nD d38, nS, .val (.int (0 : Int32)), .val (.int (6 : Int32)), .val (.int (2 : Int32)), nD ve2, nS, nD d132, nS, nD ve8, nS, nD d138, nS] [(.ref x0), (.double d160), (.int (5 : Int32)), (.ref x2)])) rfl rfl (hb hby d5_314)
  refine G1 st161 ?_
  show Goes _ _ _ _ _ _ _ (T161.setTop (mkF m 317 #[.val (.ref x0), nD tm, nS, .val (.ref x2), nD d5, nS, .val (.int (0 : Int32)), nD d11, nS, nD d13, nS, nD d14, nS, nD d18, nS, nD d21, nS, nD d24, nS, nD d25, nS, nD d28, nS, nD d32, nS, nD d35, nS, nD d38, nS, .val (.int (0 : Int32)), .val (.int (6 : Int32)), .val (.int (2 : Int32)), nD ve2, nS, nD d132, nS, nD ve8, nS, nD d138, nS] [(.double stp), (.double d160), (.int (5 : Int32)), (.ref x2)]))
  obtain ⟨d162, hd162⟩ : ∃ z, FP.ddiv d160 stp = z := ⟨_, rfl⟩
  have fr162 : OwnF.Fr 6 ((((((-6 : Int) * (jv * jv)) + (((6 : Int) * jv) * ((2 ^ 3 : Nat) : Int))) * vg2) + (((((3 : Int) * (jv * jv)) - (((4 : Int) * jv) * ((2 ^ 3 : Nat) : Int))) + ((1 : Int) * ((2 ^ 6 : Nat) : Int))) * vP5)) + ((((3 : Int) * (jv * jv)) - (((2 : Int) * jv) * ((2 ^ 3 : Nat) : Int))) * vP11)) 43620761600 d162 := by rw [← hd162]; exact OwnF.Fr.ddiv fr160 fs hs1 (own_vel0_2 hg2) (own_ba (own_ba (own_bm fr35.2 gb2) (own_bm fr32.2 fP5.2)) (own_bm fr38.2 fP11.2)) (by decide)
  refine G1 (fun _ k => XS.ddivS X161.here hx rfl (hb hby d5_317) rfl (by rw [hd162]; exact own_nn fr162) hd162 k) ?_
  show Goes _ _ _ _ _ _ _ (T161.setTop (mkF m 318 _ [(.double d162), (.int (5 : Int32)), (.ref x2)]))
  obtain ⟨cl163, Ar163, q163, S163, P163, H163, G163⟩ := id f152
  have hin163 : ¬ ((5 : Int32) < 0 ∨ cl163.slots.size ≤ ((5 : Int32)).toNatClampNeg) := inb_of S163 ⟨by decide, by decide⟩
  obtain ⟨T164, h164, X164, e164, W164, st164⟩ := stD X161 hx hZ e161 Ar163 (j := (5 : Int32)) hin163 (g := (mkF m 318 #[.val (.ref x0), nD tm, nS, .val (.ref x2), nD d5, nS, .val (.int (0 : Int32)), nD d11, nS, nD d13, nS, nD d14, nS, nD d18, nS, nD d21, nS, nD d24, nS, nD d25, nS, nD d28, nS, nD d32, nS, nD d35, nS, nD d38, nS, .val (.int (0 : Int32)), .val (.int (6 : Int32)), .val (.int (2 : Int32)), nD ve2, nS, nD d132, nS, nD ve8, nS, nD d138, nS] [(.double d162), (.int (5 : Int32)), (.ref x2)])) rfl rfl (hb hby d5_318)
  refine G1 st164 ?_
  have V164 := Arv.set Ar163 q163 S163 P163 H163 G163 rfl W164 5 rfl (Nat.le_of_ble_eq_true rfl)
  have f165 := f148.other W164 (Or.inl ne1)
  have f166 := f149.other W164 (Or.inl ne1)
  have f167 := f150.other W164 (Or.inl ne1)
  have f168 := f151.other W164 ne2
  have f169 := V164
  have K170 : Keep h0 h164 [x2] := K153.wr W164 (Or.inl (List.mem_of_getElem? (i := 0) rfl))
  have Z170 : n0 ≤ h164.size := by rw [Wr.size W164]; exact Z153
  have N170 := Fr.snoc X164 N153 g_x2
  show Goes _ _ _ _ _ _ _ (T164.setTop (mkF m 319 #[.val (.ref x0), nD tm, nS, .val (.ref x2), nD d5, nS, .val (.int (0 : Int32)), nD d11, nS, nD d13, nS, nD d14, nS, nD d18, nS, nD d21, nS, nD d24, nS, nD d25, nS, nD d28, nS, nD d32, nS, nD d35, nS, nD d38, nS, .val (.int (0 : Int32)), .val (.int (6 : Int32)), .val (.int (2 : Int32)), nD ve2, nS, nD d132, nS, nD ve8, nS, nD d138, nS] []))
  refine G1 (fun _ k => XS.iinc X164.here hx rfl (hb hby d5_319) rfl (l' := #[.val (.ref x0), nD tm, nS, .val (.ref x2), nD d5, nS, .val (.int (0 : Int32)), nD d11, nS, nD d13, nS, nD d14, nS, nD d18, nS, nD d21, nS, nD d24, nS, nD d25, nS, nD d28, nS, nD d32, nS, nD d35, nS, nD d38, nS, .val (.int (0 : Int32)), .val (.int (6 : Int32)), .val (.int (3 : Int32)), nD ve2, nS, nD d132, nS, nD ve8, nS, nD d138, nS]) rfl k) ?_
  show Goes _ _ _ _ _ _ _ (T164.setTop (mkF m 322 _ []))
  refine G1 (fun _ k => XS.goto X164.here hx rfl (pc0 := 322) (pc' := 190) rfl (hb hby d5_322) (by decide) (by decide) k) ?_
  show Goes _ _ _ _ _ _ _ (T164.setTop (mkF m 190 #[.val (.ref x0), nD tm, nS, .val (.ref x2), nD d5, nS, .val (.int (0 : Int32)), nD d11, nS, nD d13, nS, nD d14, nS, nD d18, nS, nD d21, nS, nD d24, nS, nD d25, nS, nD d28, nS, nD d32, nS, nD d35, nS, nD d38, nS, .val (.int (0 : Int32)), .val (.int (6 : Int32)), .val (.int (3 : Int32)), nD ve2, nS, nD d132, nS, nD ve8, nS, nD d138, nS] []))
  refine G1 (fun _ k => XS.iload X164.here hx rfl (hb hby d5_190) rfl  k) ?_
  refine G1 (fun _ k => XS.iconst X164.here hx rfl (hb hby d5_192) k) ?_
  refine G1 (fun _ k => XS.icmpYes X164.here hx rfl (pc0 := 193) (pc' := 325) rfl (hb hby d5_193) rfl (flt (by decide : ¬ ((3 : Int32) < (3 : Int32)))).2.1 (by decide) (by decide) k) ?_
  show Goes _ _ _ _ _ _ _ (T164.setTop (mkF m 325 _ []))
  exact Goes.retV X164 hx (BodyLoose.notSynchronized Bd) Bd.returns (hb hby d5_325) (by show Q5_0 Z x0 tm x2 sa ka kb stp ve0 ve1 ve2 ve3 ve4 ve5 ve6 ve7 ve8 ve9 ve10 ve11 ve12 ve13 ve14 ve15 ve16 ve17 vu0 vu1 vu2 vu3 vu4 vu5 ki si kc jv vP0 vP1 vP2 vP3 vP4 vP5 vP6 vP7 vP8 vP9 vP10 vP11 vg0 vg1 vg2 h0 n0 none T164.heap _; rw [e164]; exact ⟨N170, K170, rfl, d57, d101, d145, d74, d118, d162, ((((((((2 : Int) * ((jv * jv) * jv)) - (((3 : Int) * (jv * jv)) * ((2 ^ 3 : Nat) : Int))) + ((1 : Int) * ((2 ^ 9 : Nat) : Int))) * vP0) + (((((jv * jv) * jv) - (((2 : Int) * (jv * jv)) * ((2 ^ 3 : Nat) : Int))) + (jv * ((2 ^ 6 : Nat) : Int))) * (vP3 * si))) + ((((-2 : Int) * ((jv * jv) * jv)) + (((3 : Int) * (jv * jv)) * ((2 ^ 3 : Nat) : Int))) * vP6)) + ((((jv * jv) * jv) - ((jv * jv) * ((2 ^ 3 : Nat) : Int))) * (vP9 * si))), ((((((((2 : Int) * ((jv * jv) * jv)) - (((3 : Int) * (jv * jv)) * ((2 ^ 3 : Nat) : Int))) + ((1 : Int) * ((2 ^ 9 : Nat) : Int))) * vP1) + (((((jv * jv) * jv) - (((2 : Int) * (jv * jv)) * ((2 ^ 3 : Nat) : Int))) + (jv * ((2 ^ 6 : Nat) : Int))) * (vP4 * si))) + ((((-2 : Int) * ((jv * jv) * jv)) + (((3 : Int) * (jv * jv)) * ((2 ^ 3 : Nat) : Int))) * vP7)) + ((((jv * jv) * jv) - ((jv * jv) * ((2 ^ 3 : Nat) : Int))) * (vP10 * si))), ((((((((2 : Int) * ((jv * jv) * jv)) - (((3 : Int) * (jv * jv)) * ((2 ^ 3 : Nat) : Int))) + ((1 : Int) * ((2 ^ 9 : Nat) : Int))) * vP2) + (((((jv * jv) * jv) - (((2 : Int) * (jv * jv)) * ((2 ^ 3 : Nat) : Int))) + (jv * ((2 ^ 6 : Nat) : Int))) * (vP5 * si))) + ((((-2 : Int) * ((jv * jv) * jv)) + (((3 : Int) * (jv * jv)) * ((2 ^ 3 : Nat) : Int))) * vP8)) + ((((jv * jv) * jv) - ((jv * jv) * ((2 ^ 3 : Nat) : Int))) * (vP11 * si))), ((((((-6 : Int) * (jv * jv)) + (((6 : Int) * jv) * ((2 ^ 3 : Nat) : Int))) * vg0) + (((((3 : Int) * (jv * jv)) - (((4 : Int) * jv) * ((2 ^ 3 : Nat) : Int))) + ((1 : Int) * ((2 ^ 6 : Nat) : Int))) * vP3)) + ((((3 : Int) * (jv * jv)) - (((2 : Int) * jv) * ((2 ^ 3 : Nat) : Int))) * vP9)), ((((((-6 : Int) * (jv * jv)) + (((6 : Int) * jv) * ((2 ^ 3 : Nat) : Int))) * vg1) + (((((3 : Int) * (jv * jv)) - (((4 : Int) * jv) * ((2 ^ 3 : Nat) : Int))) + ((1 : Int) * ((2 ^ 6 : Nat) : Int))) * vP4)) + ((((3 : Int) * (jv * jv)) - (((2 : Int) * jv) * ((2 ^ 3 : Nat) : Int))) * vP10)), ((((((-6 : Int) * (jv * jv)) + (((6 : Int) * jv) * ((2 ^ 3 : Nat) : Int))) * vg2) + (((((3 : Int) * (jv * jv)) - (((4 : Int) * jv) * ((2 ^ 3 : Nat) : Int))) + ((1 : Int) * ((2 ^ 6 : Nat) : Int))) * vP5)) + ((((3 : Int) * (jv * jv)) - (((2 : Int) * jv) * ((2 ^ 3 : Nat) : Int))) * vP11)), f169, rfl, fr57, rfl, fr101, rfl, fr145, rfl, fr74, rfl, fr118, rfl, fr162⟩) (by decide) (by decide)
theorem own_vel1_0 {jv si vg0 vP6 vP9 vP12 vP15 : Int} (h : vP12 = vP6 + vg0 * si) : (((((((6 : Int) * (jv * jv)) - (((6 : Int) * jv) * ((2 ^ 3 : Nat) : Int))) * vP6) + (((((3 : Int) * (jv * jv)) - (((4 : Int) * jv) * ((2 ^ 3 : Nat) : Int))) + ((1 : Int) * ((2 ^ 6 : Nat) : Int))) * (vP9 * si))) + ((((-6 : Int) * (jv * jv)) + (((6 : Int) * jv) * ((2 ^ 3 : Nat) : Int))) * vP12)) + ((((3 : Int) * (jv * jv)) - (((2 : Int) * jv) * ((2 ^ 3 : Nat) : Int))) * (vP15 * si))) = ((((((-6 : Int) * (jv * jv)) + (((6 : Int) * jv) * ((2 ^ 3 : Nat) : Int))) * vg0) + (((((3 : Int) * (jv * jv)) - (((4 : Int) * jv) * ((2 ^ 3 : Nat) : Int))) + ((1 : Int) * ((2 ^ 6 : Nat) : Int))) * vP9)) + ((((3 : Int) * (jv * jv)) - (((2 : Int) * jv) * ((2 ^ 3 : Nat) : Int))) * vP15)) * si := by
  subst h
  grind
theorem own_vel1_1 {jv si vg1 vP7 vP10 vP13 vP16 : Int} (h : vP13 = vP7 + vg1 * si) : (((((((6 : Int) * (jv * jv)) - (((6 : Int) * jv) * ((2 ^ 3 : Nat) : Int))) * vP7) + (((((3 : Int) * (jv * jv)) - (((4 : Int) * jv) * ((2 ^ 3 : Nat) : Int))) + ((1 : Int) * ((2 ^ 6 : Nat) : Int))) * (vP10 * si))) + ((((-6 : Int) * (jv * jv)) + (((6 : Int) * jv) * ((2 ^ 3 : Nat) : Int))) * vP13)) + ((((3 : Int) * (jv * jv)) - (((2 : Int) * jv) * ((2 ^ 3 : Nat) : Int))) * (vP16 * si))) = ((((((-6 : Int) * (jv * jv)) + (((6 : Int) * jv) * ((2 ^ 3 : Nat) : Int))) * vg1) + (((((3 : Int) * (jv * jv)) - (((4 : Int) * jv) * ((2 ^ 3 : Nat) : Int))) + ((1 : Int) * ((2 ^ 6 : Nat) : Int))) * vP10)) + ((((3 : Int) * (jv * jv)) - (((2 : Int) * jv) * ((2 ^ 3 : Nat) : Int))) * vP16)) * si := by
  subst h
  grind
theorem own_vel1_2 {jv si vg2 vP8 vP11 vP14 vP17 : Int} (h : vP14 = vP8 + vg2 * si) : (((((((6 : Int) * (jv * jv)) - (((6 : Int) * jv) * ((2 ^ 3 : Nat) : Int))) * vP8) + (((((3 : Int) * (jv * jv)) - (((4 : Int) * jv) * ((2 ^ 3 : Nat) : Int))) + ((1 : Int) * ((2 ^ 6 : Nat) : Int))) * (vP11 * si))) + ((((-6 : Int) * (jv * jv)) + (((6 : Int) * jv) * ((2 ^ 3 : Nat) : Int))) * vP14)) + ((((3 : Int) * (jv * jv)) - (((2 : Int) * jv) * ((2 ^ 3 : Nat) : Int))) * (vP17 * si))) = ((((((-6 : Int) * (jv * jv)) + (((6 : Int) * jv) * ((2 ^ 3 : Nat) : Int))) * vg2) + (((((3 : Int) * (jv * jv)) - (((4 : Int) * jv) * ((2 ^ 3 : Nat) : Int))) + ((1 : Int) * ((2 ^ 6 : Nat) : Int))) * vP11)) + ((((3 : Int) * (jv * jv)) - (((2 : Int) * jv) * ((2 ^ 3 : Nat) : Int))) * vP17)) * si := by
  subst h
  grind
theorem ef_5_1 (m : MethodId) (x0 : Addr) (tm : UInt64) (x2 : Addr) (sa : Addr) (ka : ClassId) (kb : ClassId) (stp : UInt64) (ve0 : UInt64) (ve1 : UInt64) (ve2 : UInt64) (ve3 : UInt64) (ve4 : UInt64) (ve5 : UInt64) (ve6 : UInt64) (ve7 : UInt64) (ve8 : UInt64) (ve9 : UInt64) (ve10 : UInt64) (ve11 : UInt64) (ve12 : UInt64) (ve13 : UInt64) (ve14 : UInt64) (ve15 : UInt64) (ve16 : UInt64) (ve17 : UInt64) (vu0 : UInt64) (vu1 : UInt64) (vu2 : UInt64) (vu3 : UInt64) (vu4 : UInt64) (vu5 : UInt64) (ki : Int) (si : Int) (kc : Int) (jv : Int) (vP6 : Int) (vP7 : Int) (vP8 : Int) (vP9 : Int) (vP10 : Int) (vP11 : Int) (vP12 : Int) (vP13 : Int) (vP14 : Int) (vP15 : Int) (vP16 : Int) (vP17 : Int) (vg0 : Int) (vg1 : Int) (vg2 : Int)  : entryFrame m #[(.ref x0), (.double tm), (.ref x2)] 40 = mkF m 0 #[.val (.ref x0), .val (.double tm), .second, .val (.ref x2), .unset, .unset, .unset, .unset, .unset, .unset, .unset, .unset, .unset, .unset, .unset, .unset, .unset, .unset, .unset, .unset, .unset, .unset, .unset, .unset, .unset, .unset, .unset, .unset, .unset, .unset, .unset, .unset, .unset, .unset, .unset, .unset, .unset, .unset, .unset, .unset] [] := by first | (simp [entryFrame, mkF, argsToLocals, Value.category]; done) | rfl
def Q5_1 (Z : State) (x0 : Addr) (tm : UInt64) (x2 : Addr) (sa : Addr) (ka : ClassId) (kb : ClassId) (stp : UInt64) (ve0 : UInt64) (ve1 : UInt64) (ve2 : UInt64) (ve3 : UInt64) (ve4 : UInt64) (ve5 : UInt64) (ve6 : UInt64) (ve7 : UInt64) (ve8 : UInt64) (ve9 : UInt64) (ve10 : UInt64) (ve11 : UInt64) (ve12 : UInt64) (ve13 : UInt64) (ve14 : UInt64) (ve15 : UInt64) (ve16 : UInt64) (ve17 : UInt64) (vu0 : UInt64) (vu1 : UInt64) (vu2 : UInt64) (vu3 : UInt64) (vu4 : UInt64) (vu5 : UInt64) (ki : Int) (si : Int) (kc : Int) (jv : Int) (vP6 : Int) (vP7 : Int) (vP8 : Int) (vP9 : Int) (vP10 : Int) (vP11 : Int) (vP12 : Int) (vP13 : Int) (vP14 : Int) (vP15 : Int) (vP16 : Int) (vP17 : Int) (vg0 : Int) (vg1 : Int) (vg2 : Int) (h0 : Heap) (n0 : Nat) (v : Option Value) (h : Heap) (L : List Loc) : Prop := Fr n0 L ∧ Keep h0 h [x2] ∧ v = none ∧ ∃ (q0 q1 q2 q3 q4 q5 : UInt64) (I0 I1 I2 I3 I4 I5 : Int), Arv Z h x2 kb .double (6 : Int32) [(.double q0), (.double q1), (.double q2), (.double q3), (.double q4), (.double q5)] (.double (0 : UInt64)) ∧ I0 = ((((((((2 : Int) * ((jv * jv) * jv)) - (((3 : Int) * (jv * jv)) * ((2 ^ 3 : Nat) : Int))) + ((1 : Int) * ((2 ^ 9 : Nat) : Int))) * vP6) + (((((jv * jv) * jv) - (((2 : Int) * (jv * jv)) * ((2 ^ 3 : Nat) : Int))) + (jv * ((2 ^ 6 : Nat) : Int))) * (vP9 * si))) + ((((-2 : Int) * ((jv * jv) * jv)) + (((3 : Int) * (jv * jv)) * ((2 ^ 3 : Nat) : Int))) * vP12)) + ((((jv * jv) * jv) - ((jv * jv) * ((2 ^ 3 : Nat) : Int))) * (vP15 * si))) ∧ OwnF.Fr 9 I0 1494648619008 q0 ∧ I1 = ((((((((2 : Int) * ((jv * jv) * jv)) - (((3 : Int) * (jv * jv)) * ((2 ^ 3 : Nat) : Int))) + ((1 : Int) * ((2 ^ 9 : Nat) : Int))) * vP7) + (((((jv * jv) * jv) - (((2 : Int) * (jv * jv)) * ((2 ^ 3 : Nat) : Int))) + (jv * ((2 ^ 6 : Nat) : Int))) * (vP10 * si))) + ((((-2 : Int) * ((jv * jv) * jv)) + (((3 : Int) * (jv * jv)) * ((2 ^ 3 : Nat) : Int))) * vP13)) + ((((jv * jv) * jv) - ((jv * jv) * ((2 ^ 3 : Nat) : Int))) * (vP16 * si))) ∧ OwnF.Fr 9 I1 1494648619008 q1 ∧ I2 = ((((((((2 : Int) * ((jv * jv) * jv)) - (((3 : Int) * (jv * jv)) * ((2 ^ 3 : Nat) : Int))) + ((1 : Int) * ((2 ^ 9 : Nat) : Int))) * vP8) + (((((jv * jv) * jv) - (((2 : Int) * (jv * jv)) * ((2 ^ 3 : Nat) : Int))) + (jv * ((2 ^ 6 : Nat) : Int))) * (vP11 * si))) + ((((-2 : Int) * ((jv * jv) * jv)) + (((3 : Int) * (jv * jv)) * ((2 ^ 3 : Nat) : Int))) * vP14)) + ((((jv * jv) * jv) - ((jv * jv) * ((2 ^ 3 : Nat) : Int))) * (vP17 * si))) ∧ OwnF.Fr 9 I2 1494648619008 q2 ∧ I3 = ((((((-6 : Int) * (jv * jv)) + (((6 : Int) * jv) * ((2 ^ 3 : Nat) : Int))) * vg0) + (((((3 : Int) * (jv * jv)) - (((4 : Int) * jv) * ((2 ^ 3 : Nat) : Int))) + ((1 : Int) * ((2 ^ 6 : Nat) : Int))) * vP9)) + ((((3 : Int) * (jv * jv)) - (((2 : Int) * jv) * ((2 ^ 3 : Nat) : Int))) * vP15)) ∧ OwnF.Fr 6 I3 43620761600 q3 ∧ I4 = ((((((-6 : Int) * (jv * jv)) + (((6 : Int) * jv) * ((2 ^ 3 : Nat) : Int))) * vg1) + (((((3 : Int) * (jv * jv)) - (((4 : Int) * jv) * ((2 ^ 3 : Nat) : Int))) + ((1 : Int) * ((2 ^ 6 : Nat) : Int))) * vP10)) + ((((3 : Int) * (jv * jv)) - (((2 : Int) * jv) * ((2 ^ 3 : Nat) : Int))) * vP16)) ∧ OwnF.Fr 6 I4 43620761600 q4 ∧ I5 = ((((((-6 : Int) * (jv * jv)) + (((6 : Int) * jv) * ((2 ^ 3 : Nat) : Int))) * vg2) + (((((3 : Int) * (jv * jv)) - (((4 : Int) * jv) * ((2 ^ 3 : Nat) : Int))) + ((1 : Int) * ((2 ^ 6 : Nat) : Int))) * vP11)) + ((((3 : Int) * (jv * jv)) - (((2 : Int) * jv) * ((2 ^ 3 : Nat) : Int))) * vP17)) ∧ OwnF.Fr 6 I5 43620761600 q5
set_option maxRecDepth 65536 in
set_option maxHeartbeats 40000000 in
theorem rm5_1 (l : Launch) (Z : State) (a0 : Array Value) (hw : ∀ d ∈ tables_1, d.before a0 Z = true) (ws : List Jvm.Cond) (x0 : Addr) (tm : UInt64) (x2 : Addr) (sa : Addr) (ka : ClassId) (kb : ClassId) (stp : UInt64) (ve0 : UInt64) (ve1 : UInt64) (ve2 : UInt64) (ve3 : UInt64) (ve4 : UInt64) (ve5 : UInt64) (ve6 : UInt64) (ve7 : UInt64) (ve8 : UInt64) (ve9 : UInt64) (ve10 : UInt64) (ve11 : UInt64) (ve12 : UInt64) (ve13 : UInt64) (ve14 : UInt64) (ve15 : UInt64) (ve16 : UInt64) (ve17 : UInt64) (vu0 : UInt64) (vu1 : UInt64) (vu2 : UInt64) (vu3 : UInt64) (vu4 : UInt64) (vu5 : UInt64) (ki : Int) (si : Int) (kc : Int) (jv : Int) (vP6 : Int) (vP7 : Int) (vP8 : Int) (vP9 : Int) (vP10 : Int) (vP11 : Int) (vP12 : Int) (vP13 : Int) (vP14 : Int) (vP15 : Int) (vP16 : Int) (vP17 : Int) (vg0 : Int) (vg1 : Int) (vg2 : Int) (h0 : Heap) (n0 : Nat) (Z0 : n0 ≤ h0.size) (F_step : Fld Z h0 x0 "com/example/orbitloom/orbitloom/orbits/Track" "step" "D" (.double stp)) (F_sam : Fld Z h0 x0 "com/example/orbitloom/orbitloom/orbits/Track" "samples" "[D" (.ref sa)) (F_size : Fld Z h0 x0 "com/example/orbitloom/orbitloom/orbits/Track" "size" "I" (.int (3 : Int32))) (V_sa : Arv Z h0 sa ka .double (18 : Int32) [(.double ve0), (.double ve1), (.double ve2), (.double ve3), (.double ve4), (.double ve5), (.double ve6), (.double ve7), (.double ve8), (.double ve9), (.double ve10), (.double ve11), (.double ve12), (.double ve13), (.double ve14), (.double ve15), (.double ve16), (.double ve17)] (.double (0 : UInt64))) (V_x2 : Arv Z h0 x2 kb .double (6 : Int32) [(.double vu0), (.double vu1), (.double vu2), (.double vu3), (.double vu4), (.double vu5)] (.double (0 : UInt64))) (g_x2 : n0 ≤ x2) (ne1 : x0 ≠ x2) (ne2 : sa ≠ x2) (ft : OwnF.Fr 3 (ki * si) 34359738368 tm) (fs : OwnF.Fr 0 si 16 stp) (hs1 : 0 < si) (hkb : ki.natAbs ≤ 2147483648) (hkc : kc = min (max ki 0) 16) (hseg : 8 ≤ kc) (hjv : jv = kc - 8) (fP6 : OwnF.Fr 0 vP6 33554432 ve6) (fP7 : OwnF.Fr 0 vP7 33554432 ve7) (fP8 : OwnF.Fr 0 vP8 33554432 ve8) (fP9 : OwnF.Fr 0 vP9 2097152 ve9) (fP10 : OwnF.Fr 0 vP10 2097152 ve10) (fP11 : OwnF.Fr 0 vP11 2097152 ve11) (fP12 : OwnF.Fr 0 vP12 33554432 ve12) (fP13 : OwnF.Fr 0 vP13 33554432 ve13) (fP14 : OwnF.Fr 0 vP14 33554432 ve14) (fP15 : OwnF.Fr 0 vP15 2097152 ve15) (fP16 : OwnF.Fr 0 vP16 2097152 ve16) (fP17 : OwnF.Fr 0 vP17 2097152 ve17) (hg0 : vP12 = vP6 + vg0 * si) (hg1 : vP13 = vP7 + vg1 * si) (hg2 : vP14 = vP8 + vg2 * si) (gb0 : vg0.natAbs ≤ 16777216) (gb1 : vg1.natAbs ≤ 16777216) (gb2 : vg2.natAbs ≤ 16777216) :
    MetFree l (⟨"com/example/orbitloom/orbitloom/orbits/Track", "at", "(D[D)V"⟩ : MethodName) (head1 (Jvm.Cond.code (⟨"com/example/orbitloom/orbitloom/orbits/Track", "at", "(D[D)V"⟩ : MethodName) prog_63_method_5_code 40 none :: ws) ({ frames := 1, cells := 0, slots := 0, locals := 15 } : Room)) (fun a U => a = #[(.ref x0), (.double tm), (.ref x2)] ∧ Z.Warmed39 U.vm ∧ U.heap = h0) (fun _ _ _ _ _ => True) (fun _ U o U' => ∃ v L, o = .returned v ∧ Q5_1 Z x0 tm x2 sa ka kb stp ve0 ve1 ve2 ve3 ve4 ve5 ve6 ve7 ve8 ve9 ve10 ve11 ve12 ve13 ve14 ve15 ve16 ve17 vu0 vu1 vu2 vu3 vu4 vu5 ki si kc jv vP6 vP7 vP8 vP9 vP10 vP11 vP12 vP13 vP14 vP15 vP16 vP17 vg0 vg1 vg2 h0 n0 v U'.heap L ∧ FrameEnd U o U' L ({ frames := 1, cells := 0, slots := 0, locals := 15 } : Room).cells ({ frames := 1, cells := 0, slots := 0, locals := 15 } : Room).slots) := by
  refine MetFree.of_bodySF (plainFor_of_name pn_5) hisR ?_
  intro p e s m args below meth c s₁ Bd hml0 hP hK
  obtain ⟨rfl, hZ, hh⟩ := hP
  have w_22 := hw _ (List.mem_of_getElem? (i := 22) rfl)
  have w_24 := hw _ (List.mem_of_getElem? (i := 24) rfl)
  have w_26 := hw _ (List.mem_of_getElem? (i := 26) rfl)
  have w_34 := hw _ (List.mem_of_getElem? (i := 34) rfl)
  have w_35 := hw _ (List.mem_of_getElem? (i := 35) rfl)
  have w_36 := hw _ (List.mem_of_getElem? (i := 36) rfl)
  have w_37 := hw _ (List.mem_of_getElem? (i := 37) rfl)
  have w_38 := hw _ (List.mem_of_getElem? (i := 38) rfl)
  have w_39 := hw _ (List.mem_of_getElem? (i := 39) rfl)
  have w_40 := hw _ (List.mem_of_getElem? (i := 40) rfl)
  have w_41 := hw _ (List.mem_of_getElem? (i := 41) rfl)
  have w_42 := hw _ (List.mem_of_getElem? (i := 42) rfl)
  have w_43 := hw _ (List.mem_of_getElem? (i := 43) rfl)
  have w_44 := hw _ (List.mem_of_getElem? (i := 44) rfl)
  have w_45 := hw _ (List.mem_of_getElem? (i := 45) rfl)
  have w_46 := hw _ (List.mem_of_getElem? (i := 46) rfl)
  have w_47 := hw _ (List.mem_of_getElem? (i := 47) rfl)
  have w_48 := hw _ (List.mem_of_getElem? (i := 48) rfl)
  have w_49 := hw _ (List.mem_of_getElem? (i := 49) rfl)
  have hx := Bd.exec
  have hby := Bd.bytes
  have hml : c.maxLocals = 40 := hml0
  have hown : s.vm.findClass "com/example/orbitloom/orbitloom/orbits/Track" = some m.cls := findClass_of_methodNamed Bd.named
  have hnm := (name_of_methodNamed Bd.named Bd.method).1
  have X0 : Stand p l e ({ frames := 1, cells := 0, slots := 0, locals := 15 } : Room) s m #[(.ref x0), (.double tm), (.ref x2)] below meth c s₁ [] 0 0 := Stand.of_body Bd
  have e0 : s₁.heap = h0 := by rw [← hh, Bd.state]; rfl
  have N0 := Fr.nil n0
  have K0 : Keep h0 h0 [x2] := Keep.refl h0 _
  refine (?_ : Goes p e below s ({ frames := 1, cells := 0, slots := 0, locals := 15 } : Room).cells ({ frames := 1, cells := 0, slots := 0, locals := 15 } : Room).slots (fun v h L => Q5_1 Z x0 tm x2 sa ka kb stp ve0 ve1 ve2 ve3 ve4 ve5 ve6 ve7 ve8 ve9 ve10 ve11 ve12 ve13 ve14 ve15 ve16 ve17 vu0 vu1 vu2 vu3 vu4 vu5 ki si kc jv vP6 vP7 vP8 vP9 vP10 vP11 vP12 vP13 vP14 vP15 vP16 vP17 vg0 vg1 vg2 h0 n0 v h L) (s₁.setTop (entryFrame m #[(.ref x0), (.double tm), (.ref x2)] 40)))
  rw [ef_5_1 m x0 tm x2 sa ka kb stp ve0 ve1 ve2 ve3 ve4 ve5 ve6 ve7 ve8 ve9 ve10 ve11 ve12 ve13 ve14 ve15 ve16 ve17 vu0 vu1 vu2 vu3 vu4 vu5 ki si kc jv vP6 vP7 vP8 vP9 vP10 vP11 vP12 vP13 vP14 vP15 vP16 vP17 vg0 vg1 vg2 ]
  have hk0 : 0 ≤ kc := by omega
  have hk16 : kc ≤ 16 := by omega
  show Goes _ _ _ _ _ _ _ (s₁.setTop (mkF m 0 #[.val (.ref x0), nD tm, nS, .val (.ref x2), nU, nU, nU, nU, nU, nU, nU, nU, nU, nU, nU, nU, nU, nU, nU, nU, nU, nU, nU, nU, nU, nU, nU, nU, nU, nU, nU, nU, nU, nU, nU, nU, nU, nU, nU, nU] []))
  refine G1 (fun _ k => XS.dloadN X0.here hx rfl (hb hby d5_0) rfl k) ?_
  refine G1 (fun _ k => XS.aloadN X0.here hx rfl (hb hby d5_1) rfl rfl k) ?_
  obtain ⟨T1, X1, e1, st1⟩ := getF X0 hx hZ hown (host := "") (Or.inl w_22) Via.refl e0 F_step (g := (mkF m 2 #[.val (.ref x0), nD tm, nS, .val (.ref x2), nU, nU, nU, nU, nU, nU, nU, nU, nU, nU, nU, nU, nU, nU, nU, nU, nU, nU, nU, nU, nU, nU, nU, nU, nU, nU, nU, nU, nU, nU, nU, nU, nU, nU, nU, nU] [(.ref x0), (.double tm)])) rfl rfl (hb hby d5_2)
  refine G1 st1 ?_
  show Goes _ _ _ _ _ _ _ (T1.setTop (mkF m 5 _ [(.double stp), (.double tm)]))
  obtain ⟨d2, hd2⟩ : ∃ z, FP.ddiv tm stp = z := ⟨_, rfl⟩
  have fr2 : OwnF.Fr 3 ki 2147483648 d2 := by rw [← hd2]; exact OwnF.Fr.ddiv ft fs hs1 rfl hkb (by decide)
  refine G1 (fun _ k => XS.ddivS X1.here hx rfl (hb hby d5_5) rfl (by rw [hd2]; exact own_nn fr2) hd2 k) ?_
  show Goes _ _ _ _ _ _ _ (T1.setTop (mkF m 6 #[.val (.ref x0), nD tm, nS, .val (.ref x2), nU, nU, nU, nU, nU, nU, nU, nU, nU, nU, nU, nU, nU, nU, nU, nU, nU, nU, nU, nU, nU, nU, nU, nU, nU, nU, nU, nU, nU, nU, nU, nU, nU, nU, nU, nU] [(.double d2)]))
  refine G1 (fun _ k => XS.dconst0 X1.here hx rfl (hb hby d5_6) rfl k) ?_
  obtain ⟨d3, hd3⟩ : ∃ z, Jvm.Native.java_lang_Math.nans.pick64 true d2 FP.dconst0 = z := ⟨_, rfl⟩
  have fr3 : OwnF.Fr 3 (max ki ((0 : Int) * ((2 ^ 3 : Nat) : Int))) 2147483648 d3 := by rw [← hd3]; exact own_pmax fr2 (OwnF.Fr.up 3 own_c0) (by decide)
  obtain ⟨T3, X3, e3, st3⟩ := natS X1 hx hZ hown w_34 w_35 w_36 w_37 (by decide) e1 (W := 0) (F := fun a' => a' = #[.double d2, .double FP.dconst0] ∧ Jvm.Free.Fl.NoNaN64 d2 ∧ Jvm.Free.Fl.NoNaN64 FP.dconst0) (val := .double (Jvm.Native.java_lang_Math.nans.pick64 true d2 FP.dconst0)) (val' := .double d3) (fun c4 => Jvm.Free.Fl.Abs.maxD_pays d2 FP.dconst0 c4 (by decide) (by decide)) (g := (mkF m 7 #[.val (.ref x0), nD tm, nS, .val (.ref x2), nU, nU, nU, nU, nU, nU, nU, nU, nU, nU, nU, nU, nU, nU, nU, nU, nU, nU, nU, nU, nU, nU, nU, nU, nU, nU, nU, nU, nU, nU, nU, nU, nU, nU, nU, nU] [(.double FP.dconst0), (.double d2)])) rfl (by rw [hml]; rfl) (argsL := [.double d2, .double FP.dconst0]) (rest := []) (lenOf pd_4 rfl) rfl (by show 2 * 0 + _ ≤ _; exact Nat.le_of_eq rfl) (hb hby d5_7) (by decide) (by decide) ⟨rfl, own_nn fr2, own_nn own_c0⟩ (congrArg Value.double hd3)
  refine G1 st3 ?_
  show Goes _ _ _ _ _ _ _ (T3.setTop (mkF m 10 #[.val (.ref x0), nD tm, nS, .val (.ref x2), nU, nU, nU, nU, nU, nU, nU, nU, nU, nU, nU, nU, nU, nU, nU, nU, nU, nU, nU, nU, nU, nU, nU, nU, nU, nU, nU, nU, nU, nU, nU, nU, nU, nU, nU, nU] [(.double d3)]))
  refine G1 (fun _ k => XS.aloadN X3.here hx rfl (hb hby d5_10) rfl rfl k) ?_
  obtain ⟨T4, X4, e4, st4⟩ := getF X3 hx hZ hown (host := "") (Or.inl w_26) Via.refl e3 F_size (g := (mkF m 11 #[.val (.ref x0), nD tm, nS, .val (.ref x2), nU, nU, nU, nU, nU, nU, nU, nU, nU, nU, nU, nU, nU, nU, nU, nU, nU, nU, nU, nU, nU, nU, nU, nU, nU, nU, nU, nU, nU, nU, nU, nU, nU, nU, nU, nU] [(.ref x0), (.double d3)])) rfl rfl (hb hby d5_11)
  refine G1 st4 ?_
  show Goes _ _ _ _ _ _ _ (T4.setTop (mkF m 14 _ [(.int (3 : Int32)), (.double d3)]))
  refine G1 (fun _ k => XS.iconst X4.here hx rfl (hb hby d5_14) k) ?_
  refine G1 (fun _ k => XS.isub X4.here hx rfl (hb hby d5_15) rfl k) ?_
  show Goes _ _ _ _ _ _ _ (T4.setTop (mkF m 16 #[.val (.ref x0), nD tm, nS, .val (.ref x2), nU, nU, nU, nU, nU, nU, nU, nU, nU, nU, nU, nU, nU, nU, nU, nU, nU, nU, nU, nU, nU, nU, nU, nU, nU, nU, nU, nU, nU, nU, nU, nU, nU, nU, nU, nU] [(.int (2 : Int32)), (.double d3)]))
  refine G1 (fun _ k => XS.i2dS X4.here hx rfl (hb hby d5_16) rfl rfl k) ?_
  show Goes _ _ _ _ _ _ _ (T4.setTop (mkF m 17 _ [(.double (FP.i2d (2 : Int32))), (.double d3)]))
  obtain ⟨d5, hd5⟩ : ∃ z, Jvm.Native.java_lang_Math.nans.pick64 false d3 (FP.i2d (2 : Int32)) = z := ⟨_, rfl⟩
  have fr5 : OwnF.Fr 3 (min (max ki ((0 : Int) * ((2 ^ 3 : Nat) : Int))) ((2 : Int) * ((2 ^ 3 : Nat) : Int))) 2147483648 d5 := by rw [← hd5]; exact own_pmin fr3 (OwnF.Fr.up 3 ((OwnF.Fr.i2d (2 : Int32)).of_eq (j := 2) (C := 2) (by decide) (by decide))) (by decide)
  obtain ⟨T5, X5, e5, st5⟩ := natS X4 hx hZ hown w_38 w_39 w_36 w_40 (by decide) e4 (W := 0) (F := fun a' => a' = #[.double d3, .double (FP.i2d (2 : Int32))] ∧ Jvm.Free.Fl.NoNaN64 d3 ∧ Jvm.Free.Fl.NoNaN64 (FP.i2d (2 : Int32))) (val := .double (Jvm.Native.java_lang_Math.nans.pick64 false d3 (FP.i2d (2 : Int32)))) (val' := .double d5) (fun c4 => Jvm.Free.Fl.Abs.minD_pays d3 (FP.i2d (2 : Int32)) c4 (by decide) (by decide)) (g := (mkF m 17 #[.val (.ref x0), nD tm, nS, .val (.ref x2), nU, nU, nU, nU, nU, nU, nU, nU, nU, nU, nU, nU, nU, nU, nU, nU, nU, nU, nU, nU, nU, nU, nU, nU, nU, nU, nU, nU, nU, nU, nU, nU, nU, nU, nU, nU] [(.double (FP.i2d (2 : Int32))), (.double d3)])) rfl (by rw [hml]; rfl) (argsL := [.double d3, .double (FP.i2d (2 : Int32))]) (rest := []) (lenOf pd_4 rfl) rfl (by show 2 * 0 + _ ≤ _; exact Nat.le_of_eq rfl) (hb hby d5_17) (by decide) (by decide) ⟨rfl, own_nn fr3, own_nn ((OwnF.Fr.i2d (2 : Int32)).of_eq (j := 2) (C := 2) (by decide) (by decide))⟩ (congrArg Value.double hd5)
  refine G1 st5 ?_
  show Goes _ _ _ _ _ _ _ (T5.setTop (mkF m 20 #[.val (.ref x0), nD tm, nS, .val (.ref x2), nU, nU, nU, nU, nU, nU, nU, nU, nU, nU, nU, nU, nU, nU, nU, nU, nU, nU, nU, nU, nU, nU, nU, nU, nU, nU, nU, nU, nU, nU, nU, nU, nU, nU, nU, nU] [(.double d5)]))
  have fr6 : OwnF.Fr 3 kc 16 d5 := fr5.of_eq (by rw [hkc, show ((2 ^ 3 : Nat) : Int) = 8 from rfl]; omega) (by omega)
  refine G1 (fun _ k => XS.dstore X5.here hx rfl (hb hby d5_20) rfl (l' := #[.val (.ref x0), nD tm, nS, .val (.ref x2), nD d5, nS, nU, nU, nU, nU, nU, nU, nU, nU, nU, nU, nU, nU, nU, nU, nU, nU, nU, nU, nU, nU, nU, nU, nU, nU, nU, nU, nU, nU, nU, nU, nU, nU, nU, nU]) rfl k) ?_
  show Goes _ _ _ _ _ _ _ (T5.setTop (mkF m 22 _ []))
  refine G1 (fun _ k => XS.dload X5.here hx rfl (hb hby d5_22) rfl k) ?_
  obtain ⟨z7, hz7⟩ : ∃ z, FP.d2i d5 = z := ⟨_, rfl⟩
  have hqz7 : z7 = Int32.ofInt (kc / 8) := by rw [← hz7]; exact own_d2i fr6 hk0 hk16
  refine G1 (fun _ k => XS.d2iS X5.here hx rfl (hb hby d5_24) rfl hz7 k) ?_
  show Goes _ _ _ _ _ _ _ (T5.setTop (mkF m 25 #[.val (.ref x0), nD tm, nS, .val (.ref x2), nD d5, nS, nU, nU, nU, nU, nU, nU, nU, nU, nU, nU, nU, nU, nU, nU, nU, nU, nU, nU, nU, nU, nU, nU, nU, nU, nU, nU, nU, nU, nU, nU, nU, nU, nU, nU] [(.int z7)]))
  refine G1 (fun _ k => XS.aloadN X5.here hx rfl (hb hby d5_25) rfl rfl k) ?_
  obtain ⟨T8, X8, e8, st8⟩ := getF X5 hx hZ hown (host := "") (Or.inl w_26) Via.refl e5 F_size (g := (mkF m 26 #[.val (.ref x0), nD tm, nS, .val (.ref x2), nD d5, nS, nU, nU, nU, nU, nU, nU, nU, nU, nU, nU, nU, nU, nU, nU, nU, nU, nU, nU, nU, nU, nU, nU, nU, nU, nU, nU, nU, nU, nU, nU, nU, nU, nU, nU] [(.ref x0), (.int z7)])) rfl rfl (hb hby d5_26)
  refine G1 st8 ?_
  show Goes _ _ _ _ _ _ _ (T8.setTop (mkF m 29 _ [(.int (3 : Int32)), (.int z7)]))
  refine G1 (fun _ k => XS.iconst X8.here hx rfl (hb hby d5_29) k) ?_
  refine G1 (fun _ k => XS.isub X8.here hx rfl (hb hby d5_30) rfl k) ?_
  show Goes _ _ _ _ _ _ _ (T8.setTop (mkF m 31 #[.val (.ref x0), nD tm, nS, .val (.ref x2), nD d5, nS, nU, nU, nU, nU, nU, nU, nU, nU, nU, nU, nU, nU, nU, nU, nU, nU, nU, nU, nU, nU, nU, nU, nU, nU, nU, nU, nU, nU, nU, nU, nU, nU, nU, nU] [(.int (1 : Int32)), (.int z7)]))
  have hmn9 : own_mn z7 (1 : Int32) = (1 : Int32) := own_mn1 hqz7 hseg hk16
  obtain ⟨_, _, ⟨T10, L10, k10, n10⟩, -, X10, ⟨Lc10, hQ10, l10, y10, z10⟩, st10⟩ := Jvm.LawKit.callS X8 hx (y := (⟨"java/lang/Math", "min", "(II)I"⟩ : MethodName)) hown (mvT hZ w_41) (mvT hZ w_42) (mvT hZ w_36) (mvT hZ w_43) (by decide) (backOf (W := 0) (rm8 l Z a0 hw [] z7 (1 : Int32) h0 n0 Z0) hZ w_43 w_36 (by decide) (by decide)) (g := (mkF m 31 #[.val (.ref x0), nD tm, nS, .val (.ref x2), nD d5, nS, nU, nU, nU, nU, nU, nU, nU, nU, nU, nU, nU, nU, nU, nU, nU, nU, nU, nU, nU, nU, nU, nU, nU, nU, nU, nU, nU, nU, nU, nU, nU, nU, nU, nU] [(.int (1 : Int32)), (.int z7)])) rfl (by rw [hml]; rfl) (argsL := [(.int z7), (.int (1 : Int32))]) (rest := []) (lenOf pd_5 rfl) rfl (by show 2 * 0 + _ ≤ _; exact Nat.le_of_eq rfl) (hb hby d5_31) (fun _ _ => ⟨rfl, e8, (by decide : 0 + 0 ≤ _), (by decide : 0 + 0 ≤ _)⟩)
  dsimp only [Pt.U, Pt.locs, Pt.cells, Pt.slots] at X10 l10 y10 z10 st10 hQ10
  rw [l10, y10, z10] at X10
  obtain ⟨N10, eh10, hR10⟩ := hQ10
  have NA10 := Fr.app N0 N10
  rw [hmn9] at hR10
  obtain rfl := hR10
  refine G1 st10 ?_
  show Goes _ _ _ _ _ _ _ (T10.setTop (mkF m 34 _ [(.int (1 : Int32))]))
  refine G1 (fun _ k => XS.istore X10.here hx rfl (hb hby d5_34) rfl (l' := #[.val (.ref x0), nD tm, nS, .val (.ref x2), nD d5, nS, .val (.int (1 : Int32)), nU, nU, nU, nU, nU, nU, nU, nU, nU, nU, nU, nU, nU, nU, nU, nU, nU, nU, nU, nU, nU, nU, nU, nU, nU, nU, nU, nU, nU, nU, nU, nU, nU]) rfl k) ?_
  show Goes _ _ _ _ _ _ _ (T10.setTop (mkF m 36 #[.val (.ref x0), nD tm, nS, .val (.ref x2), nD d5, nS, .val (.int (1 : Int32)), nU, nU, nU, nU, nU, nU, nU, nU, nU, nU, nU, nU, nU, nU, nU, nU, nU, nU, nU, nU, nU, nU, nU, nU, nU, nU, nU, nU, nU, nU, nU, nU, nU] []))
  refine G1 (fun _ k => XS.dload X10.here hx rfl (hb hby d5_36) rfl k) ?_
  refine G1 (fun _ k => XS.iload X10.here hx rfl (hb hby d5_38) rfl  k) ?_
  refine G1 (fun _ k => XS.i2dS X10.here hx rfl (hb hby d5_40) rfl rfl k) ?_
  show Goes _ _ _ _ _ _ _ (T10.setTop (mkF m 41 _ [(.double (FP.i2d (1 : Int32))), (.double d5)]))
  obtain ⟨d11, hd11⟩ : ∃ z, FP.dsub d5 (FP.i2d (1 : Int32)) = z := ⟨_, rfl⟩
  have fr11 : OwnF.Fr 3 (kc - ((1 : Int) * ((2 ^ 3 : Nat) : Int))) 24 d11 := by rw [← hd11]; exact OwnF.Fr.dsub fr6 (OwnF.Fr.up 3 ((OwnF.Fr.i2d (1 : Int32)).of_eq (j := 1) (C := 1) (by decide) (by decide))) (by decide)
  refine G1 (fun _ k => XS.dsubS X10.here hx rfl (hb hby d5_41) rfl (by rw [hd11]; exact own_nn fr11) hd11 k) ?_
  show Goes _ _ _ _ _ _ _ (T10.setTop (mkF m 42 #[.val (.ref x0), nD tm, nS, .val (.ref x2), nD d5, nS, .val (.int (1 : Int32)), nU, nU, nU, nU, nU, nU, nU, nU, nU, nU, nU, nU, nU, nU, nU, nU, nU, nU, nU, nU, nU, nU, nU, nU, nU, nU, nU, nU, nU, nU, nU, nU, nU] [(.double d11)]))
  have fr12 : OwnF.Fr 3 jv 16 d11 := fr11.of_eq (by rw [hjv, show ((2 ^ 3 : Nat) : Int) = 8 from rfl]; omega) (by omega)
  refine G1 (fun _ k => XS.dstore X10.here hx rfl (hb hby d5_42) rfl (l' := #[.val (.ref x0), nD tm, nS, .val (.ref x2), nD d5, nS, .val (.int (1 : Int32)), nD d11, nS, nU, nU, nU, nU, nU, nU, nU, nU, nU, nU, nU, nU, nU, nU, nU, nU, nU, nU, nU, nU, nU, nU, nU, nU, nU, nU, nU, nU, nU, nU, nU]) rfl k) ?_
  show Goes _ _ _ _ _ _ _ (T10.setTop (mkF m 44 _ []))
  refine G1 (fun _ k => XS.dload X10.here hx rfl (hb hby d5_44) rfl k) ?_
  refine G1 (fun _ k => XS.dload X10.here hx rfl (hb hby d5_46) rfl k) ?_
  obtain ⟨d13, hd13⟩ : ∃ z, FP.dmul d11 d11 = z := ⟨_, rfl⟩
  have fr13 : OwnF.Fr 6 (jv * jv) 256 d13 := by rw [← hd13]; exact OwnF.Fr.dmul fr12 fr12 (by decide)
  refine G1 (fun _ k => XS.dmulS X10.here hx rfl (hb hby d5_48) rfl (by rw [hd13]; exact own_nn fr13) hd13 k) ?_
  show Goes _ _ _ _ _ _ _ (T10.setTop (mkF m 49 #[.val (.ref x0), nD tm, nS, .val (.ref x2), nD d5, nS, .val (.int (1 : Int32)), nD d11, nS, nU, nU, nU, nU, nU, nU, nU, nU, nU, nU, nU, nU, nU, nU, nU, nU, nU, nU, nU, nU, nU, nU, nU, nU, nU, nU, nU, nU, nU, nU, nU] [(.double d13)]))
  refine G1 (fun _ k => XS.dstore X10.here hx rfl (hb hby d5_49) rfl (l' := #[.val (.ref x0), nD tm, nS, .val (.ref x2), nD d5, nS, .val (.int (1 : Int32)), nD d11, nS, nD d13, nS, nU, nU, nU, nU, nU, nU, nU, nU, nU, nU, nU, nU, nU, nU, nU, nU, nU, nU, nU, nU, nU, nU, nU, nU, nU, nU, nU, nU, nU]) rfl k) ?_
  show Goes _ _ _ _ _ _ _ (T10.setTop (mkF m 51 _ []))
  refine G1 (fun _ k => XS.dload X10.here hx rfl (hb hby d5_51) rfl k) ?_
  refine G1 (fun _ k => XS.dload X10.here hx rfl (hb hby d5_53) rfl k) ?_
  obtain ⟨d14, hd14⟩ : ∃ z, FP.dmul d13 d11 = z := ⟨_, rfl⟩
  have fr14 : OwnF.Fr 9 ((jv * jv) * jv) 4096 d14 := by rw [← hd14]; exact OwnF.Fr.dmul fr13 fr12 (by decide)
  refine G1 (fun _ k => XS.dmulS X10.here hx rfl (hb hby d5_55) rfl (by rw [hd14]; exact own_nn fr14) hd14 k) ?_
  show Goes _ _ _ _ _ _ _ (T10.setTop (mkF m 56 #[.val (.ref x0), nD tm, nS, .val (.ref x2), nD d5, nS, .val (.int (1 : Int32)), nD d11, nS, nD d13, nS, nU, nU, nU, nU, nU, nU, nU, nU, nU, nU, nU, nU, nU, nU, nU, nU, nU, nU, nU, nU, nU, nU, nU, nU, nU, nU, nU, nU, nU] [(.double d14)]))
  refine G1 (fun _ k => XS.dstore X10.here hx rfl (hb hby d5_56) rfl (l' := #[.val (.ref x0), nD tm, nS, .val (.ref x2), nD d5, nS, .val (.int (1 : Int32)), nD d11, nS, nD d13, nS, nD d14, nS, nU, nU, nU, nU, nU, nU, nU, nU, nU, nU, nU, nU, nU, nU, nU, nU, nU, nU, nU, nU, nU, nU, nU, nU, nU, nU, nU]) rfl k) ?_
  show Goes _ _ _ _ _ _ _ (T10.setTop (mkF m 58 _ []))
  refine G1 (fun _ k => X10.ldc2DoubleC hx hown (mvT hZ w_44) (g := (mkF m 58 #[.val (.ref x0), nD tm, nS, .val (.ref x2), nD d5, nS, .val (.int (1 : Int32)), nD d11, nS, nD d13, nS, nD d14, nS, nU, nU, nU, nU, nU, nU, nU, nU, nU, nU, nU, nU, nU, nU, nU, nU, nU, nU, nU, nU, nU, nU, nU, nU, nU, nU, nU] [])) rfl (hb hby d5_58) _ k) ?_
  show Goes _ _ _ _ _ _ _ (T10.setTop (mkF m 61 #[.val (.ref x0), nD tm, nS, .val (.ref x2), nD d5, nS, .val (.int (1 : Int32)), nD d11, nS, nD d13, nS, nD d14, nS, nU, nU, nU, nU, nU, nU, nU, nU, nU, nU, nU, nU, nU, nU, nU, nU, nU, nU, nU, nU, nU, nU, nU, nU, nU, nU, nU] [(.double (4611686018427387904 : UInt64))]))
  refine G1 (fun _ k => XS.dload X10.here hx rfl (hb hby d5_61) rfl k) ?_
  obtain ⟨d15, hd15⟩ : ∃ z, FP.dmul (4611686018427387904 : UInt64) d14 = z := ⟨_, rfl⟩
  have fr15 : OwnF.Fr 9 ((2 : Int) * ((jv * jv) * jv)) 8192 d15 := by rw [← hd15]; exact OwnF.Fr.dmul own_k4611686018427387904 fr14 (by decide)
  refine G1 (fun _ k => XS.dmulS X10.here hx rfl (hb hby d5_63) rfl (by rw [hd15]; exact own_nn fr15) hd15 k) ?_
  show Goes _ _ _ _ _ _ _ (T10.setTop (mkF m 64 _ [(.double d15)]))
  refine G1 (fun _ k => X10.ldc2DoubleC hx hown (mvT hZ w_45) (g := (mkF m 64 #[.val (.ref x0), nD tm, nS, .val (.ref x2), nD d5, nS, .val (.int (1 : Int32)), nD d11, nS, nD d13, nS, nD d14, nS, nU, nU, nU, nU, nU, nU, nU, nU, nU, nU, nU, nU, nU, nU, nU, nU, nU, nU, nU, nU, nU, nU, nU, nU, nU, nU, nU] [(.double d15)])) rfl (hb hby d5_64) _ k) ?_
  show Goes _ _ _ _ _ _ _ (T10.setTop (mkF m 67 #[.val (.ref x0), nD tm, nS, .val (.ref x2), nD d5, nS, .val (.int (1 : Int32)), nD d11, nS, nD d13, nS, nD d14, nS, nU, nU, nU, nU, nU, nU, nU, nU, nU, nU, nU, nU, nU, nU, nU, nU, nU, nU, nU, nU, nU, nU, nU, nU, nU, nU, nU] [(.double (4613937818241073152 : UInt64)), (.double d15)]))
  refine G1 (fun _ k => XS.dload X10.here hx rfl (hb hby d5_67) rfl k) ?_
  obtain ⟨d16, hd16⟩ : ∃ z, FP.dmul (4613937818241073152 : UInt64) d13 = z := ⟨_, rfl⟩
  have fr16 : OwnF.Fr 6 ((3 : Int) * (jv * jv)) 768 d16 := by rw [← hd16]; exact OwnF.Fr.dmul own_k4613937818241073152 fr13 (by decide)
  refine G1 (fun _ k => XS.dmulS X10.here hx rfl (hb hby d5_69) rfl (by rw [hd16]; exact own_nn fr16) hd16 k) ?_
  show Goes _ _ _ _ _ _ _ (T10.setTop (mkF m 70 _ [(.double d16), (.double d15)]))
  obtain ⟨d17, hd17⟩ : ∃ z, FP.dsub d15 d16 = z := ⟨_, rfl⟩
  have fr17 : OwnF.Fr 9 (((2 : Int) * ((jv * jv) * jv)) - (((3 : Int) * (jv * jv)) * ((2 ^ 3 : Nat) : Int))) 14336 d17 := by rw [← hd17]; exact OwnF.Fr.dsub fr15 (OwnF.Fr.up 3 fr16) (by decide)
  refine G1 (fun _ k => XS.dsubS X10.here hx rfl (hb hby d5_70) rfl (by rw [hd17]; exact own_nn fr17) hd17 k) ?_
  show Goes _ _ _ _ _ _ _ (T10.setTop (mkF m 71 #[.val (.ref x0), nD tm, nS, .val (.ref x2), nD d5, nS, .val (.int (1 : Int32)), nD d11, nS, nD d13, nS, nD d14, nS, nU, nU, nU, nU, nU, nU, nU, nU, nU, nU, nU, nU, nU, nU, nU, nU, nU, nU, nU, nU, nU, nU, nU, nU, nU, nU, nU] [(.double d17)]))
  refine G1 (fun _ k => XS.dconst1 X10.here hx rfl (hb hby d5_71) rfl k) ?_
  obtain ⟨d18, hd18⟩ : ∃ z, FP.dadd d17 FP.dconst1 = z := ⟨_, rfl⟩
  have fr18 : OwnF.Fr 9 ((((2 : Int) * ((jv * jv) * jv)) - (((3 : Int) * (jv * jv)) * ((2 ^ 3 : Nat) : Int))) + ((1 : Int) * ((2 ^ 9 : Nat) : Int))) 14848 d18 := by rw [← hd18]; exact OwnF.Fr.dadd fr17 (OwnF.Fr.up 9 own_c1) (by decide)
  refine G1 (fun _ k => XS.daddS X10.here hx rfl (hb hby d5_72) rfl (by rw [hd18]; exact own_nn fr18) hd18 k) ?_
  show Goes _ _ _ _ _ _ _ (T10.setTop (mkF m 73 _ [(.double d18)]))
  refine G1 (fun _ k => XS.dstore X10.here hx rfl (hb hby d5_73) rfl (l' := #[.val (.ref x0), nD tm, nS, .val (.ref x2), nD d5, nS, .val (.int (1 : Int32)), nD d11, nS, nD d13, nS, nD d14, nS, nD d18, nS, nU, nU, nU, nU, nU, nU, nU, nU, nU, nU, nU, nU, nU, nU, nU, nU, nU, nU, nU, nU, nU, nU, nU, nU, nU]) rfl k) ?_
  show Goes _ _ _ _ _ _ _ (T10.setTop (mkF m 75 #[.val (.ref x0), nD tm, nS, .val (.ref x2), nD d5, nS, .val (.int (1 : Int32)), nD d11, nS, nD d13, nS, nD d14, nS, nD d18, nS, nU, nU, nU, nU, nU, nU, nU, nU, nU, nU, nU, nU, nU, nU, nU, nU, nU, nU, nU, nU, nU, nU, nU, nU, nU] []))
  refine G1 (fun _ k => XS.dload X10.here hx rfl (hb hby d5_75) rfl k) ?_
  refine G1 (fun _ k => X10.ldc2DoubleC hx hown (mvT hZ w_44) (g := (mkF m 77 #[.val (.ref x0), nD tm, nS, .val (.ref x2), nD d5, nS, .val (.int (1 : Int32)), nD d11, nS, nD d13, nS, nD d14, nS, nD d18, nS, nU, nU, nU, nU, nU, nU, nU, nU, nU, nU, nU, nU, nU, nU, nU, nU, nU, nU, nU, nU, nU, nU, nU, nU, nU] [(.double d14)])) rfl (hb hby d5_77) _ k) ?_
  show Goes _ _ _ _ _ _ _ (T10.setTop (mkF m 80 _ [(.double (4611686018427387904 : UInt64)), (.double d14)]))
  refine G1 (fun _ k => XS.dload X10.here hx rfl (hb hby d5_80) rfl k) ?_
  obtain ⟨d19, hd19⟩ : ∃ z, FP.dmul (4611686018427387904 : UInt64) d13 = z := ⟨_, rfl⟩
  have fr19 : OwnF.Fr 6 ((2 : Int) * (jv * jv)) 512 d19 := by rw [← hd19]; exact OwnF.Fr.dmul own_k4611686018427387904 fr13 (by decide)
  refine G1 (fun _ k => XS.dmulS X10.here hx rfl (hb hby d5_82) rfl (by rw [hd19]; exact own_nn fr19) hd19 k) ?_
  show Goes _ _ _ _ _ _ _ (T10.setTop (mkF m 83 #[.val (.ref x0), nD tm, nS, .val (.ref x2), nD d5, nS, .val (.int (1 : Int32)), nD d11, nS, nD d13, nS, nD d14, nS, nD d18, nS, nU, nU, nU, nU, nU, nU, nU, nU, nU, nU, nU, nU, nU, nU, nU, nU, nU, nU, nU, nU, nU, nU, nU, nU, nU] [(.double d19), (.double d14)]))
  obtain ⟨d20, hd20⟩ : ∃ z, FP.dsub d14 d19 = z := ⟨_, rfl⟩
  have fr20 : OwnF.Fr 9 (((jv * jv) * jv) - (((2 : Int) * (jv * jv)) * ((2 ^ 3 : Nat) : Int))) 8192 d20 := by rw [← hd20]; exact OwnF.Fr.dsub fr14 (OwnF.Fr.up 3 fr19) (by decide)
  refine G1 (fun _ k => XS.dsubS X10.here hx rfl (hb hby d5_83) rfl (by rw [hd20]; exact own_nn fr20) hd20 k) ?_
  show Goes _ _ _ _ _ _ _ (T10.setTop (mkF m 84 _ [(.double d20)]))
  refine G1 (fun _ k => XS.dload X10.here hx rfl (hb hby d5_84) rfl k) ?_
  obtain ⟨d21, hd21⟩ : ∃ z, FP.dadd d20 d11 = z := ⟨_, rfl⟩
  have fr21 : OwnF.Fr 9 ((((jv * jv) * jv) - (((2 : Int) * (jv * jv)) * ((2 ^ 3 : Nat) : Int))) + (jv * ((2 ^ 6 : Nat) : Int))) 9216 d21 := by rw [← hd21]; exact OwnF.Fr.dadd fr20 (OwnF.Fr.up 6 fr12) (by decide)
  refine G1 (fun _ k => XS.daddS X10.here hx rfl (hb hby d5_86) rfl (by rw [hd21]; exact own_nn fr21) hd21 k) ?_
  show Goes _ _ _ _ _ _ _ (T10.setTop (mkF m 87 #[.val (.ref x0), nD tm, nS, .val (.ref x2), nD d5, nS, .val (.int (1 : Int32)), nD d11, nS, nD d13, nS, nD d14, nS, nD d18, nS, nU, nU, nU, nU, nU, nU, nU, nU, nU, nU, nU, nU, nU, nU, nU, nU, nU, nU, nU, nU, nU, nU, nU, nU, nU] [(.double d21)]))
  refine G1 (fun _ k => XS.dstore X10.here hx rfl (hb hby d5_87) rfl (l' := #[.val (.ref x0), nD tm, nS, .val (.ref x2), nD d5, nS, .val (.int (1 : Int32)), nD d11, nS, nD d13, nS, nD d14, nS, nD d18, nS, nD d21, nS, nU, nU, nU, nU, nU, nU, nU, nU, nU, nU, nU, nU, nU, nU, nU, nU, nU, nU, nU, nU, nU, nU, nU]) rfl k) ?_
  show Goes _ _ _ _ _ _ _ (T10.setTop (mkF m 89 _ []))
  refine G1 (fun _ k => X10.ldc2DoubleC hx hown (mvT hZ w_46) (g := (mkF m 89 #[.val (.ref x0), nD tm, nS, .val (.ref x2), nD d5, nS, .val (.int (1 : Int32)), nD d11, nS, nD d13, nS, nD d14, nS, nD d18, nS, nD d21, nS, nU, nU, nU, nU, nU, nU, nU, nU, nU, nU, nU, nU, nU, nU, nU, nU, nU, nU, nU, nU, nU, nU, nU] [])) rfl (hb hby d5_89) _ k) ?_
  show Goes _ _ _ _ _ _ _ (T10.setTop (mkF m 92 #[.val (.ref x0), nD tm, nS, .val (.ref x2), nD d5, nS, .val (.int (1 : Int32)), nD d11, nS, nD d13, nS, nD d14, nS, nD d18, nS, nD d21, nS, nU, nU, nU, nU, nU, nU, nU, nU, nU, nU, nU, nU, nU, nU, nU, nU, nU, nU, nU, nU, nU, nU, nU] [(.double (13835058055282163712 : UInt64))]))
  refine G1 (fun _ k => XS.dload X10.here hx rfl (hb hby d5_92) rfl k) ?_
  obtain ⟨d22, hd22⟩ : ∃ z, FP.dmul (13835058055282163712 : UInt64) d14 = z := ⟨_, rfl⟩
  have fr22 : OwnF.Fr 9 ((-2 : Int) * ((jv * jv) * jv)) 8192 d22 := by rw [← hd22]; exact OwnF.Fr.dmul own_k13835058055282163712 fr14 (by decide)
  refine G1 (fun _ k => XS.dmulS X10.here hx rfl (hb hby d5_94) rfl (by rw [hd22]; exact own_nn fr22) hd22 k) ?_
  show Goes _ _ _ _ _ _ _ (T10.setTop (mkF m 95 _ [(.double d22)]))
  refine G1 (fun _ k => X10.ldc2DoubleC hx hown (mvT hZ w_45) (g := (mkF m 95 #[.val (.ref x0), nD tm, nS, .val (.ref x2), nD d5, nS, .val (.int (1 : Int32)), nD d11, nS, nD d13, nS, nD d14, nS, nD d18, nS, nD d21, nS, nU, nU, nU, nU, nU, nU, nU, nU, nU, nU, nU, nU, nU, nU, nU, nU, nU, nU, nU, nU, nU, nU, nU] [(.double d22)])) rfl (hb hby d5_95) _ k) ?_
  show Goes _ _ _ _ _ _ _ (T10.setTop (mkF m 98 #[.val (.ref x0), nD tm, nS, .val (.ref x2), nD d5, nS, .val (.int (1 : Int32)), nD d11, nS, nD d13, nS, nD d14, nS, nD d18, nS, nD d21, nS, nU, nU, nU, nU, nU, nU, nU, nU, nU, nU, nU, nU, nU, nU, nU, nU, nU, nU, nU, nU, nU, nU, nU] [(.double (4613937818241073152 : UInt64)), (.double d22)]))
  refine G1 (fun _ k => XS.dload X10.here hx rfl (hb hby d5_98) rfl k) ?_
  obtain ⟨d23, hd23⟩ : ∃ z, FP.dmul (4613937818241073152 : UInt64) d13 = z := ⟨_, rfl⟩
  have fr23 : OwnF.Fr 6 ((3 : Int) * (jv * jv)) 768 d23 := by rw [← hd23]; exact OwnF.Fr.dmul own_k4613937818241073152 fr13 (by decide)
  refine G1 (fun _ k => XS.dmulS X10.here hx rfl (hb hby d5_100) rfl (by rw [hd23]; exact own_nn fr23) hd23 k) ?_
  show Goes _ _ _ _ _ _ _ (T10.setTop (mkF m 101 _ [(.double d23), (.double d22)]))
  obtain ⟨d24, hd24⟩ : ∃ z, FP.dadd d22 d23 = z := ⟨_, rfl⟩
  have fr24 : OwnF.Fr 9 (((-2 : Int) * ((jv * jv) * jv)) + (((3 : Int) * (jv * jv)) * ((2 ^ 3 : Nat) : Int))) 14336 d24 := by rw [← hd24]; exact OwnF.Fr.dadd fr22 (OwnF.Fr.up 3 fr23) (by decide)
  refine G1 (fun _ k => XS.daddS X10.here hx rfl (hb hby d5_101) rfl (by rw [hd24]; exact own_nn fr24) hd24 k) ?_
  show Goes _ _ _ _ _ _ _ (T10.setTop (mkF m 102 #[.val (.ref x0), nD tm, nS, .val (.ref x2), nD d5, nS, .val (.int (1 : Int32)), nD d11, nS, nD d13, nS, nD d14, nS, nD d18, nS, nD d21, nS, nU, nU, nU, nU, nU, nU, nU, nU, nU, nU, nU, nU, nU, nU, nU, nU, nU, nU, nU, nU, nU, nU, nU] [(.double d24)]))
  refine G1 (fun _ k => XS.dstore X10.here hx rfl (hb hby d5_102) rfl (l' := #[.val (.ref x0), nD tm, nS, .val (.ref x2), nD d5, nS, .val (.int (1 : Int32)), nD d11, nS, nD d13, nS, nD d14, nS, nD d18, nS, nD d21, nS, nD d24, nS, nU, nU, nU, nU, nU, nU, nU, nU, nU, nU, nU, nU, nU, nU, nU, nU, nU, nU, nU, nU, nU]) rfl k) ?_
  show Goes _ _ _ _ _ _ _ (T10.setTop (mkF m 104 _ []))
  refine G1 (fun _ k => XS.dload X10.here hx rfl (hb hby d5_104) rfl k) ?_
  refine G1 (fun _ k => XS.dload X10.here hx rfl (hb hby d5_106) rfl k) ?_
  obtain ⟨d25, hd25⟩ : ∃ z, FP.dsub d14 d13 = z := ⟨_, rfl⟩
  have fr25 : OwnF.Fr 9 (((jv * jv) * jv) - ((jv * jv) * ((2 ^ 3 : Nat) : Int))) 6144 d25 := by rw [← hd25]; exact OwnF.Fr.dsub fr14 (OwnF.Fr.up 3 fr13) (by decide)
  refine G1 (fun _ k => XS.dsubS X10.here hx rfl (hb hby d5_108) rfl (by rw [hd25]; exact own_nn fr25) hd25 k) ?_
  show Goes _ _ _ _ _ _ _ (T10.setTop (mkF m 109 #[.val (.ref x0), nD tm, nS, .val (.ref x2), nD d5, nS, .val (.int (1 : Int32)), nD d11, nS, nD d13, nS, nD d14, nS, nD d18, nS, nD d21, nS, nD d24, nS, nU, nU, nU, nU, nU, nU, nU, nU, nU, nU, nU, nU, nU, nU, nU, nU, nU, nU, nU, nU, nU] [(.double d25)]))
  refine G1 (fun _ k => XS.dstore X10.here hx rfl (hb hby d5_109) rfl (l' := #[.val (.ref x0), nD tm, nS, .val (.ref x2), nD d5, nS, .val (.int (1 : Int32)), nD d11, nS, nD d13, nS, nD d14, nS, nD d18, nS, nD d21, nS, nD d24, nS, nD d25, nS, nU, nU, nU, nU, nU, nU, nU, nU, nU, nU, nU, nU, nU, nU, nU, nU, nU, nU, nU]) rfl k) ?_
  show Goes _ _ _ _ _ _ _ (T10.setTop (mkF m 111 _ []))
  refine G1 (fun _ k => X10.ldc2DoubleC hx hown (mvT hZ w_47) (g := (mkF m 111 #[.val (.ref x0), nD tm, nS, .val (.ref x2), nD d5, nS, .val (.int (1 : Int32)), nD d11, nS, nD d13, nS, nD d14, nS, nD d18, nS, nD d21, nS, nD d24, nS, nD d25, nS, nU, nU, nU, nU, nU, nU, nU, nU, nU, nU, nU, nU, nU, nU, nU, nU, nU, nU, nU] [])) rfl (hb hby d5_111) _ k) ?_
  show Goes _ _ _ _ _ _ _ (T10.setTop (mkF m 114 #[.val (.ref x0), nD tm, nS, .val (.ref x2), nD d5, nS, .val (.int (1 : Int32)), nD d11, nS, nD d13, nS, nD d14, nS, nD d18, nS, nD d21, nS, nD d24, nS, nD d25, nS, nU, nU, nU, nU, nU, nU, nU, nU, nU, nU, nU, nU, nU, nU, nU, nU, nU, nU, nU] [(.double (4618441417868443648 : UInt64))]))
  refine G1 (fun _ k => XS.dload X10.here hx rfl (hb hby d5_114) rfl k) ?_
  obtain ⟨d26, hd26⟩ : ∃ z, FP.dmul (4618441417868443648 : UInt64) d13 = z := ⟨_, rfl⟩
  have fr26 : OwnF.Fr 6 ((6 : Int) * (jv * jv)) 1536 d26 := by rw [← hd26]; exact OwnF.Fr.dmul own_k4618441417868443648 fr13 (by decide)
  refine G1 (fun _ k => XS.dmulS X10.here hx rfl (hb hby d5_116) rfl (by rw [hd26]; exact own_nn fr26) hd26 k) ?_
  show Goes _ _ _ _ _ _ _ (T10.setTop (mkF m 117 _ [(.double d26)]))
  refine G1 (fun _ k => X10.ldc2DoubleC hx hown (mvT hZ w_47) (g := (mkF m 117 #[.val (.ref x0), nD tm, nS, .val (.ref x2), nD d5, nS, .val (.int (1 : Int32)), nD d11, nS, nD d13, nS, nD d14, nS, nD d18, nS, nD d21, nS, nD d24, nS, nD d25, nS, nU, nU, nU, nU, nU, nU, nU, nU, nU, nU, nU, nU, nU, nU, nU, nU, nU, nU, nU] [(.double d26)])) rfl (hb hby d5_117) _ k) ?_
  show Goes _ _ _ _ _ _ _ (T10.setTop (mkF m 120 #[.val (.ref x0), nD tm, nS, .val (.ref x2), nD d5, nS, .val (.int (1 : Int32)), nD d11, nS, nD d13, nS, nD d14, nS, nD d18, nS, nD d21, nS, nD d24, nS, nD d25, nS, nU, nU, nU, nU, nU, nU, nU, nU, nU, nU, nU, nU, nU, nU, nU, nU, nU, nU, nU] [(.double (4618441417868443648 : UInt64)), (.double d26)]))
  refine G1 (fun _ k => XS.dload X10.here hx rfl (hb hby d5_120) rfl k) ?_
  obtain ⟨d27, hd27⟩ : ∃ z, FP.dmul (4618441417868443648 : UInt64) d11 = z := ⟨_, rfl⟩
  have fr27 : OwnF.Fr 3 ((6 : Int) * jv) 96 d27 := by rw [← hd27]; exact OwnF.Fr.dmul own_k4618441417868443648 fr12 (by decide)
  refine G1 (fun _ k => XS.dmulS X10.here hx rfl (hb hby d5_122) rfl (by rw [hd27]; exact own_nn fr27) hd27 k) ?_
  show Goes _ _ _ _ _ _ _ (T10.setTop (mkF m 123 _ [(.double d27), (.double d26)]))
  obtain ⟨d28, hd28⟩ : ∃ z, FP.dsub d26 d27 = z := ⟨_, rfl⟩
  have fr28 : OwnF.Fr 6 (((6 : Int) * (jv * jv)) - (((6 : Int) * jv) * ((2 ^ 3 : Nat) : Int))) 2304 d28 := by rw [← hd28]; exact OwnF.Fr.dsub fr26 (OwnF.Fr.up 3 fr27) (by decide)
  refine G1 (fun _ k => XS.dsubS X10.here hx rfl (hb hby d5_123) rfl (by rw [hd28]; exact own_nn fr28) hd28 k) ?_
  show Goes _ _ _ _ _ _ _ (T10.setTop (mkF m 124 #[.val (.ref x0), nD tm, nS, .val (.ref x2), nD d5, nS, .val (.int (1 : Int32)), nD d11, nS, nD d13, nS, nD d14, nS, nD d18, nS, nD d21, nS, nD d24, nS, nD d25, nS, nU, nU, nU, nU, nU, nU, nU, nU, nU, nU, nU, nU, nU, nU, nU, nU, nU, nU, nU] [(.double d28)]))
  refine G1 (fun _ k => XS.dstore X10.here hx rfl (hb hby d5_124) rfl (l' := #[.val (.ref x0), nD tm, nS, .val (.ref x2), nD d5, nS, .val (.int (1 : Int32)), nD d11, nS, nD d13, nS, nD d14, nS, nD d18, nS, nD d21, nS, nD d24, nS, nD d25, nS, nD d28, nS, nU, nU, nU, nU, nU, nU, nU, nU, nU, nU, nU, nU, nU, nU, nU, nU, nU]) rfl k) ?_
  show Goes _ _ _ _ _ _ _ (T10.setTop (mkF m 126 _ []))
  refine G1 (fun _ k => X10.ldc2DoubleC hx hown (mvT hZ w_45) (g := (mkF m 126 #[.val (.ref x0), nD tm, nS, .val (.ref x2), nD d5, nS, .val (.int (1 : Int32)), nD d11, nS, nD d13, nS, nD d14, nS, nD d18, nS, nD d21, nS, nD d24, nS, nD d25, nS, nD d28, nS, nU, nU, nU, nU, nU, nU, nU, nU, nU, nU, nU, nU, nU, nU, nU, nU, nU] [])) rfl (hb hby d5_126) _ k) ?_
  show Goes _ _ _ _ _ _ _ (T10.setTop (mkF m 129 #[.val (.ref x0), nD tm, nS, .val (.ref x2), nD d5, nS, .val (.int (1 : Int32)), nD d11, nS, nD d13, nS, nD d14, nS, nD d18, nS, nD d21, nS, nD d24, nS, nD d25, nS, nD d28, nS, nU, nU, nU, nU, nU, nU, nU, nU, nU, nU, nU, nU, nU, nU, nU, nU, nU] [(.double (4613937818241073152 : UInt64))]))
  refine G1 (fun _ k => XS.dload X10.here hx rfl (hb hby d5_129) rfl k) ?_
  obtain ⟨d29, hd29⟩ : ∃ z, FP.dmul (4613937818241073152 : UInt64) d13 = z := ⟨_, rfl⟩
  have fr29 : OwnF.Fr 6 ((3 : Int) * (jv * jv)) 768 d29 := by rw [← hd29]; exact OwnF.Fr.dmul own_k4613937818241073152 fr13 (by decide)
  refine G1 (fun _ k => XS.dmulS X10.here hx rfl (hb hby d5_131) rfl (by rw [hd29]; exact own_nn fr29) hd29 k) ?_
  show Goes _ _ _ _ _ _ _ (T10.setTop (mkF m 132 _ [(.double d29)]))
  refine G1 (fun _ k => X10.ldc2DoubleC hx hown (mvT hZ w_48) (g := (mkF m 132 #[.val (.ref x0), nD tm, nS, .val (.ref x2), nD d5, nS, .val (.int (1 : Int32)), nD d11, nS, nD d13, nS, nD d14, nS, nD d18, nS, nD d21, nS, nD d24, nS, nD d25, nS, nD d28, nS, nU, nU, nU, nU, nU, nU, nU, nU, nU, nU, nU, nU, nU, nU, nU, nU, nU] [(.double d29)])) rfl (hb hby d5_132) _ k) ?_
  show Goes _ _ _ _ _ _ _ (T10.setTop (mkF m 135 #[.val (.ref x0), nD tm, nS, .val (.ref x2), nD d5, nS, .val (.int (1 : Int32)), nD d11, nS, nD d13, nS, nD d14, nS, nD d18, nS, nD d21, nS, nD d24, nS, nD d25, nS, nD d28, nS, nU, nU, nU, nU, nU, nU, nU, nU, nU, nU, nU, nU, nU, nU, nU, nU, nU] [(.double (4616189618054758400 : UInt64)), (.double d29)]))
  refine G1 (fun _ k => XS.dload X10.here hx rfl (hb hby d5_135) rfl k) ?_
  obtain ⟨d30, hd30⟩ : ∃ z, FP.dmul (4616189618054758400 : UInt64) d11 = z := ⟨_, rfl⟩
  have fr30 : OwnF.Fr 3 ((4 : Int) * jv) 64 d30 := by rw [← hd30]; exact OwnF.Fr.dmul own_k4616189618054758400 fr12 (by decide)
  refine G1 (fun _ k => XS.dmulS X10.here hx rfl (hb hby d5_137) rfl (by rw [hd30]; exact own_nn fr30) hd30 k) ?_
  show Goes _ _ _ _ _ _ _ (T10.setTop (mkF m 138 _ [(.double d30), (.double d29)]))
  obtain ⟨d31, hd31⟩ : ∃ z, FP.dsub d29 d30 = z := ⟨_, rfl⟩
  have fr31 : OwnF.Fr 6 (((3 : Int) * (jv * jv)) - (((4 : Int) * jv) * ((2 ^ 3 : Nat) : Int))) 1280 d31 := by rw [← hd31]; exact OwnF.Fr.dsub fr29 (OwnF.Fr.up 3 fr30) (by decide)
  refine G1 (fun _ k => XS.dsubS X10.here hx rfl (hb hby d5_138) rfl (by rw [hd31]; exact own_nn fr31) hd31 k) ?_
  show Goes _ _ _ _ _ _ _ (T10.setTop (mkF m 139 #[.val (.ref x0), nD tm, nS, .val (.ref x2), nD d5, nS, .val (.int (1 : Int32)), nD d11, nS, nD d13, nS, nD d14, nS, nD d18, nS, nD d21, nS, nD d24, nS, nD d25, nS, nD d28, nS, nU, nU, nU, nU, nU, nU, nU, nU, nU, nU, nU, nU, nU, nU, nU, nU, nU] [(.double d31)]))
  refine G1 (fun _ k => XS.dconst1 X10.here hx rfl (hb hby d5_139) rfl k) ?_
  obtain ⟨d32, hd32⟩ : ∃ z, FP.dadd d31 FP.dconst1 = z := ⟨_, rfl⟩
  have fr32 : OwnF.Fr 6 ((((3 : Int) * (jv * jv)) - (((4 : Int) * jv) * ((2 ^ 3 : Nat) : Int))) + ((1 : Int) * ((2 ^ 6 : Nat) : Int))) 1344 d32 := by rw [← hd32]; exact OwnF.Fr.dadd fr31 (OwnF.Fr.up 6 own_c1) (by decide)
  refine G1 (fun _ k => XS.daddS X10.here hx rfl (hb hby d5_140) rfl (by rw [hd32]; exact own_nn fr32) hd32 k) ?_
  show Goes _ _ _ _ _ _ _ (T10.setTop (mkF m 141 _ [(.double d32)]))
  refine G1 (fun _ k => XS.dstore X10.here hx rfl (hb hby d5_141) rfl (l' := #[.val (.ref x0), nD tm, nS, .val (.ref x2), nD d5, nS, .val (.int (1 : Int32)), nD d11, nS, nD d13, nS, nD d14, nS, nD d18, nS, nD d21, nS, nD d24, nS, nD d25, nS, nD d28, nS, nD d32, nS, nU, nU, nU, nU, nU, nU, nU, nU, nU, nU, nU, nU, nU, nU, nU]) rfl k) ?_
  show Goes _ _ _ _ _ _ _ (T10.setTop (mkF m 143 #[.val (.ref x0), nD tm, nS, .val (.ref x2), nD d5, nS, .val (.int (1 : Int32)), nD d11, nS, nD d13, nS, nD d14, nS, nD d18, nS, nD d21, nS, nD d24, nS, nD d25, nS, nD d28, nS, nD d32, nS, nU, nU, nU, nU, nU, nU, nU, nU, nU, nU, nU, nU, nU, nU, nU] []))
  refine G1 (fun _ k => X10.ldc2DoubleC hx hown (mvT hZ w_49) (g := (mkF m 143 #[.val (.ref x0), nD tm, nS, .val (.ref x2), nD d5, nS, .val (.int (1 : Int32)), nD d11, nS, nD d13, nS, nD d14, nS, nD d18, nS, nD d21, nS, nD d24, nS, nD d25, nS, nD d28, nS, nD d32, nS, nU, nU, nU, nU, nU, nU, nU, nU, nU, nU, nU, nU, nU, nU, nU] [])) rfl (hb hby d5_143) _ k) ?_
  show Goes _ _ _ _ _ _ _ (T10.setTop (mkF m 146 _ [(.double (13841813454723219456 : UInt64))]))
  refine G1 (fun _ k => XS.dload X10.here hx rfl (hb hby d5_146) rfl k) ?_
  obtain ⟨d33, hd33⟩ : ∃ z, FP.dmul (13841813454723219456 : UInt64) d13 = z := ⟨_, rfl⟩
  have fr33 : OwnF.Fr 6 ((-6 : Int) * (jv * jv)) 1536 d33 := by rw [← hd33]; exact OwnF.Fr.dmul own_k13841813454723219456 fr13 (by decide)
  refine G1 (fun _ k => XS.dmulS X10.here hx rfl (hb hby d5_148) rfl (by rw [hd33]; exact own_nn fr33) hd33 k) ?_
  show Goes _ _ _ _ _ _ _ (T10.setTop (mkF m 149 #[.val (.ref x0), nD tm, nS, .val (.ref x2), nD d5, nS, .val (.int (1 : Int32)), nD d11, nS, nD d13, nS, nD d14, nS, nD d18, nS, nD d21, nS, nD d24, nS, nD d25, nS, nD d28, nS, nD d32, nS, nU, nU, nU, nU, nU, nU, nU, nU, nU, nU, nU, nU, nU, nU, nU] [(.double d33)]))
  refine G1 (fun _ k => X10.ldc2DoubleC hx hown (mvT hZ w_47) (g := (mkF m 149 #[.val (.ref x0), nD tm, nS, .val (.ref x2), nD d5, nS, .val (.int (1 : Int32)), nD d11, nS, nD d13, nS, nD d14, nS, nD d18, nS, nD d21, nS, nD d24, nS, nD d25, nS, nD d28, nS, nD d32, nS, nU, nU, nU, nU, nU, nU, nU, nU, nU, nU, nU, nU, nU, nU, nU] [(.double d33)])) rfl (hb hby d5_149) _ k) ?_
  show Goes _ _ _ _ _ _ _ (T10.setTop (mkF m 152 _ [(.double (4618441417868443648 : UInt64)), (.double d33)]))
  refine G1 (fun _ k => XS.dload X10.here hx rfl (hb hby d5_152) rfl k) ?_
  obtain ⟨d34, hd34⟩ : ∃ z, FP.dmul (4618441417868443648 : UInt64) d11 = z := ⟨_, rfl⟩
  have fr34 : OwnF.Fr 3 ((6 : Int) * jv) 96 d34 := by rw [← hd34]; exact OwnF.Fr.dmul own_k4618441417868443648 fr12 (by decide)
  refine G1 (fun _ k => XS.dmulS X10.here hx rfl (hb hby d5_154) rfl (by rw [hd34]; exact own_nn fr34) hd34 k) ?_
  show Goes _ _ _ _ _ _ _ (T10.setTop (mkF m 155 #[.val (.ref x0), nD tm, nS, .val (.ref x2), nD d5, nS, .val (.int (1 : Int32)), nD d11, nS, nD d13, nS, nD d14, nS, nD d18, nS, nD d21, nS, nD d24, nS, nD d25, nS, nD d28, nS, nD d32, nS, nU, nU, nU, nU, nU, nU, nU, nU, nU, nU, nU, nU, nU, nU, nU] [(.double d34), (.double d33)]))
  obtain ⟨d35, hd35⟩ : ∃ z, FP.dadd d33 d34 = z := ⟨_, rfl⟩
  have fr35 : OwnF.Fr 6 (((-6 : Int) * (jv * jv)) + (((6 : Int) * jv) * ((2 ^ 3 : Nat) : Int))) 2304 d35 := by rw [← hd35]; exact OwnF.Fr.dadd fr33 (OwnF.Fr.up 3 fr34) (by decide)
  refine G1 (fun _ k => XS.daddS X10.here hx rfl (hb hby d5_155) rfl (by rw [hd35]; exact own_nn fr35) hd35 k) ?_
  show Goes _ _ _ _ _ _ _ (T10.setTop (mkF m 156 _ [(.double d35)]))
  refine G1 (fun _ k => XS.dstore X10.here hx rfl (hb hby d5_156) rfl (l' := #[.val (.ref x0), nD tm, nS, .val (.ref x2), nD d5, nS, .val (.int (1 : Int32)), nD d11, nS, nD d13, nS, nD d14, nS, nD d18, nS, nD d21, nS, nD d24, nS, nD d25, nS, nD d28, nS, nD d32, nS, nD d35, nS, nU, nU, nU, nU, nU, nU, nU, nU, nU, nU, nU, nU, nU]) rfl k) ?_
  show Goes _ _ _ _ _ _ _ (T10.setTop (mkF m 158 #[.val (.ref x0), nD tm, nS, .val (.ref x2), nD d5, nS, .val (.int (1 : Int32)), nD d11, nS, nD d13, nS, nD d14, nS, nD d18, nS, nD d21, nS, nD d24, nS, nD d25, nS, nD d28, nS, nD d32, nS, nD d35, nS, nU, nU, nU, nU, nU, nU, nU, nU, nU, nU, nU, nU, nU] []))
  refine G1 (fun _ k => X10.ldc2DoubleC hx hown (mvT hZ w_45) (g := (mkF m 158 #[.val (.ref x0), nD tm, nS, .val (.ref x2), nD d5, nS, .val (.int (1 : Int32)), nD d11, nS, nD d13, nS, nD d14, nS, nD d18, nS, nD d21, nS, nD d24, nS, nD d25, nS, nD d28, nS, nD d32, nS, nD d35, nS, nU, nU, nU, nU, nU, nU, nU, nU, nU, nU, nU, nU, nU] [])) rfl (hb hby d5_158) _ k) ?_
  show Goes _ _ _ _ _ _ _ (T10.setTop (mkF m 161 _ [(.double (4613937818241073152 : UInt64))]))
  refine G1 (fun _ k => XS.dload X10.here hx rfl (hb hby d5_161) rfl k) ?_
  obtain ⟨d36, hd36⟩ : ∃ z, FP.dmul (4613937818241073152 : UInt64) d13 = z := ⟨_, rfl⟩
  have fr36 : OwnF.Fr 6 ((3 : Int) * (jv * jv)) 768 d36 := by rw [← hd36]; exact OwnF.Fr.dmul own_k4613937818241073152 fr13 (by decide)
  refine G1 (fun _ k => XS.dmulS X10.here hx rfl (hb hby d5_163) rfl (by rw [hd36]; exact own_nn fr36) hd36 k) ?_
  show Goes _ _ _ _ _ _ _ (T10.setTop (mkF m 164 #[.val (.ref x0), nD tm, nS, .val (.ref x2), nD d5, nS, .val (.int (1 : Int32)), nD d11, nS, nD d13, nS, nD d14, nS, nD d18, nS, nD d21, nS, nD d24, nS, nD d25, nS, nD d28, nS, nD d32, nS, nD d35, nS, nU, nU, nU, nU, nU, nU, nU, nU, nU, nU, nU, nU, nU] [(.double d36)]))
  refine G1 (fun _ k => X10.ldc2DoubleC hx hown (mvT hZ w_44) (g := (mkF m 164 #[.val (.ref x0), nD tm, nS, .val (.ref x2), nD d5, nS, .val (.int (1 : Int32)), nD d11, nS, nD d13, nS, nD d14, nS, nD d18, nS, nD d21, nS, nD d24, nS, nD d25, nS, nD d28, nS, nD d32, nS, nD d35, nS, nU, nU, nU, nU, nU, nU, nU, nU, nU, nU, nU, nU, nU] [(.double d36)])) rfl (hb hby d5_164) _ k) ?_
  show Goes _ _ _ _ _ _ _ (T10.setTop (mkF m 167 _ [(.double (4611686018427387904 : UInt64)), (.double d36)]))
  refine G1 (fun _ k => XS.dload X10.here hx rfl (hb hby d5_167) rfl k) ?_
  obtain ⟨d37, hd37⟩ : ∃ z, FP.dmul (4611686018427387904 : UInt64) d11 = z := ⟨_, rfl⟩
  have fr37 : OwnF.Fr 3 ((2 : Int) * jv) 32 d37 := by rw [← hd37]; exact OwnF.Fr.dmul own_k4611686018427387904 fr12 (by decide)
  refine G1 (fun _ k => XS.dmulS X10.here hx rfl (hb hby d5_169) rfl (by rw [hd37]; exact own_nn fr37) hd37 k) ?_
  show Goes _ _ _ _ _ _ _ (T10.setTop (mkF m 170 #[.val (.ref x0), nD tm, nS, .val (.ref x2), nD d5, nS, .val (.int (1 : Int32)), nD d11, nS, nD d13, nS, nD d14, nS, nD d18, nS, nD d21, nS, nD d24, nS, nD d25, nS, nD d28, nS, nD d32, nS, nD d35, nS, nU, nU, nU, nU, nU, nU, nU, nU, nU, nU, nU, nU, nU] [(.double d37), (.double d36)]))
  obtain ⟨d38, hd38⟩ : ∃ z, FP.dsub d36 d37 = z := ⟨_, rfl⟩
  have fr38 : OwnF.Fr 6 (((3 : Int) * (jv * jv)) - (((2 : Int) * jv) * ((2 ^ 3 : Nat) : Int))) 1024 d38 := by rw [← hd38]; exact OwnF.Fr.dsub fr36 (OwnF.Fr.up 3 fr37) (by decide)
  refine G1 (fun _ k => XS.dsubS X10.here hx rfl (hb hby d5_170) rfl (by rw [hd38]; exact own_nn fr38) hd38 k) ?_
  show Goes _ _ _ _ _ _ _ (T10.setTop (mkF m 171 _ [(.double d38)]))
  refine G1 (fun _ k => XS.dstore X10.here hx rfl (hb hby d5_171) rfl (l' := #[.val (.ref x0), nD tm, nS, .val (.ref x2), nD d5, nS, .val (.int (1 : Int32)), nD d11, nS, nD d13, nS, nD d14, nS, nD d18, nS, nD d21, nS, nD d24, nS, nD d25, nS, nD d28, nS, nD d32, nS, nD d35, nS, nD d38, nS, nU, nU, nU, nU, nU, nU, nU, nU, nU, nU, nU]) rfl k) ?_
  show Goes _ _ _ _ _ _ _ (T10.setTop (mkF m 173 #[.val (.ref x0), nD tm, nS, .val (.ref x2), nD d5, nS, .val (.int (1 : Int32)), nD d11, nS, nD d13, nS, nD d14, nS, nD d18, nS, nD d21, nS, nD d24, nS, nD d25, nS, nD d28, nS, nD d32, nS, nD d35, nS, nD d38, nS, nU, nU, nU, nU, nU, nU, nU, nU, nU, nU, nU] []))
  refine G1 (fun _ k => XS.iload X10.here hx rfl (hb hby d5_173) rfl  k) ?_
  refine G1 (fun _ k => XS.bipush X10.here hx rfl (hb hby d5_175) k) ?_
  refine G1 (fun _ k => XS.imul X10.here hx rfl (hb hby d5_177) rfl k) ?_
  show Goes _ _ _ _ _ _ _ (T10.setTop (mkF m 178 _ [(.int (6 : Int32))]))
  refine G1 (fun _ k => XS.istore X10.here hx rfl (hb hby d5_178) rfl (l' := #[.val (.ref x0), nD tm, nS, .val (.ref x2), nD d5, nS, .val (.int (1 : Int32)), nD d11, nS, nD d13, nS, nD d14, nS, nD d18, nS, nD d21, nS, nD d24, nS, nD d25, nS, nD d28, nS, nD d32, nS, nD d35, nS, nD d38, nS, .val (.int (6 : Int32)), nU, nU, nU, nU, nU, nU, nU, nU, nU, nU]) rfl k) ?_
  show Goes _ _ _ _ _ _ _ (T10.setTop (mkF m 180 #[.val (.ref x0), nD tm, nS, .val (.ref x2), nD d5, nS, .val (.int (1 : Int32)), nD d11, nS, nD d13, nS, nD d14, nS, nD d18, nS, nD d21, nS, nD d24, nS, nD d25, nS, nD d28, nS, nD d32, nS, nD d35, nS, nD d38, nS, .val (.int (6 : Int32)), nU, nU, nU, nU, nU, nU, nU, nU, nU, nU] []))
  refine G1 (fun _ k => XS.iload X10.here hx rfl (hb hby d5_180) rfl  k) ?_
  refine G1 (fun _ k => XS.bipush X10.here hx rfl (hb hby d5_182) k) ?_
  refine G1 (fun _ k => XS.iadd X10.here hx rfl (hb hby d5_184) rfl k) ?_
  show Goes _ _ _ _ _ _ _ (T10.setTop (mkF m 185 _ [(.int (12 : Int32))]))
  refine G1 (fun _ k => XS.istore X10.here hx rfl (hb hby d5_185) rfl (l' := #[.val (.ref x0), nD tm, nS, .val (.ref x2), nD d5, nS, .val (.int (1 : Int32)), nD d11, nS, nD d13, nS, nD d14, nS, nD d18, nS, nD d21, nS, nD d24, nS, nD d25, nS, nD d28, nS, nD d32, nS, nD d35, nS, nD d38, nS, .val (.int (6 : Int32)), .val (.int (12 : Int32)), nU, nU, nU, nU, nU, nU, nU, nU, nU]) rfl k) ?_
  show Goes _ _ _ _ _ _ _ (T10.setTop (mkF m 187 #[.val (.ref x0), nD tm, nS, .val (.ref x2), nD d5, nS, .val (.int (1 : Int32)), nD d11, nS, nD d13, nS, nD d14, nS, nD d18, nS, nD d21, nS, nD d24, nS, nD d25, nS, nD d28, nS, nD d32, nS, nD d35, nS, nD d38, nS, .val (.int (6 : Int32)), .val (.int (12 : Int32)), nU, nU, nU, nU, nU, nU, nU, nU, nU] []))
  refine G1 (fun _ k => XS.iconst X10.here hx rfl (hb hby d5_187) k) ?_
  refine G1 (fun _ k => XS.istore X10.here hx rfl (hb hby d5_188) rfl (l' := #[.val (.ref x0), nD tm, nS, .val (.ref x2), nD d5, nS, .val (.int (1 : Int32)), nD d11, nS, nD d13, nS, nD d14, nS, nD d18, nS, nD d21, nS, nD d24, nS, nD d25, nS, nD d28, nS, nD d32, nS, nD d35, nS, nD d38, nS, .val (.int (6 : Int32)), .val (.int (12 : Int32)), .val (.int (0 : Int32)), nU, nU, nU, nU, nU, nU, nU, nU]) rfl k) ?_
  show Goes _ _ _ _ _ _ _ (T10.setTop (mkF m 190 _ []))
  refine G1 (fun _ k => XS.iload X10.here hx rfl (hb hby d5_190) rfl  k) ?_
  refine G1 (fun _ k => XS.iconst X10.here hx rfl (hb hby d5_192) k) ?_
  refine G1 (fun _ k => XS.icmpNo X10.here hx rfl (hb hby d5_193) rfl (tlt (by decide : (0 : Int32) < (3 : Int32))).2.1 k) ?_
  show Goes _ _ _ _ _ _ _ (T10.setTop (mkF m 196 #[.val (.ref x0), nD tm, nS, .val (.ref x2), nD d5, nS, .val (.int (1 : Int32)), nD d11, nS, nD d13, nS, nD d14, nS, nD d18, nS, nD d21, nS, nD d24, nS, nD d25, nS, nD d28, nS, nD d32, nS, nD d35, nS, nD d38, nS, .val (.int (6 : Int32)), .val (.int (12 : Int32)), .val (.int (0 : Int32)), nU, nU, nU, nU, nU, nU, nU, nU] []))
  refine G1 (fun _ k => XS.aloadN X10.here hx rfl (hb hby d5_196) rfl rfl k) ?_
  obtain ⟨T39, X39, e39, st39⟩ := getF X10 hx hZ hown (host := "") (Or.inl w_24) Via.refl eh10 F_sam (g := (mkF m 197 #[.val (.ref x0), nD tm, nS, .val (.ref x2), nD d5, nS, .val (.int (1 : Int32)), nD d11, nS, nD d13, nS, nD d14, nS, nD d18, nS, nD d21, nS, nD d24, nS, nD d25, nS, nD d28, nS, nD d32, nS, nD d35, nS, nD d38, nS, .val (.int (6 : Int32)), .val (.int (12 : Int32)), .val (.int (0 : Int32)), nU, nU, nU, nU, nU, nU, nU, nU] [(.ref x0)])) rfl rfl (hb hby d5_197)
  refine G1 st39 ?_
  show Goes _ _ _ _ _ _ _ (T39.setTop (mkF m 200 _ [(.ref sa)]))
  refine G1 (fun _ k => XS.iload X39.here hx rfl (hb hby d5_200) rfl  k) ?_
  refine G1 (fun _ k => XS.iload X39.here hx rfl (hb hby d5_202) rfl  k) ?_
  refine G1 (fun _ k => XS.iadd X39.here hx rfl (hb hby d5_204) rfl k) ?_
  show Goes _ _ _ _ _ _ _ (T39.setTop (mkF m 205 #[.val (.ref x0), nD tm, nS, .val (.ref x2), nD d5, nS, .val (.int (1 : Int32)), nD d11, nS, nD d13, nS, nD d14, nS, nD d18, nS, nD d21, nS, nD d24, nS, nD d25, nS, nD d28, nS, nD d32, nS, nD d35, nS, nD d38, nS, .val (.int (6 : Int32)), .val (.int (12 : Int32)), .val (.int (0 : Int32)), nU, nU, nU, nU, nU, nU, nU, nU] [(.int (6 : Int32)), (.ref sa)]))
  obtain ⟨cl40, Ar40, q40, S40, P40, H40, G40⟩ := id V_sa
  have hin40 : ¬ ((6 : Int32) < 0 ∨ cl40.slots.size ≤ ((6 : Int32)).toNatClampNeg) := inb_of S40 ⟨by decide, by decide⟩
  have hat40 : cl40.slots[((6 : Int32)).toNatClampNeg]? = some (.double ve6) := H40 _ (by rw [S40]; decide)
  refine G1 (fun _ k => X39.daload hx (j := (6 : Int32)) (v := (.double ve6)) (by rw [e39]; exact Ar40.1) (State.isArrayOf_alike hZ.alike Ar40.2.1) Ar40.2.2 hin40 hat40 (g := (mkF m 205 #[.val (.ref x0), nD tm, nS, .val (.ref x2), nD d5, nS, .val (.int (1 : Int32)), nD d11, nS, nD d13, nS, nD d14, nS, nD d18, nS, nD d21, nS, nD d24, nS, nD d25, nS, nD d28, nS, nD d32, nS, nD d35, nS, nD d38, nS, .val (.int (6 : Int32)), .val (.int (12 : Int32)), .val (.int (0 : Int32)), nU, nU, nU, nU, nU, nU, nU, nU] [(.int (6 : Int32)), (.ref sa)])) rfl rfl (hb hby d5_205) _ k) ?_
  show Goes _ _ _ _ _ _ _ (T39.setTop (mkF m 206 _ [(.double ve6)]))
  refine G1 (fun _ k => XS.dstore X39.here hx rfl (hb hby d5_206) rfl (l' := #[.val (.ref x0), nD tm, nS, .val (.ref x2), nD d5, nS, .val (.int (1 : Int32)), nD d11, nS, nD d13, nS, nD d14, nS, nD d18, nS, nD d21, nS, nD d24, nS, nD d25, nS, nD d28, nS, nD d32, nS, nD d35, nS, nD d38, nS, .val (.int (6 : Int32)), .val (.int (12 : Int32)), .val (.int (0 : Int32)), nD ve6, nS, nU, nU, nU, nU, nU, nU]) rfl k) ?_
  show Goes _ _ _ _ _ _ _ (T39.setTop (mkF m 208 #[.val (.ref x0), nD tm, nS, .val (.ref x2), nD d5, nS, .val (.int (1 : Int32)), nD d11, nS, nD d13, nS, nD d14, nS, nD d18, nS, nD d21, nS, nD d24, nS, nD d25, nS, nD d28, nS, nD d32, nS, nD d35, nS, nD d38, nS, .val (.int (6 : Int32)), .val (.int (12 : Int32)), .val (.int (0 : Int32)), nD ve6, nS, nU, nU, nU, nU, nU, nU] []))
  refine G1 (fun _ k => XS.aloadN X39.here hx rfl (hb hby d5_208) rfl rfl k) ?_
  obtain ⟨T41, X41, e41, st41⟩ := getF X39 hx hZ hown (host := "") (Or.inl w_24) Via.refl e39 F_sam (g := (mkF m 209 #[.val (.ref x0), nD tm, nS, .val (.ref x2), nD d5, nS, .val (.int (1 : Int32)), nD d11, nS, nD d13, nS, nD d14, nS, nD d18, nS, nD d21, nS, nD d24, nS, nD d25, nS, nD d28, nS, nD d32, nS, nD d35, nS, nD d38, nS, .val (.int (6 : Int32)), .val (.int (12 : Int32)), .val (.int (0 : Int32)), nD ve6, nS, nU, nU, nU, nU, nU, nU] [(.ref x0)])) rfl rfl (hb hby d5_209)
  refine G1 st41 ?_
  show Goes _ _ _ _ _ _ _ (T41.setTop (mkF m 212 _ [(.ref sa)]))
  refine G1 (fun _ k => XS.iload X41.here hx rfl (hb hby d5_212) rfl  k) ?_
  refine G1 (fun _ k => XS.iconst X41.here hx rfl (hb hby d5_214) k) ?_
  refine G1 (fun _ k => XS.iadd X41.here hx rfl (hb hby d5_215) rfl k) ?_
  show Goes _ _ _ _ _ _ _ (T41.setTop (mkF m 216 #[.val (.ref x0), nD tm, nS, .val (.ref x2), nD d5, nS, .val (.int (1 : Int32)), nD d11, nS, nD d13, nS, nD d14, nS, nD d18, nS, nD d21, nS, nD d24, nS, nD d25, nS, nD d28, nS, nD d32, nS, nD d35, nS, nD d38, nS, .val (.int (6 : Int32)), .val (.int (12 : Int32)), .val (.int (0 : Int32)), nD ve6, nS, nU, nU, nU, nU, nU, nU] [(.int (9 : Int32)), (.ref sa)]))
  refine G1 (fun _ k => XS.iload X41.here hx rfl (hb hby d5_216) rfl  k) ?_
  refine G1 (fun _ k => XS.iadd X41.here hx rfl (hb hby d5_218) rfl k) ?_
  show Goes _ _ _ _ _ _ _ (T41.setTop (mkF m 219 _ [(.int (9 : Int32)), (.ref sa)]))
  obtain ⟨cl42, Ar42, q42, S42, P42, H42, G42⟩ := id V_sa
  have hin42 : ¬ ((9 : Int32) < 0 ∨ cl42.slots.size ≤ ((9 : Int32)).toNatClampNeg) := inb_of S42 ⟨by decide, by decide⟩
  have hat42 : cl42.slots[((9 : Int32)).toNatClampNeg]? = some (.double ve9) := H42 _ (by rw [S42]; decide)
  refine G1 (fun _ k => X41.daload hx (j := (9 : Int32)) (v := (.double ve9)) (by rw [e41]; exact Ar42.1) (State.isArrayOf_alike hZ.alike Ar42.2.1) Ar42.2.2 hin42 hat42 (g := (mkF m 219 #[.val (.ref x0), nD tm, nS, .val (.ref x2), nD d5, nS, .val (.int (1 : Int32)), nD d11, nS, nD d13, nS, nD d14, nS, nD d18, nS, nD d21, nS, nD d24, nS, nD d25, nS, nD d28, nS, nD d32, nS, nD d35, nS, nD d38, nS, .val (.int (6 : Int32)), .val (.int (12 : Int32)), .val (.int (0 : Int32)), nD ve6, nS, nU, nU, nU, nU, nU, nU] [(.int (9 : Int32)), (.ref sa)])) rfl rfl (hb hby d5_219) _ k) ?_
  show Goes _ _ _ _ _ _ _ (T41.setTop (mkF m 220 #[.val (.ref x0), nD tm, nS, .val (.ref x2), nD d5, nS, .val (.int (1 : Int32)), nD d11, nS, nD d13, nS, nD d14, nS, nD d18, nS, nD d21, nS, nD d24, nS, nD d25, nS, nD d28, nS, nD d32, nS, nD d35, nS, nD d38, nS, .val (.int (6 : Int32)), .val (.int (12 : Int32)), .val (.int (0 : Int32)), nD ve6, nS, nU, nU, nU, nU, nU, nU] [(.double ve9)]))
  refine G1 (fun _ k => XS.aloadN X41.here hx rfl (hb hby d5_220) rfl rfl k) ?_
  obtain ⟨T43, X43, e43, st43⟩ := getF X41 hx hZ hown (host := "") (Or.inl w_22) Via.refl e41 F_step (g := (mkF m 221 #[.val (.ref x0), nD tm, nS, .val (.ref x2), nD d5, nS, .val (.int (1 : Int32)), nD d11, nS, nD d13, nS, nD d14, nS, nD d18, nS, nD d21, nS, nD d24, nS, nD d25, nS, nD d28, nS, nD d32, nS, nD d35, nS, nD d38, nS, .val (.int (6 : Int32)), .val (.int (12 : Int32)), .val (.int (0 : Int32)), nD ve6, nS, nU, nU, nU, nU, nU, nU] [(.ref x0), (.double ve9)])) rfl rfl (hb hby d5_221)
  refine G1 st43 ?_
  show Goes _ _ _ _ _ _ _ (T43.setTop (mkF m 224 _ [(.double stp), (.double ve9)]))
  obtain ⟨d44, hd44⟩ : ∃ z, FP.dmul ve9 stp = z := ⟨_, rfl⟩
  have fr44 : OwnF.Fr 0 (vP9 * si) 33554432 d44 := by rw [← hd44]; exact OwnF.Fr.dmul fP9 fs (by decide)
  refine G1 (fun _ k => XS.dmulS X43.here hx rfl (hb hby d5_224) rfl (by rw [hd44]; exact own_nn fr44) hd44 k) ?_
  show Goes _ _ _ _ _ _ _ (T43.setTop (mkF m 225 #[.val (.ref x0), nD tm, nS, .val (.ref x2), nD d5, nS, .val (.int (1 : Int32)), nD d11, nS, nD d13, nS, nD d14, nS, nD d18, nS, nD d21, nS, nD d24, nS, nD d25, nS, nD d28, nS, nD d32, nS, nD d35, nS, nD d38, nS, .val (.int (6 : Int32)), .val (.int (12 : Int32)), .val (.int (0 : Int32)), nD ve6, nS, nU, nU, nU, nU, nU, nU] [(.double d44)]))
  refine G1 (fun _ k => XS.dstore X43.here hx rfl (hb hby d5_225) rfl (l' := #[.val (.ref x0), nD tm, nS, .val (.ref x2), nD d5, nS, .val (.int (1 : Int32)), nD d11, nS, nD d13, nS, nD d14, nS, nD d18, nS, nD d21, nS, nD d24, nS, nD d25, nS, nD d28, nS, nD d32, nS, nD d35, nS, nD d38, nS, .val (.int (6 : Int32)), .val (.int (12 : Int32)), .val (.int (0 : Int32)), nD ve6, nS, nD d44, nS, nU, nU, nU, nU]) rfl k) ?_
  show Goes _ _ _ _ _ _ _ (T43.setTop (mkF m 227 _ []))
  refine G1 (fun _ k => XS.aloadN X43.here hx rfl (hb hby d5_227) rfl rfl k) ?_
  obtain ⟨T45, X45, e45, st45⟩ := getF X43 hx hZ hown (host := "") (Or.inl w_24) Via.refl e43 F_sam (g := (mkF m 228 #[.val (.ref x0), nD tm, nS, .val (.ref x2), nD d5, nS, .val (.int (1 : Int32)), nD d11, nS, nD d13, nS, nD d14, nS, nD d18, nS, nD d21, nS, nD d24, nS, nD d25, nS, nD d28, nS, nD d32, nS, nD d35, nS, nD d38, nS, .val (.int (6 : Int32)), .val (.int (12 : Int32)), .val (.int (0 : Int32)), nD ve6, nS, nD d44, nS, nU, nU, nU, nU] [(.ref x0)])) rfl rfl (hb hby d5_228)
  refine G1 st45 ?_
  show Goes _ _ _ _ _ _ _ (T45.setTop (mkF m 231 #[.val (.ref x0), nD tm, nS, .val (.ref x2), nD d5, nS, .val (.int (1 : Int32)), nD d11, nS, nD d13, nS, nD d14, nS, nD d18, nS, nD d21, nS, nD d24, nS, nD d25, nS, nD d28, nS, nD d32, nS, nD d35, nS, nD d38, nS, .val (.int (6 : Int32)), .val (.int (12 : Int32)), .val (.int (0 : Int32)), nD ve6, nS, nD d44, nS, nU, nU, nU, nU] [(.ref sa)]))
  refine G1 (fun _ k => XS.iload X45.here hx rfl (hb hby d5_231) rfl  k) ?_
  refine G1 (fun _ k => XS.iload X45.here hx rfl (hb hby d5_233) rfl  k) ?_
  refine G1 (fun _ k => XS.iadd X45.here hx rfl (hb hby d5_235) rfl k) ?_
  show Goes _ _ _ _ _ _ _ (T45.setTop (mkF m 236 _ [(.int (12 : Int32)), (.ref sa)]))
  obtain ⟨cl46, Ar46, q46, S46, P46, H46, G46⟩ := id V_sa
  have hin46 : ¬ ((12 : Int32) < 0 ∨ cl46.slots.size ≤ ((12 : Int32)).toNatClampNeg) := inb_of S46 ⟨by decide, by decide⟩
  have hat46 : cl46.slots[((12 : Int32)).toNatClampNeg]? = some (.double ve12) := H46 _ (by rw [S46]; decide)
  refine G1 (fun _ k => X45.daload hx (j := (12 : Int32)) (v := (.double ve12)) (by rw [e45]; exact Ar46.1) (State.isArrayOf_alike hZ.alike Ar46.2.1) Ar46.2.2 hin46 hat46 (g := (mkF m 236 #[.val (.ref x0), nD tm, nS, .val (.ref x2), nD d5, nS, .val (.int (1 : Int32)), nD d11, nS, nD d13, nS, nD d14, nS, nD d18, nS, nD d21, nS, nD d24, nS, nD d25, nS, nD d28, nS, nD d32, nS, nD d35, nS, nD d38, nS, .val (.int (6 : Int32)), .val (.int (12 : Int32)), .val (.int (0 : Int32)), nD ve6, nS, nD d44, nS, nU, nU, nU, nU] [(.int (12 : Int32)), (.ref sa)])) rfl rfl (hb hby d5_236) _ k) ?_
  show Goes _ _ _ _ _ _ _ (T45.setTop (mkF m 237 #[.val (.ref x0), nD tm, nS, .val (.ref x2), nD d5, nS, .val (.int (1 : Int32)), nD d11, nS, nD d13, nS, nD d14, nS, nD d18, nS, nD d21, nS, nD d24, nS, nD d25, nS, nD d28, nS, nD d32, nS, nD d35, nS, nD d38, nS, .val (.int (6 : Int32)), .val (.int (12 : Int32)), .val (.int (0 : Int32)), nD ve6, nS, nD d44, nS, nU, nU, nU, nU] [(.double ve12)]))
  refine G1 (fun _ k => XS.dstore X45.here hx rfl (hb hby d5_237) rfl (l' := #[.val (.ref x0), nD tm, nS, .val (.ref x2), nD d5, nS, .val (.int (1 : Int32)), nD d11, nS, nD d13, nS, nD d14, nS, nD d18, nS, nD d21, nS, nD d24, nS, nD d25, nS, nD d28, nS, nD d32, nS, nD d35, nS, nD d38, nS, .val (.int (6 : Int32)), .val (.int (12 : Int32)), .val (.int (0 : Int32)), nD ve6, nS, nD d44, nS, nD ve12, nS, nU, nU]) rfl k) ?_
  show Goes _ _ _ _ _ _ _ (T45.setTop (mkF m 239 _ []))
  refine G1 (fun _ k => XS.aloadN X45.here hx rfl (hb hby d5_239) rfl rfl k) ?_
  obtain ⟨T47, X47, e47, st47⟩ := getF X45 hx hZ hown (host := "") (Or.inl w_24) Via.refl e45 F_sam (g := (mkF m 240 #[.val (.ref x0), nD tm, nS, .val (.ref x2), nD d5, nS, .val (.int (1 : Int32)), nD d11, nS, nD d13, nS, nD d14, nS, nD d18, nS, nD d21, nS, nD d24, nS, nD d25, nS, nD d28, nS, nD d32, nS, nD d35, nS, nD d38, nS, .val (.int (6 : Int32)), .val (.int (12 : Int32)), .val (.int (0 : Int32)), nD ve6, nS, nD d44, nS, nD ve12, nS, nU, nU] [(.ref x0)])) rfl rfl (hb hby d5_240)
  refine G1 st47 ?_
  show Goes _ _ _ _ _ _ _ (T47.setTop (mkF m 243 #[.val (.ref x0), nD tm, nS, .val (.ref x2), nD d5, nS, .val (.int (1 : Int32)), nD d11, nS, nD d13, nS, nD d14, nS, nD d18, nS, nD d21, nS, nD d24, nS, nD d25, nS, nD d28, nS, nD d32, nS, nD d35, nS, nD d38, nS, .val (.int (6 : Int32)), .val (.int (12 : Int32)), .val (.int (0 : Int32)), nD ve6, nS, nD d44, nS, nD ve12, nS, nU, nU] [(.ref sa)]))
  refine G1 (fun _ k => XS.iload X47.here hx rfl (hb hby d5_243) rfl  k) ?_
  refine G1 (fun _ k => XS.iconst X47.here hx rfl (hb hby d5_245) k) ?_
  refine G1 (fun _ k => XS.iadd X47.here hx rfl (hb hby d5_246) rfl k) ?_
  show Goes _ _ _ _ _ _ _ (T47.setTop (mkF m 247 _ [(.int (15 : Int32)), (.ref sa)]))
  refine G1 (fun _ k => XS.iload X47.here hx rfl (hb hby d5_247) rfl  k) ?_
  refine G1 (fun _ k => XS.iadd X47.here hx rfl (hb hby d5_249) rfl k) ?_
  show Goes _ _ _ _ _ _ _ (T47.setTop (mkF m 250 #[.val (.ref x0), nD tm, nS, .val (.ref x2), nD d5, nS, .val (.int (1 : Int32)), nD d11, nS, nD d13, nS, nD d14, nS, nD d18, nS, nD d21, nS, nD d24, nS, nD d25, nS, nD d28, nS, nD d32, nS, nD d35, nS, nD d38, nS, .val (.int (6 : Int32)), .val (.int (12 : Int32)), .val (.int (0 : Int32)), nD ve6, nS, nD d44, nS, nD ve12, nS, nU, nU] [(.int (15 : Int32)), (.ref sa)]))
  obtain ⟨cl48, Ar48, q48, S48, P48, H48, G48⟩ := id V_sa
  have hin48 : ¬ ((15 : Int32) < 0 ∨ cl48.slots.size ≤ ((15 : Int32)).toNatClampNeg) := inb_of S48 ⟨by decide, by decide⟩
  have hat48 : cl48.slots[((15 : Int32)).toNatClampNeg]? = some (.double ve15) := H48 _ (by rw [S48]; decide)
  refine G1 (fun _ k => X47.daload hx (j := (15 : Int32)) (v := (.double ve15)) (by rw [e47]; exact Ar48.1) (State.isArrayOf_alike hZ.alike Ar48.2.1) Ar48.2.2 hin48 hat48 (g := (mkF m 250 #[.val (.ref x0), nD tm, nS, .val (.ref x2), nD d5, nS, .val (.int (1 : Int32)), nD d11, nS, nD d13, nS, nD d14, nS, nD d18, nS, nD d21, nS, nD d24, nS, nD d25, nS, nD d28, nS, nD d32, nS, nD d35, nS, nD d38, nS, .val (.int (6 : Int32)), .val (.int (12 : Int32)), .val (.int (0 : Int32)), nD ve6, nS, nD d44, nS, nD ve12, nS, nU, nU] [(.int (15 : Int32)), (.ref sa)])) rfl rfl (hb hby d5_250) _ k) ?_
  show Goes _ _ _ _ _ _ _ (T47.setTop (mkF m 251 _ [(.double ve15)]))
  refine G1 (fun _ k => XS.aloadN X47.here hx rfl (hb hby d5_251) rfl rfl k) ?_
  obtain ⟨T49, X49, e49, st49⟩ := getF X47 hx hZ hown (host := "") (Or.inl w_22) Via.refl e47 F_step (g := (mkF m 252 #[.val (.ref x0), nD tm, nS, .val (.ref x2), nD d5, nS, .val (.int (1 : Int32)), nD d11, nS, nD d13, nS, nD d14, nS, nD d18, nS, nD d21, nS, nD d24, nS, nD d25, nS, nD d28, nS, nD d32, nS, nD d35, nS, nD d38, nS, .val (.int (6 : Int32)), .val (.int (12 : Int32)), .val (.int (0 : Int32)), nD ve6, nS, nD d44, nS, nD ve12, nS, nU, nU] [(.ref x0), (.double ve15)])) rfl rfl (hb hby d5_252)
  refine G1 st49 ?_
  show Goes _ _ _ _ _ _ _ (T49.setTop (mkF m 255 #[.val (.ref x0), nD tm, nS, .val (.ref x2), nD d5, nS, .val (.int (1 : Int32)), nD d11, nS, nD d13, nS, nD d14, nS, nD d18, nS, nD d21, nS, nD d24, nS, nD d25, nS, nD d28, nS, nD d32, nS, nD d35, nS, nD d38, nS, .val (.int (6 : Int32)), .val (.int (12 : Int32)), .val (.int (0 : Int32)), nD ve6, nS, nD d44, nS, nD ve12, nS, nU, nU] [(.double stp), (.double ve15)]))
  obtain ⟨d50, hd50⟩ : ∃ z, FP.dmul ve15 stp = z := ⟨_, rfl⟩
  have fr50 : OwnF.Fr 0 (vP15 * si) 33554432 d50 := by rw [← hd50]; exact OwnF.Fr.dmul fP15 fs (by decide)
  refine G1 (fun _ k => XS.dmulS X49.here hx rfl (hb hby d5_255) rfl (by rw [hd50]; exact own_nn fr50) hd50 k) ?_
  show Goes _ _ _ _ _ _ _ (T49.setTop (mkF m 256 _ [(.double d50)]))
  refine G1 (fun _ k => XS.dstore X49.here hx rfl (hb hby d5_256) rfl (l' := #[.val (.ref x0), nD tm, nS, .val (.ref x2), nD d5, nS, .val (.int (1 : Int32)), nD d11, nS, nD d13, nS, nD d14, nS, nD d18, nS, nD d21, nS, nD d24, nS, nD d25, nS, nD d28, nS, nD d32, nS, nD d35, nS, nD d38, nS, .val (.int (6 : Int32)), .val (.int (12 : Int32)), .val (.int (0 : Int32)), nD ve6, nS, nD d44, nS, nD ve12, nS, nD d50, nS]) rfl k) ?_
  show Goes _ _ _ _ _ _ _ (T49.setTop (mkF m 258 #[.val (.ref x0), nD tm, nS, .val (.ref x2), nD d5, nS, .val (.int (1 : Int32)), nD d11, nS, nD d13, nS, nD d14, nS, nD d18, nS, nD d21, nS, nD d24, nS, nD d25, nS, nD d28, nS, nD d32, nS, nD d35, nS, nD d38, nS, .val (.int (6 : Int32)), .val (.int (12 : Int32)), .val (.int (0 : Int32)), nD ve6, nS, nD d44, nS, nD ve12, nS, nD d50, nS] []))
  refine G1 (fun _ k => XS.aloadN X49.here hx rfl (hb hby d5_258) rfl rfl k) ?_
  refine G1 (fun _ k => XS.iload X49.here hx rfl (hb hby d5_259) rfl  k) ?_
  refine G1 (fun _ k => XS.dload X49.here hx rfl (hb hby d5_261) rfl k) ?_
  refine G1 (fun _ k => XS.dload X49.here hx rfl (hb hby d5_263) rfl k) ?_
  show Goes _ _ _ _ _ _ _ (T49.setTop (mkF m 265 _ [(.double ve6), (.double d18), (.int (0 : Int32)), (.ref x2)]))
  obtain ⟨d51, hd51⟩ : ∃ z, FP.dmul d18 ve6 = z := ⟨_, rfl⟩
  have fr51 : OwnF.Fr 9 (((((2 : Int) * ((jv * jv) * jv)) - (((3 : Int) * (jv * jv)) * ((2 ^ 3 : Nat) : Int))) + ((1 : Int) * ((2 ^ 9 : Nat) : Int))) * vP6) 498216206336 d51 := by rw [← hd51]; exact OwnF.Fr.dmul fr18 fP6 (by decide)
  refine G1 (fun _ k => XS.dmulS X49.here hx rfl (hb hby d5_265) rfl (by rw [hd51]; exact own_nn fr51) hd51 k) ?_
  show Goes _ _ _ _ _ _ _ (T49.setTop (mkF m 266 #[.val (.ref x0), nD tm, nS, .val (.ref x2), nD d5, nS, .val (.int (1 : Int32)), nD d11, nS, nD d13, nS, nD d14, nS, nD d18, nS, nD d21, nS, nD d24, nS, nD d25, nS, nD d28, nS, nD d32, nS, nD d35, nS, nD d38, nS, .val (.int (6 : Int32)), .val (.int (12 : Int32)), .val (.int (0 : Int32)), nD ve6, nS, nD d44, nS, nD ve12, nS, nD d50, nS] [(.double d51), (.int (0 : Int32)), (.ref x2)]))
  refine G1 (fun _ k => XS.dload X49.here hx rfl (hb hby d5_266) rfl k) ?_
  refine G1 (fun _ k => XS.dload X49.here hx rfl (hb hby d5_268) rfl k) ?_
  obtain ⟨d52, hd52⟩ : ∃ z, FP.dmul d21 d44 = z := ⟨_, rfl⟩
  have fr52 : OwnF.Fr 9 (((((jv * jv) * jv) - (((2 : Int) * (jv * jv)) * ((2 ^ 3 : Nat) : Int))) + (jv * ((2 ^ 6 : Nat) : Int))) * (vP9 * si)) 309237645312 d52 := by rw [← hd52]; exact OwnF.Fr.dmul fr21 fr44 (by decide)
  refine G1 (fun _ k => XS.dmulS X49.here hx rfl (hb hby d5_270) rfl (by rw [hd52]; exact own_nn fr52) hd52 k) ?_
  show Goes _ _ _ _ _ _ _ (T49.setTop (mkF m 271 _ [(.double d52), (.double d51), (.int (0 : Int32)), (.ref x2)]))
  obtain ⟨d53, hd53⟩ : ∃ z, FP.dadd d51 d52 = z := ⟨_, rfl⟩
  have fr53 : OwnF.Fr 9 ((((((2 : Int) * ((jv * jv) * jv)) - (((3 : Int) * (jv * jv)) * ((2 ^ 3 : Nat) : Int))) + ((1 : Int) * ((2 ^ 9 : Nat) : Int))) * vP6) + (((((jv * jv) * jv) - (((2 : Int) * (jv * jv)) * ((2 ^ 3 : Nat) : Int))) + (jv * ((2 ^ 6 : Nat) : Int))) * (vP9 * si))) 807453851648 d53 := by rw [← hd53]; exact OwnF.Fr.dadd fr51 fr52 (by decide)
  refine G1 (fun _ k => XS.daddS X49.here hx rfl (hb hby d5_271) rfl (by rw [hd53]; exact own_nn fr53) hd53 k) ?_
  show Goes _ _ _ _ _ _ _ (T49.setTop (mkF m 272 #[.val (.ref x0), nD tm, nS, .val (.ref x2), nD d5, nS, .val (.int (1 : Int32)), nD d11, nS, nD d13, nS, nD d14, nS, nD d18, nS, nD d21, nS, nD d24, nS, nD d25, nS, nD d28, nS, nD d32, nS, nD d35, nS, nD d38, nS, .val (.int (6 : Int32)), .val (.int (12 : Int32)), .val (.int (0 : Int32)), nD ve6, nS, nD d44, nS, nD ve12, nS, nD d50, nS] [(.double d53), (.int (0 : Int32)), (.ref x2)]))
  refine G1 (fun _ k => XS.dload X49.here hx rfl (hb hby d5_272) rfl k) ?_
  refine G1 (fun _ k => XS.dload X49.here hx rfl (hb hby d5_274) rfl k) ?_
  obtain ⟨d54, hd54⟩ : ∃ z, FP.dmul d24 ve12 = z := ⟨_, rfl⟩
  have fr54 : OwnF.Fr 9 ((((-2 : Int) * ((jv * jv) * jv)) + (((3 : Int) * (jv * jv)) * ((2 ^ 3 : Nat) : Int))) * vP12) 481036337152 d54 := by rw [← hd54]; exact OwnF.Fr.dmul fr24 fP12 (by decide)
  refine G1 (fun _ k => XS.dmulS X49.here hx rfl (hb hby d5_276) rfl (by rw [hd54]; exact own_nn fr54) hd54 k) ?_
  show Goes _ _ _ _ _ _ _ (T49.setTop (mkF m 277 _ [(.double d54), (.double d53), (.int (0 : Int32)), (.ref x2)]))
  obtain ⟨d55, hd55⟩ : ∃ z, FP.dadd d53 d54 = z := ⟨_, rfl⟩
  have fr55 : OwnF.Fr 9 (((((((2 : Int) * ((jv * jv) * jv)) - (((3 : Int) * (jv * jv)) * ((2 ^ 3 : Nat) : Int))) + ((1 : Int) * ((2 ^ 9 : Nat) : Int))) * vP6) + (((((jv * jv) * jv) - (((2 : Int) * (jv * jv)) * ((2 ^ 3 : Nat) : Int))) + (jv * ((2 ^ 6 : Nat) : Int))) * (vP9 * si))) + ((((-2 : Int) * ((jv * jv) * jv)) + (((3 : Int) * (jv * jv)) * ((2 ^ 3 : Nat) : Int))) * vP12)) 1288490188800 d55 := by rw [← hd55]; exact OwnF.Fr.dadd fr53 fr54 (by decide)
  refine G1 (fun _ k => XS.daddS X49.here hx rfl (hb hby d5_277) rfl (by rw [hd55]; exact own_nn fr55) hd55 k) ?_
  show Goes _ _ _ _ _ _ _ (T49.setTop (mkF m 278 #[.val (.ref x0), nD tm, nS, .val (.ref x2), nD d5, nS, .val (.int (1 : Int32)), nD d11, nS, nD d13, nS, nD d14, nS, nD d18, nS, nD d21, nS, nD d24, nS, nD d25, nS, nD d28, nS, nD d32, nS, nD d35, nS, nD d38, nS, .val (.int (6 : Int32)), .val (.int (12 : Int32)), .val (.int (0 : Int32)), nD ve6, nS, nD d44, nS, nD ve12, nS, nD d50, nS] [(.double d55), (.int (0 : Int32)), (.ref x2)]))
  refine G1 (fun _ k => XS.dload X49.here hx rfl (hb hby d5_278) rfl k) ?_
  refine G1 (fun _ k => XS.dload X49.here hx rfl (hb hby d5_280) rfl k) ?_
  obtain ⟨d56, hd56⟩ : ∃ z, FP.dmul d25 d50 = z := ⟨_, rfl⟩
  have fr56 : OwnF.Fr 9 ((((jv * jv) * jv) - ((jv * jv) * ((2 ^ 3 : Nat) : Int))) * (vP15 * si)) 206158430208 d56 := by rw [← hd56]; exact OwnF.Fr.dmul fr25 fr50 (by decide)
  refine G1 (fun _ k => XS.dmulS X49.here hx rfl (hb hby d5_282) rfl (by rw [hd56]; exact own_nn fr56) hd56 k) ?_
  show Goes _ _ _ _ _ _ _ (T49.setTop (mkF m 283 _ [(.double d56), (.double d55), (.int (0 : Int32)), (.ref x2)]))
  obtain ⟨d57, hd57⟩ : ∃ z, FP.dadd d55 d56 = z := ⟨_, rfl⟩
  have fr57 : OwnF.Fr 9 ((((((((2 : Int) * ((jv * jv) * jv)) - (((3 : Int) * (jv * jv)) * ((2 ^ 3 : Nat) : Int))) + ((1 : Int) * ((2 ^ 9 : Nat) : Int))) * vP6) + (((((jv * jv) * jv) - (((2 : Int) * (jv * jv)) * ((2 ^ 3 : Nat) : Int))) + (jv * ((2 ^ 6 : Nat) : Int))) * (vP9 * si))) + ((((-2 : Int) * ((jv * jv) * jv)) + (((3 : Int) * (jv * jv)) * ((2 ^ 3 : Nat) : Int))) * vP12)) + ((((jv * jv) * jv) - ((jv * jv) * ((2 ^ 3 : Nat) : Int))) * (vP15 * si))) 1494648619008 d57 := by rw [← hd57]; exact OwnF.Fr.dadd fr55 fr56 (by decide)
  refine G1 (fun _ k => XS.daddS X49.here hx rfl (hb hby d5_283) rfl (by rw [hd57]; exact own_nn fr57) hd57 k) ?_
  show Goes _ _ _ _ _ _ _ (T49.setTop (mkF m 284 #[.val (.ref x0), nD tm, nS, .val (.ref x2), nD d5, nS, .val (.int (1 : Int32)), nD d11, nS, nD d13, nS, nD d14, nS, nD d18, nS, nD d21, nS, nD d24, nS, nD d25, nS, nD d28, nS, nD d32, nS, nD d35, nS, nD d38, nS, .val (.int (6 : Int32)), .val (.int (12 : Int32)), .val (.int (0 : Int32)), nD ve6, nS, nD d44, nS, nD ve12, nS, nD d50, nS] [(.double d57), (.int (0 : Int32)), (.ref x2)]))
  obtain ⟨cl58, Ar58, q58, S58, P58, H58, G58⟩ := id V_x2
  have hin58 : ¬ ((0 : Int32) < 0 ∨ cl58.slots.size ≤ ((0 : Int32)).toNatClampNeg) := inb_of S58 ⟨by decide, by decide⟩
  obtain ⟨T59, h59, X59, e59, W59, st59⟩ := stD X49 hx hZ e49 Ar58 (j := (0 : Int32)) hin58 (g := (mkF m 284 #[.val (.ref x0), nD tm, nS, .val (.ref x2), nD d5, nS, .val (.int (1 : Int32)), nD d11, nS, nD d13, nS, nD d14, nS, nD d18, nS, nD d21, nS, nD d24, nS, nD d25, nS, nD d28, nS, nD d32, nS, nD d35, nS, nD d38, nS, .val (.int (6 : Int32)), .val (.int (12 : Int32)), .val (.int (0 : Int32)), nD ve6, nS, nD d44, nS, nD ve12, nS, nD d50, nS] [(.double d57), (.int (0 : Int32)), (.ref x2)])) rfl rfl (hb hby d5_284)
  refine G1 st59 ?_
  have V59 := Arv.set Ar58 q58 S58 P58 H58 G58 rfl W59 0 rfl (Nat.le_of_ble_eq_true rfl)
  have f60 := F_step.other W59 (Or.inl ne1)
  have f61 := F_sam.other W59 (Or.inl ne1)
  have f62 := F_size.other W59 (Or.inl ne1)
  have f63 := V_sa.other W59 ne2
  have f64 := V59
  have K65 : Keep h0 h59 [x2] := K0.wr W59 (Or.inl (List.mem_of_getElem? (i := 0) rfl))
  have Z65 : n0 ≤ h59.size := by rw [Wr.size W59]; exact Z0
  have N65 := Fr.snoc X59 NA10 g_x2
  show Goes _ _ _ _ _ _ _ (T59.setTop (mkF m 285 _ []))
  refine G1 (fun _ k => XS.aloadN X59.here hx rfl (hb hby d5_285) rfl rfl k) ?_
  refine G1 (fun _ k => XS.iconst X59.here hx rfl (hb hby d5_286) k) ?_
  refine G1 (fun _ k => XS.iload X59.here hx rfl (hb hby d5_287) rfl  k) ?_
  refine G1 (fun _ k => XS.iadd X59.here hx rfl (hb hby d5_289) rfl k) ?_
  show Goes _ _ _ _ _ _ _ (T59.setTop (mkF m 290 #[.val (.ref x0), nD tm, nS, .val (.ref x2), nD d5, nS, .val (.int (1 : Int32)), nD d11, nS, nD d13, nS, nD d14, nS, nD d18, nS, nD d21, nS, nD d24, nS, nD d25, nS, nD d28, nS, nD d32, nS, nD d35, nS, nD d38, nS, .val (.int (6 : Int32)), .val (.int (12 : Int32)), .val (.int (0 : Int32)), nD ve6, nS, nD d44, nS, nD ve12, nS, nD d50, nS] [(.int (3 : Int32)), (.ref x2)]))
  refine G1 (fun _ k => XS.dload X59.here hx rfl (hb hby d5_290) rfl k) ?_
  refine G1 (fun _ k => XS.dload X59.here hx rfl (hb hby d5_292) rfl k) ?_
  obtain ⟨d66, hd66⟩ : ∃ z, FP.dmul d28 ve6 = z := ⟨_, rfl⟩
  have fr66 : OwnF.Fr 6 ((((6 : Int) * (jv * jv)) - (((6 : Int) * jv) * ((2 ^ 3 : Nat) : Int))) * vP6) 77309411328 d66 := by rw [← hd66]; exact OwnF.Fr.dmul fr28 fP6 (by decide)
  refine G1 (fun _ k => XS.dmulS X59.here hx rfl (hb hby d5_294) rfl (by rw [hd66]; exact own_nn fr66) hd66 k) ?_
  show Goes _ _ _ _ _ _ _ (T59.setTop (mkF m 295 _ [(.double d66), (.int (3 : Int32)), (.ref x2)]))
  refine G1 (fun _ k => XS.dload X59.here hx rfl (hb hby d5_295) rfl k) ?_
  refine G1 (fun _ k => XS.dload X59.here hx rfl (hb hby d5_297) rfl k) ?_
  obtain ⟨d67, hd67⟩ : ∃ z, FP.dmul d32 d44 = z := ⟨_, rfl⟩
  have fr67 : OwnF.Fr 6 (((((3 : Int) * (jv * jv)) - (((4 : Int) * jv) * ((2 ^ 3 : Nat) : Int))) + ((1 : Int) * ((2 ^ 6 : Nat) : Int))) * (vP9 * si)) 45097156608 d67 := by rw [← hd67]; exact OwnF.Fr.dmul fr32 fr44 (by decide)
  refine G1 (fun _ k => XS.dmulS X59.here hx rfl (hb hby d5_299) rfl (by rw [hd67]; exact own_nn fr67) hd67 k) ?_
  show Goes _ _ _ _ _ _ _ (T59.setTop (mkF m 300 #[.val (.ref x0), nD tm, nS, .val (.ref x2), nD d5, nS, .val (.int (1 : Int32)), nD d11, nS, nD d13, nS, nD d14, nS, nD d18, nS, nD d21, nS, nD d24, nS, nD d25, nS, nD d28, nS, nD d32, nS, nD d35, nS, nD d38, nS, .val (.int (6 : Int32)), .val (.int (12 : Int32)), .val (.int (0 : Int32)), nD ve6, nS, nD d44, nS, nD ve12, nS, nD d50, nS] [(.double d67), (.double d66), (.int (3 : Int32)), (.ref x2)]))
  obtain ⟨d68, hd68⟩ : ∃ z, FP.dadd d66 d67 = z := ⟨_, rfl⟩
  have fr68 : OwnF.Fr 6 (((((6 : Int) * (jv * jv)) - (((6 : Int) * jv) * ((2 ^ 3 : Nat) : Int))) * vP6) + (((((3 : Int) * (jv * jv)) - (((4 : Int) * jv) * ((2 ^ 3 : Nat) : Int))) + ((1 : Int) * ((2 ^ 6 : Nat) : Int))) * (vP9 * si))) 122406567936 d68 := by rw [← hd68]; exact OwnF.Fr.dadd fr66 fr67 (by decide)
  refine G1 (fun _ k => XS.daddS X59.here hx rfl (hb hby d5_300) rfl (by rw [hd68]; exact own_nn fr68) hd68 k) ?_
  show Goes _ _ _ _ _ _ _ (T59.setTop (mkF m 301 _ [(.double d68), (.int (3 : Int32)), (.ref x2)]))
  refine G1 (fun _ k => XS.dload X59.here hx rfl (hb hby d5_301) rfl k) ?_
  refine G1 (fun _ k => XS.dload X59.here hx rfl (hb hby d5_303) rfl k) ?_
  obtain ⟨d69, hd69⟩ : ∃ z, FP.dmul d35 ve12 = z := ⟨_, rfl⟩
  have fr69 : OwnF.Fr 6 ((((-6 : Int) * (jv * jv)) + (((6 : Int) * jv) * ((2 ^ 3 : Nat) : Int))) * vP12) 77309411328 d69 := by rw [← hd69]; exact OwnF.Fr.dmul fr35 fP12 (by decide)
  refine G1 (fun _ k => XS.dmulS X59.here hx rfl (hb hby d5_305) rfl (by rw [hd69]; exact own_nn fr69) hd69 k) ?_
  show Goes _ _ _ _ _ _ _ (T59.setTop (mkF m 306 #[.val (.ref x0), nD tm, nS, .val (.ref x2), nD d5, nS, .val (.int (1 : Int32)), nD d11, nS, nD d13, nS, nD d14, nS, nD d18, nS, nD d21, nS, nD d24, nS, nD d25, nS, nD d28, nS, nD d32, nS, nD d35, nS, nD d38, nS, .val (.int (6 : Int32)), .val (.int (12 : Int32)), .val (.int (0 : Int32)), nD ve6, nS, nD d44, nS, nD ve12, nS, nD d50, nS] [(.double d69), (.double d68), (.int (3 : Int32)), (.ref x2)]))
  obtain ⟨d70, hd70⟩ : ∃ z, FP.dadd d68 d69 = z := ⟨_, rfl⟩
  have fr70 : OwnF.Fr 6 ((((((6 : Int) * (jv * jv)) - (((6 : Int) * jv) * ((2 ^ 3 : Nat) : Int))) * vP6) + (((((3 : Int) * (jv * jv)) - (((4 : Int) * jv) * ((2 ^ 3 : Nat) : Int))) + ((1 : Int) * ((2 ^ 6 : Nat) : Int))) * (vP9 * si))) + ((((-6 : Int) * (jv * jv)) + (((6 : Int) * jv) * ((2 ^ 3 : Nat) : Int))) * vP12)) 199715979264 d70 := by rw [← hd70]; exact OwnF.Fr.dadd fr68 fr69 (by decide)
  refine G1 (fun _ k => XS.daddS X59.here hx rfl (hb hby d5_306) rfl (by rw [hd70]; exact own_nn fr70) hd70 k) ?_
  show Goes _ _ _ _ _ _ _ (T59.setTop (mkF m 307 _ [(.double d70), (.int (3 : Int32)), (.ref x2)]))
  refine G1 (fun _ k => XS.dload X59.here hx rfl (hb hby d5_307) rfl k) ?_
  refine G1 (fun _ k => XS.dload X59.here hx rfl (hb hby d5_309) rfl k) ?_
  obtain ⟨d71, hd71⟩ : ∃ z, FP.dmul d38 d50 = z := ⟨_, rfl⟩
  have fr71 : OwnF.Fr 6 ((((3 : Int) * (jv * jv)) - (((2 : Int) * jv) * ((2 ^ 3 : Nat) : Int))) * (vP15 * si)) 34359738368 d71 := by rw [← hd71]; exact OwnF.Fr.dmul fr38 fr50 (by decide)
  refine G1 (fun _ k => XS.dmulS X59.here hx rfl (hb hby d5_311) rfl (by rw [hd71]; exact own_nn fr71) hd71 k) ?_
  show Goes _ _ _ _ _ _ _ (T59.setTop (mkF m 312 #[.val (.ref x0), nD tm, nS, .val (.ref x2), nD d5, nS, .val (.int (1 : Int32)), nD d11, nS, nD d13, nS, nD d14, nS, nD d18, nS, nD d21, nS, nD d24, nS, nD d25, nS, nD d28, nS, nD d32, nS, nD d35, nS, nD d38, nS, .val (.int (6 : Int32)), .val (.int (12 : Int32)), .val (.int (0 : Int32)), nD ve6, nS, nD d44, nS, nD ve12, nS, nD d50, nS] [(.double d71), (.double d70), (.int (3 : Int32)), (.ref x2)]))
  obtain ⟨d72, hd72⟩ : ∃ z, FP.dadd d70 d71 = z := ⟨_, rfl⟩
  have fr72 : OwnF.Fr 6 (((((((6 : Int) * (jv * jv)) - (((6 : Int) * jv) * ((2 ^ 3 : Nat) : Int))) * vP6) + (((((3 : Int) * (jv * jv)) - (((4 : Int) * jv) * ((2 ^ 3 : Nat) : Int))) + ((1 : Int) * ((2 ^ 6 : Nat) : Int))) * (vP9 * si))) + ((((-6 : Int) * (jv * jv)) + (((6 : Int) * jv) * ((2 ^ 3 : Nat) : Int))) * vP12)) + ((((3 : Int) * (jv * jv)) - (((2 : Int) * jv) * ((2 ^ 3 : Nat) : Int))) * (vP15 * si))) 234075717632 d72 := by rw [← hd72]; exact OwnF.Fr.dadd fr70 fr71 (by decide)
  refine G1 (fun _ k => XS.daddS X59.here hx rfl (hb hby d5_312) rfl (by rw [hd72]; exact own_nn fr72) hd72 k) ?_
  show Goes _ _ _ _ _ _ _ (T59.setTop (mkF m 313 _ [(.double d72), (.int (3 : Int32)), (.ref x2)]))
  refine G1 (fun _ k => XS.aloadN X59.here hx rfl (hb hby d5_313) rfl rfl k) ?_
  obtain ⟨T73, X73, e73, st73⟩ := getF X59 hx hZ hown (host := "") (Or.inl w_22) Via.refl e59 f60 (g := (mkF m 314 #[.val (.ref x0), nD tm, nS, .val (.ref x2), nD d5, nS, .val (.int (1 : Int32)), nD d11, nS, nD d13, nS, nD d14, nS, nD d18, nS, nD d21, nS, nD d24, nS, nD d25, nS, nD d28, nS, nD d32, nS, nD d35, nS, nD d38, nS, .val (.int (6 : Int32)), .val (.int (12 : Int32)), .val (.int (0 : Int32)), nD ve6, nS, nD d44, nS, nD ve12, nS, nD d50, nS] [(.ref x0), (.double d72), (.int (3 : Int32)), (.ref x2)])) rfl rfl (hb hby d5_314)
  refine G1 st73 ?_
  show Goes _ _ _ _ _ _ _ (T73.setTop (mkF m 317 #[.val (.ref x0), nD tm, nS, .val (.ref x2), nD d5, nS, .val (.int (1 : Int32)), nD d11, nS, nD d13, nS, nD d14, nS, nD d18, nS, nD d21, nS, nD d24, nS, nD d25, nS, nD d28, nS, nD d32, nS, nD d35, nS, nD d38, nS, .val (.int (6 : Int32)), .val (.int (12 : Int32)), .val (.int (0 : Int32)), nD ve6, nS, nD d44, nS, nD ve12, nS, nD d50, nS] [(.double stp), (.double d72), (.int (3 : Int32)), (.ref x2)]))
  obtain ⟨d74, hd74⟩ : ∃ z, FP.ddiv d72 stp = z := ⟨_, rfl⟩
  have fr74 : OwnF.Fr 6 ((((((-6 : Int) * (jv * jv)) + (((6 : Int) * jv) * ((2 ^ 3 : Nat) : Int))) * vg0) + (((((3 : Int) * (jv * jv)) - (((4 : Int) * jv) * ((2 ^ 3 : Nat) : Int))) + ((1 : Int) * ((2 ^ 6 : Nat) : Int))) * vP9)) + ((((3 : Int) * (jv * jv)) - (((2 : Int) * jv) * ((2 ^ 3 : Nat) : Int))) * vP15)) 43620761600 d74 := by rw [← hd74]; exact OwnF.Fr.ddiv fr72 fs hs1 (own_vel1_0 hg0) (own_ba (own_ba (own_bm fr35.2 gb0) (own_bm fr32.2 fP9.2)) (own_bm fr38.2 fP15.2)) (by decide)
  refine G1 (fun _ k => XS.ddivS X73.here hx rfl (hb hby d5_317) rfl (by rw [hd74]; exact own_nn fr74) hd74 k) ?_
  show Goes _ _ _ _ _ _ _ (T73.setTop (mkF m 318 _ [(.double d74), (.int (3 : Int32)), (.ref x2)]))
  obtain ⟨cl75, Ar75, q75, S75, P75, H75, G75⟩ := id f64
  have hin75 : ¬ ((3 : Int32) < 0 ∨ cl75.slots.size ≤ ((3 : Int32)).toNatClampNeg) := inb_of S75 ⟨by decide, by decide⟩
  obtain ⟨T76, h76, X76, e76, W76, st76⟩ := stD X73 hx hZ e73 Ar75 (j := (3 : Int32)) hin75 (g := (mkF m 318 #[.val (.ref x0), nD tm, nS, .val (.ref x2), nD d5, nS, .val (.int (1 : Int32)), nD d11, nS, nD d13, nS, nD d14, nS, nD d18, nS, nD d21, nS, nD d24, nS, nD d25, nS, nD d28, nS, nD d32, nS, nD d35, nS, nD d38, nS, .val (.int (6 : Int32)), .val (.int (12 : Int32)), .val (.int (0 : Int32)), nD ve6, nS, nD d44, nS, nD ve12, nS, nD d50, nS] [(.double d74), (.int (3 : Int32)), (.ref x2)])) rfl rfl (hb hby d5_318)
  refine G1 st76 ?_
  have V76 := Arv.set Ar75 q75 S75 P75 H75 G75 rfl W76 3 rfl (Nat.le_of_ble_eq_true rfl)
  have f77 := f60.other W76 (Or.inl ne1)
  have f78 := f61.other W76 (Or.inl ne1)
  have f79 := f62.other W76 (Or.inl ne1)
  have f80 := f63.other W76 ne2
  have f81 := V76
  have K82 : Keep h0 h76 [x2] := K65.wr W76 (Or.inl (List.mem_of_getElem? (i := 0) rfl))
  have Z82 : n0 ≤ h76.size := by rw [Wr.size W76]; exact Z65
  have N82 := Fr.snoc X76 N65 g_x2
  show Goes _ _ _ _ _ _ _ (T76.setTop (mkF m 319 #[.val (.ref x0), nD tm, nS, .val (.ref x2), nD d5, nS, .val (.int (1 : Int32)), nD d11, nS, nD d13, nS, nD d14, nS, nD d18, nS, nD d21, nS, nD d24, nS, nD d25, nS, nD d28, nS, nD d32, nS, nD d35, nS, nD d38, nS, .val (.int (6 : Int32)), .val (.int (12 : Int32)), .val (.int (0 : Int32)), nD ve6, nS, nD d44, nS, nD ve12, nS, nD d50, nS] []))
  refine G1 (fun _ k => XS.iinc X76.here hx rfl (hb hby d5_319) rfl (l' := #[.val (.ref x0), nD tm, nS, .val (.ref x2), nD d5, nS, .val (.int (1 : Int32)), nD d11, nS, nD d13, nS, nD d14, nS, nD d18, nS, nD d21, nS, nD d24, nS, nD d25, nS, nD d28, nS, nD d32, nS, nD d35, nS, nD d38, nS, .val (.int (6 : Int32)), .val (.int (12 : Int32)), .val (.int (1 : Int32)), nD ve6, nS, nD d44, nS, nD ve12, nS, nD d50, nS]) rfl k) ?_
  show Goes _ _ _ _ _ _ _ (T76.setTop (mkF m 322 _ []))
  refine G1 (fun _ k => XS.goto X76.here hx rfl (pc0 := 322) (pc' := 190) rfl (hb hby d5_322) (by decide) (by decide) k) ?_
  show Goes _ _ _ _ _ _ _ (T76.setTop (mkF m 190 #[.val (.ref x0), nD tm, nS, .val (.ref x2), nD d5, nS, .val (.int (1 : Int32)), nD d11, nS, nD d13, nS, nD d14, nS, nD d18, nS, nD d21, nS, nD d24, nS, nD d25, nS, nD d28, nS, nD d32, nS, nD d35, nS, nD d38, nS, .val (.int (6 : Int32)), .val (.int (12 : Int32)), .val (.int (1 : Int32)), nD ve6, nS, nD d44, nS, nD ve12, nS, nD d50, nS] []))
  refine G1 (fun _ k => XS.iload X76.here hx rfl (hb hby d5_190) rfl  k) ?_
  refine G1 (fun _ k => XS.iconst X76.here hx rfl (hb hby d5_192) k) ?_
  refine G1 (fun _ k => XS.icmpNo X76.here hx rfl (hb hby d5_193) rfl (tlt (by decide : (1 : Int32) < (3 : Int32))).2.1 k) ?_
  show Goes _ _ _ _ _ _ _ (T76.setTop (mkF m 196 _ []))
  refine G1 (fun _ k => XS.aloadN X76.here hx rfl (hb hby d5_196) rfl rfl k) ?_
  obtain ⟨T83, X83, e83, st83⟩ := getF X76 hx hZ hown (host := "") (Or.inl w_24) Via.refl e76 f78 (g := (mkF m 197 #[.val (.ref x0), nD tm, nS, .val (.ref x2), nD d5, nS, .val (.int (1 : Int32)), nD d11, nS, nD d13, nS, nD d14, nS, nD d18, nS, nD d21, nS, nD d24, nS, nD d25, nS, nD d28, nS, nD d32, nS, nD d35, nS, nD d38, nS, .val (.int (6 : Int32)), .val (.int (12 : Int32)), .val (.int (1 : Int32)), nD ve6, nS, nD d44, nS, nD ve12, nS, nD d50, nS] [(.ref x0)])) rfl rfl (hb hby d5_197)
  refine G1 st83 ?_
  show Goes _ _ _ _ _ _ _ (T83.setTop (mkF m 200 #[.val (.ref x0), nD tm, nS, .val (.ref x2), nD d5, nS, .val (.int (1 : Int32)), nD d11, nS, nD d13, nS, nD d14, nS, nD d18, nS, nD d21, nS, nD d24, nS, nD d25, nS, nD d28, nS, nD d32, nS, nD d35, nS, nD d38, nS, .val (.int (6 : Int32)), .val (.int (12 : Int32)), .val (.int (1 : Int32)), nD ve6, nS, nD d44, nS, nD ve12, nS, nD d50, nS] [(.ref sa)]))
  refine G1 (fun _ k => XS.iload X83.here hx rfl (hb hby d5_200) rfl  k) ?_
  refine G1 (fun _ k => XS.iload X83.here hx rfl (hb hby d5_202) rfl  k) ?_
  refine G1 (fun _ k => XS.iadd X83.here hx rfl (hb hby d5_204) rfl k) ?_
  show Goes _ _ _ _ _ _ _ (T83.setTop (mkF m 205 _ [(.int (7 : Int32)), (.ref sa)]))
  obtain ⟨cl84, Ar84, q84, S84, P84, H84, G84⟩ := id f80
  have hin84 : ¬ ((7 : Int32) < 0 ∨ cl84.slots.size ≤ ((7 : Int32)).toNatClampNeg) := inb_of S84 ⟨by decide, by decide⟩
  have hat84 : cl84.slots[((7 : Int32)).toNatClampNeg]? = some (.double ve7) := H84 _ (by rw [S84]; decide)
  refine G1 (fun _ k => X83.daload hx (j := (7 : Int32)) (v := (.double ve7)) (by rw [e83]; exact Ar84.1) (State.isArrayOf_alike hZ.alike Ar84.2.1) Ar84.2.2 hin84 hat84 (g := (mkF m 205 #[.val (.ref x0), nD tm, nS, .val (.ref x2), nD d5, nS, .val (.int (1 : Int32)), nD d11, nS, nD d13, nS, nD d14, nS, nD d18, nS, nD d21, nS, nD d24, nS, nD d25, nS, nD d28, nS, nD d32, nS, nD d35, nS, nD d38, nS, .val (.int (6 : Int32)), .val (.int (12 : Int32)), .val (.int (1 : Int32)), nD ve6, nS, nD d44, nS, nD ve12, nS, nD d50, nS] [(.int (7 : Int32)), (.ref sa)])) rfl rfl (hb hby d5_205) _ k) ?_
  show Goes _ _ _ _ _ _ _ (T83.setTop (mkF m 206 #[.val (.ref x0), nD tm, nS, .val (.ref x2), nD d5, nS, .val (.int (1 : Int32)), nD d11, nS, nD d13, nS, nD d14, nS, nD d18, nS, nD d21, nS, nD d24, nS, nD d25, nS, nD d28, nS, nD d32, nS, nD d35, nS, nD d38, nS, .val (.int (6 : Int32)), .val (.int (12 : Int32)), .val (.int (1 : Int32)), nD ve6, nS, nD d44, nS, nD ve12, nS, nD d50, nS] [(.double ve7)]))
  refine G1 (fun _ k => XS.dstore X83.here hx rfl (hb hby d5_206) rfl (l' := #[.val (.ref x0), nD tm, nS, .val (.ref x2), nD d5, nS, .val (.int (1 : Int32)), nD d11, nS, nD d13, nS, nD d14, nS, nD d18, nS, nD d21, nS, nD d24, nS, nD d25, nS, nD d28, nS, nD d32, nS, nD d35, nS, nD d38, nS, .val (.int (6 : Int32)), .val (.int (12 : Int32)), .val (.int (1 : Int32)), nD ve7, nS, nD d44, nS, nD ve12, nS, nD d50, nS]) rfl k) ?_
  show Goes _ _ _ _ _ _ _ (T83.setTop (mkF m 208 _ []))
  refine G1 (fun _ k => XS.aloadN X83.here hx rfl (hb hby d5_208) rfl rfl k) ?_
  obtain ⟨T85, X85, e85, st85⟩ := getF X83 hx hZ hown (host := "") (Or.inl w_24) Via.refl e83 f78 (g := (mkF m 209 #[.val (.ref x0), nD tm, nS, .val (.ref x2), nD d5, nS, .val (.int (1 : Int32)), nD d11, nS, nD d13, nS, nD d14, nS, nD d18, nS, nD d21, nS, nD d24, nS, nD d25, nS, nD d28, nS, nD d32, nS, nD d35, nS, nD d38, nS, .val (.int (6 : Int32)), .val (.int (12 : Int32)), .val (.int (1 : Int32)), nD ve7, nS, nD d44, nS, nD ve12, nS, nD d50, nS] [(.ref x0)])) rfl rfl (hb hby d5_209)
  refine G1 st85 ?_
  show Goes _ _ _ _ _ _ _ (T85.setTop (mkF m 212 #[.val (.ref x0), nD tm, nS, .val (.ref x2), nD d5, nS, .val (.int (1 : Int32)), nD d11, nS, nD d13, nS, nD d14, nS, nD d18, nS, nD d21, nS, nD d24, nS, nD d25, nS, nD d28, nS, nD d32, nS, nD d35, nS, nD d38, nS, .val (.int (6 : Int32)), .val (.int (12 : Int32)), .val (.int (1 : Int32)), nD ve7, nS, nD d44, nS, nD ve12, nS, nD d50, nS] [(.ref sa)]))
  refine G1 (fun _ k => XS.iload X85.here hx rfl (hb hby d5_212) rfl  k) ?_
  refine G1 (fun _ k => XS.iconst X85.here hx rfl (hb hby d5_214) k) ?_
  refine G1 (fun _ k => XS.iadd X85.here hx rfl (hb hby d5_215) rfl k) ?_
  show Goes _ _ _ _ _ _ _ (T85.setTop (mkF m 216 _ [(.int (9 : Int32)), (.ref sa)]))
  refine G1 (fun _ k => XS.iload X85.here hx rfl (hb hby d5_216) rfl  k) ?_
  refine G1 (fun _ k => XS.iadd X85.here hx rfl (hb hby d5_218) rfl k) ?_
  show Goes _ _ _ _ _ _ _ (T85.setTop (mkF m 219 #[.val (.ref x0), nD tm, nS, .val (.ref x2), nD d5, nS, .val (.int (1 : Int32)), nD d11, nS, nD d13, nS, nD d14, nS, nD d18, nS, nD d21, nS, nD d24, nS, nD d25, nS, nD d28, nS, nD d32, nS, nD d35, nS, nD d38, nS, .val (.int (6 : Int32)), .val (.int (12 : Int32)), .val (.int (1 : Int32)), nD ve7, nS, nD d44, nS, nD ve12, nS, nD d50, nS] [(.int (10 : Int32)), (.ref sa)]))
  obtain ⟨cl86, Ar86, q86, S86, P86, H86, G86⟩ := id f80
  have hin86 : ¬ ((10 : Int32) < 0 ∨ cl86.slots.size ≤ ((10 : Int32)).toNatClampNeg) := inb_of S86 ⟨by decide, by decide⟩
  have hat86 : cl86.slots[((10 : Int32)).toNatClampNeg]? = some (.double ve10) := H86 _ (by rw [S86]; decide)
  refine G1 (fun _ k => X85.daload hx (j := (10 : Int32)) (v := (.double ve10)) (by rw [e85]; exact Ar86.1) (State.isArrayOf_alike hZ.alike Ar86.2.1) Ar86.2.2 hin86 hat86 (g := (mkF m 219 #[.val (.ref x0), nD tm, nS, .val (.ref x2), nD d5, nS, .val (.int (1 : Int32)), nD d11, nS, nD d13, nS, nD d14, nS, nD d18, nS, nD d21, nS, nD d24, nS, nD d25, nS, nD d28, nS, nD d32, nS, nD d35, nS, nD d38, nS, .val (.int (6 : Int32)), .val (.int (12 : Int32)), .val (.int (1 : Int32)), nD ve7, nS, nD d44, nS, nD ve12, nS, nD d50, nS] [(.int (10 : Int32)), (.ref sa)])) rfl rfl (hb hby d5_219) _ k) ?_
  show Goes _ _ _ _ _ _ _ (T85.setTop (mkF m 220 _ [(.double ve10)]))
  refine G1 (fun _ k => XS.aloadN X85.here hx rfl (hb hby d5_220) rfl rfl k) ?_
  obtain ⟨T87, X87, e87, st87⟩ := getF X85 hx hZ hown (host := "") (Or.inl w_22) Via.refl e85 f77 (g := (mkF m 221 #[.val (.ref x0), nD tm, nS, .val (.ref x2), nD d5, nS, .val (.int (1 : Int32)), nD d11, nS, nD d13, nS, nD d14, nS, nD d18, nS, nD d21, nS, nD d24, nS, nD d25, nS, nD d28, nS, nD d32, nS, nD d35, nS, nD d38, nS, .val (.int (6 : Int32)), .val (.int (12 : Int32)), .val (.int (1 : Int32)), nD ve7, nS, nD d44, nS, nD ve12, nS, nD d50, nS] [(.ref x0), (.double ve10)])) rfl rfl (hb hby d5_221)
  refine G1 st87 ?_
  show Goes _ _ _ _ _ _ _ (T87.setTop (mkF m 224 #[.val (.ref x0), nD tm, nS, .val (.ref x2), nD d5, nS, .val (.int (1 : Int32)), nD d11, nS, nD d13, nS, nD d14, nS, nD d18, nS, nD d21, nS, nD d24, nS, nD d25, nS, nD d28, nS, nD d32, nS, nD d35, nS, nD d38, nS, .val (.int (6 : Int32)), .val (.int (12 : Int32)), .val (.int (1 : Int32)), nD ve7, nS, nD d44, nS, nD ve12, nS, nD d50, nS] [(.double stp), (.double ve10)]))
  obtain ⟨d88, hd88⟩ : ∃ z, FP.dmul ve10 stp = z := ⟨_, rfl⟩
  have fr88 : OwnF.Fr 0 (vP10 * si) 33554432 d88 := by rw [← hd88]; exact OwnF.Fr.dmul fP10 fs (by decide)
  refine G1 (fun _ k => XS.dmulS X87.here hx rfl (hb hby d5_224) rfl (by rw [hd88]; exact own_nn fr88) hd88 k) ?_
  show Goes _ _ _ _ _ _ _ (T87.setTop (mkF m 225 _ [(.double d88)]))
  refine G1 (fun _ k => XS.dstore X87.here hx rfl (hb hby d5_225) rfl (l' := #[.val (.ref x0), nD tm, nS, .val (.ref x2), nD d5, nS, .val (.int (1 : Int32)), nD d11, nS, nD d13, nS, nD d14, nS, nD d18, nS, nD d21, nS, nD d24, nS, nD d25, nS, nD d28, nS, nD d32, nS, nD d35, nS, nD d38, nS, .val (.int (6 : Int32)), .val (.int (12 : Int32)), .val (.int (1 : Int32)), nD ve7, nS, nD d88, nS, nD ve12, nS, nD d50, nS]) rfl k) ?_
  show Goes _ _ _ _ _ _ _ (T87.setTop (mkF m 227 #[.val (.ref x0), nD tm, nS, .val (.ref x2), nD d5, nS, .val (.int (1 : Int32)), nD d11, nS, nD d13, nS, nD d14, nS, nD d18, nS, nD d21, nS, nD d24, nS, nD d25, nS, nD d28, nS, nD d32, nS, nD d35, nS, nD d38, nS, .val (.int (6 : Int32)), .val (.int (12 : Int32)), .val (.int (1 : Int32)), nD ve7, nS, nD d88, nS, nD ve12, nS, nD d50, nS] []))
  refine G1 (fun _ k => XS.aloadN X87.here hx rfl (hb hby d5_227) rfl rfl k) ?_
  obtain ⟨T89, X89, e89, st89⟩ := getF X87 hx hZ hown (host := "") (Or.inl w_24) Via.refl e87 f78 (g := (mkF m 228 #[.val (.ref x0), nD tm, nS, .val (.ref x2), nD d5, nS, .val (.int (1 : Int32)), nD d11, nS, nD d13, nS, nD d14, nS, nD d18, nS, nD d21, nS, nD d24, nS, nD d25, nS, nD d28, nS, nD d32, nS, nD d35, nS, nD d38, nS, .val (.int (6 : Int32)), .val (.int (12 : Int32)), .val (.int (1 : Int32)), nD ve7, nS, nD d88, nS, nD ve12, nS, nD d50, nS] [(.ref x0)])) rfl rfl (hb hby d5_228)
  refine G1 st89 ?_
  show Goes _ _ _ _ _ _ _ (T89.setTop (mkF m 231 _ [(.ref sa)]))
  refine G1 (fun _ k => XS.iload X89.here hx rfl (hb hby d5_231) rfl  k) ?_
  refine G1 (fun _ k => XS.iload X89.here hx rfl (hb hby d5_233) rfl  k) ?_
  refine G1 (fun _ k => XS.iadd X89.here hx rfl (hb hby d5_235) rfl k) ?_
  show Goes _ _ _ _ _ _ _ (T89.setTop (mkF m 236 #[.val (.ref x0), nD tm, nS, .val (.ref x2), nD d5, nS, .val (.int (1 : Int32)), nD d11, nS, nD d13, nS, nD d14, nS, nD d18, nS, nD d21, nS, nD d24, nS, nD d25, nS, nD d28, nS, nD d32, nS, nD d35, nS, nD d38, nS, .val (.int (6 : Int32)), .val (.int (12 : Int32)), .val (.int (1 : Int32)), nD ve7, nS, nD d88, nS, nD ve12, nS, nD d50, nS] [(.int (13 : Int32)), (.ref sa)]))
  obtain ⟨cl90, Ar90, q90, S90, P90, H90, G90⟩ := id f80
  have hin90 : ¬ ((13 : Int32) < 0 ∨ cl90.slots.size ≤ ((13 : Int32)).toNatClampNeg) := inb_of S90 ⟨by decide, by decide⟩
  have hat90 : cl90.slots[((13 : Int32)).toNatClampNeg]? = some (.double ve13) := H90 _ (by rw [S90]; decide)
  refine G1 (fun _ k => X89.daload hx (j := (13 : Int32)) (v := (.double ve13)) (by rw [e89]; exact Ar90.1) (State.isArrayOf_alike hZ.alike Ar90.2.1) Ar90.2.2 hin90 hat90 (g := (mkF m 236 #[.val (.ref x0), nD tm, nS, .val (.ref x2), nD d5, nS, .val (.int (1 : Int32)), nD d11, nS, nD d13, nS, nD d14, nS, nD d18, nS, nD d21, nS, nD d24, nS, nD d25, nS, nD d28, nS, nD d32, nS, nD d35, nS, nD d38, nS, .val (.int (6 : Int32)), .val (.int (12 : Int32)), .val (.int (1 : Int32)), nD ve7, nS, nD d88, nS, nD ve12, nS, nD d50, nS] [(.int (13 : Int32)), (.ref sa)])) rfl rfl (hb hby d5_236) _ k) ?_
  show Goes _ _ _ _ _ _ _ (T89.setTop (mkF m 237 _ [(.double ve13)]))
  refine G1 (fun _ k => XS.dstore X89.here hx rfl (hb hby d5_237) rfl (l' := #[.val (.ref x0), nD tm, nS, .val (.ref x2), nD d5, nS, .val (.int (1 : Int32)), nD d11, nS, nD d13, nS, nD d14, nS, nD d18, nS, nD d21, nS, nD d24, nS, nD d25, nS, nD d28, nS, nD d32, nS, nD d35, nS, nD d38, nS, .val (.int (6 : Int32)), .val (.int (12 : Int32)), .val (.int (1 : Int32)), nD ve7, nS, nD d88, nS, nD ve13, nS, nD d50, nS]) rfl k) ?_
  show Goes _ _ _ _ _ _ _ (T89.setTop (mkF m 239 #[.val (.ref x0), nD tm, nS, .val (.ref x2), nD d5, nS, .val (.int (1 : Int32)), nD d11, nS, nD d13, nS, nD d14, nS, nD d18, nS, nD d21, nS, nD d24, nS, nD d25, nS, nD d28, nS, nD d32, nS, nD d35, nS, nD d38, nS, .val (.int (6 : Int32)), .val (.int (12 : Int32)), .val (.int (1 : Int32)), nD ve7, nS, nD d88, nS, nD ve13, nS, nD d50, nS] []))
  refine G1 (fun _ k => XS.aloadN X89.here hx rfl (hb hby d5_239) rfl rfl k) ?_
  obtain ⟨T91, X91, e91, st91⟩ := getF X89 hx hZ hown (host := "") (Or.inl w_24) Via.refl e89 f78 (g := (mkF m 240 #[.val (.ref x0), nD tm, nS, .val (.ref x2), nD d5, nS, .val (.int (1 : Int32)), nD d11, nS, nD d13, nS, nD d14, nS, nD d18, nS, nD d21, nS, nD d24, nS, nD d25, nS, nD d28, nS, nD d32, nS, nD d35, nS, nD d38, nS, .val (.int (6 : Int32)), .val (.int (12 : Int32)), .val (.int (1 : Int32)), nD ve7, nS, nD d88, nS, nD ve13, nS, nD d50, nS] [(.ref x0)])) rfl rfl (hb hby d5_240)
  refine G1 st91 ?_
  show Goes _ _ _ _ _ _ _ (T91.setTop (mkF m 243 _ [(.ref sa)]))
  refine G1 (fun _ k => XS.iload X91.here hx rfl (hb hby d5_243) rfl  k) ?_
  refine G1 (fun _ k => XS.iconst X91.here hx rfl (hb hby d5_245) k) ?_
  refine G1 (fun _ k => XS.iadd X91.here hx rfl (hb hby d5_246) rfl k) ?_
  show Goes _ _ _ _ _ _ _ (T91.setTop (mkF m 247 #[.val (.ref x0), nD tm, nS, .val (.ref x2), nD d5, nS, .val (.int (1 : Int32)), nD d11, nS, nD d13, nS, nD d14, nS, nD d18, nS, nD d21, nS, nD d24, nS, nD d25, nS, nD d28, nS, nD d32, nS, nD d35, nS, nD d38, nS, .val (.int (6 : Int32)), .val (.int (12 : Int32)), .val (.int (1 : Int32)), nD ve7, nS, nD d88, nS, nD ve13, nS, nD d50, nS] [(.int (15 : Int32)), (.ref sa)]))
  refine G1 (fun _ k => XS.iload X91.here hx rfl (hb hby d5_247) rfl  k) ?_
  refine G1 (fun _ k => XS.iadd X91.here hx rfl (hb hby d5_249) rfl k) ?_
  show Goes _ _ _ _ _ _ _ (T91.setTop (mkF m 250 _ [(.int (16 : Int32)), (.ref sa)]))
  obtain ⟨cl92, Ar92, q92, S92, P92, H92, G92⟩ := id f80
  have hin92 : ¬ ((16 : Int32) < 0 ∨ cl92.slots.size ≤ ((16 : Int32)).toNatClampNeg) := inb_of S92 ⟨by decide, by decide⟩
  have hat92 : cl92.slots[((16 : Int32)).toNatClampNeg]? = some (.double ve16) := H92 _ (by rw [S92]; decide)
  refine G1 (fun _ k => X91.daload hx (j := (16 : Int32)) (v := (.double ve16)) (by rw [e91]; exact Ar92.1) (State.isArrayOf_alike hZ.alike Ar92.2.1) Ar92.2.2 hin92 hat92 (g := (mkF m 250 #[.val (.ref x0), nD tm, nS, .val (.ref x2), nD d5, nS, .val (.int (1 : Int32)), nD d11, nS, nD d13, nS, nD d14, nS, nD d18, nS, nD d21, nS, nD d24, nS, nD d25, nS, nD d28, nS, nD d32, nS, nD d35, nS, nD d38, nS, .val (.int (6 : Int32)), .val (.int (12 : Int32)), .val (.int (1 : Int32)), nD ve7, nS, nD d88, nS, nD ve13, nS, nD d50, nS] [(.int (16 : Int32)), (.ref sa)])) rfl rfl (hb hby d5_250) _ k) ?_
  show Goes _ _ _ _ _ _ _ (T91.setTop (mkF m 251 #[.val (.ref x0), nD tm, nS, .val (.ref x2), nD d5, nS, .val (.int (1 : Int32)), nD d11, nS, nD d13, nS, nD d14, nS, nD d18, nS, nD d21, nS, nD d24, nS, nD d25, nS, nD d28, nS, nD d32, nS, nD d35, nS, nD d38, nS, .val (.int (6 : Int32)), .val (.int (12 : Int32)), .val (.int (1 : Int32)), nD ve7, nS, nD d88, nS, nD ve13, nS, nD d50, nS] [(.double ve16)]))
  refine G1 (fun _ k => XS.aloadN X91.here hx rfl (hb hby d5_251) rfl rfl k) ?_
  obtain ⟨T93, X93, e93, st93⟩ := getF X91 hx hZ hown (host := "") (Or.inl w_22) Via.refl e91 f77 (g := (mkF m 252 #[.val (.ref x0), nD tm, nS, .val (.ref x2), nD d5, nS, .val (.int (1 : Int32)), nD d11, nS, nD d13, nS, nD d14, nS, nD d18, nS, nD d21, nS, nD d24, nS, nD d25, nS, nD d28, nS, nD d32, nS, nD d35, nS, nD d38, nS, .val (.int (6 : Int32)), .val (.int (12 : Int32)), .val (.int (1 : Int32)), nD ve7, nS, nD d88, nS, nD ve13, nS, nD d50, nS] [(.ref x0), (.double ve16)])) rfl rfl (hb hby d5_252)
  refine G1 st93 ?_
  show Goes _ _ _ _ _ _ _ (T93.setTop (mkF m 255 _ [(.double stp), (.double ve16)]))
  obtain ⟨d94, hd94⟩ : ∃ z, FP.dmul ve16 stp = z := ⟨_, rfl⟩
  have fr94 : OwnF.Fr 0 (vP16 * si) 33554432 d94 := by rw [← hd94]; exact OwnF.Fr.dmul fP16 fs (by decide)
  refine G1 (fun _ k => XS.dmulS X93.here hx rfl (hb hby d5_255) rfl (by rw [hd94]; exact own_nn fr94) hd94 k) ?_
  show Goes _ _ _ _ _ _ _ (T93.setTop (mkF m 256 #[.val (.ref x0), nD tm, nS, .val (.ref x2), nD d5, nS, .val (.int (1 : Int32)), nD d11, nS, nD d13, nS, nD d14, nS, nD d18, nS, nD d21, nS, nD d24, nS, nD d25, nS, nD d28, nS, nD d32, nS, nD d35, nS, nD d38, nS, .val (.int (6 : Int32)), .val (.int (12 : Int32)), .val (.int (1 : Int32)), nD ve7, nS, nD d88, nS, nD ve13, nS, nD d50, nS] [(.double d94)]))
  refine G1 (fun _ k => XS.dstore X93.here hx rfl (hb hby d5_256) rfl (l' := #[.val (.ref x0), nD tm, nS, .val (.ref x2), nD d5, nS, .val (.int (1 : Int32)), nD d11, nS, nD d13, nS, nD d14, nS, nD d18, nS, nD d21, nS, nD d24, nS, nD d25, nS, nD d28, nS, nD d32, nS, nD d35, nS, nD d38, nS, .val (.int (6 : Int32)), .val (.int (12 : Int32)), .val (.int (1 : Int32)), nD ve7, nS, nD d88, nS, nD ve13, nS, nD d94, nS]) rfl k) ?_
  show Goes _ _ _ _ _ _ _ (T93.setTop (mkF m 258 _ []))
  refine G1 (fun _ k => XS.aloadN X93.here hx rfl (hb hby d5_258) rfl rfl k) ?_
  refine G1 (fun _ k => XS.iload X93.here hx rfl (hb hby d5_259) rfl  k) ?_
  refine G1 (fun _ k => XS.dload X93.here hx rfl (hb hby d5_261) rfl k) ?_
  refine G1 (fun _ k => XS.dload X93.here hx rfl (hb hby d5_263) rfl k) ?_
  show Goes _ _ _ _ _ _ _ (T93.setTop (mkF m 265 #[.val (.ref x0), nD tm, nS, .val (.ref x2), nD d5, nS, .val (.int (1 : Int32)), nD d11, nS, nD d13, nS, nD d14, nS, nD d18, nS, nD d21, nS, nD d24, nS, nD d25, nS, nD d28, nS, nD d32, nS, nD d35, nS, nD d38, nS, .val (.int (6 : Int32)), .val (.int (12 : Int32)), .val (.int (1 : Int32)), nD ve7, nS, nD d88, nS, nD ve13, nS, nD d94, nS] [(.double ve7), (.double d18), (.int (1 : Int32)), (.ref x2)]))
  obtain ⟨d95, hd95⟩ : ∃ z, FP.dmul d18 ve7 = z := ⟨_, rfl⟩
  have fr95 : OwnF.Fr 9 (((((2 : Int) * ((jv * jv) * jv)) - (((3 : Int) * (jv * jv)) * ((2 ^ 3 : Nat) : Int))) + ((1 : Int) * ((2 ^ 9 : Nat) : Int))) * vP7) 498216206336 d95 := by rw [← hd95]; exact OwnF.Fr.dmul fr18 fP7 (by decide)
  refine G1 (fun _ k => XS.dmulS X93.here hx rfl (hb hby d5_265) rfl (by rw [hd95]; exact own_nn fr95) hd95 k) ?_
  show Goes _ _ _ _ _ _ _ (T93.setTop (mkF m 266 _ [(.double d95), (.int (1 : Int32)), (.ref x2)]))
  refine G1 (fun _ k => XS.dload X93.here hx rfl (hb hby d5_266) rfl k) ?_
  refine G1 (fun _ k => XS.dload X93.here hx rfl (hb hby d5_268) rfl k) ?_
  obtain ⟨d96, hd96⟩ : ∃ z, FP.dmul d21 d88 = z := ⟨_, rfl⟩
  have fr96 : OwnF.Fr 9 (((((jv * jv) * jv) - (((2 : Int) * (jv * jv)) * ((2 ^ 3 : Nat) : Int))) + (jv * ((2 ^ 6 : Nat) : Int))) * (vP10 * si)) 309237645312 d96 := by rw [← hd96]; exact OwnF.Fr.dmul fr21 fr88 (by decide)
  refine G1 (fun _ k => XS.dmulS X93.here hx rfl (hb hby d5_270) rfl (by rw [hd96]; exact own_nn fr96) hd96 k) ?_
  show Goes _ _ _ _ _ _ _ (T93.setTop (mkF m 271 #[.val (.ref x0), nD tm, nS, .val (.ref x2), nD d5, nS, .val (.int (1 : Int32)), nD d11, nS, nD d13, nS, nD d14, nS, nD d18, nS, nD d21, nS, nD d24, nS, nD d25, nS, nD d28, nS, nD d32, nS, nD d35, nS, nD d38, nS, .val (.int (6 : Int32)), .val (.int (12 : Int32)), .val (.int (1 : Int32)), nD ve7, nS, nD d88, nS, nD ve13, nS, nD d94, nS] [(.double d96), (.double d95), (.int (1 : Int32)), (.ref x2)]))
  obtain ⟨d97, hd97⟩ : ∃ z, FP.dadd d95 d96 = z := ⟨_, rfl⟩
  have fr97 : OwnF.Fr 9 ((((((2 : Int) * ((jv * jv) * jv)) - (((3 : Int) * (jv * jv)) * ((2 ^ 3 : Nat) : Int))) + ((1 : Int) * ((2 ^ 9 : Nat) : Int))) * vP7) + (((((jv * jv) * jv) - (((2 : Int) * (jv * jv)) * ((2 ^ 3 : Nat) : Int))) + (jv * ((2 ^ 6 : Nat) : Int))) * (vP10 * si))) 807453851648 d97 := by rw [← hd97]; exact OwnF.Fr.dadd fr95 fr96 (by decide)
  refine G1 (fun _ k => XS.daddS X93.here hx rfl (hb hby d5_271) rfl (by rw [hd97]; exact own_nn fr97) hd97 k) ?_
  show Goes _ _ _ _ _ _ _ (T93.setTop (mkF m 272 _ [(.double d97), (.int (1 : Int32)), (.ref x2)]))
  refine G1 (fun _ k => XS.dload X93.here hx rfl (hb hby d5_272) rfl k) ?_
  refine G1 (fun _ k => XS.dload X93.here hx rfl (hb hby d5_274) rfl k) ?_
  obtain ⟨d98, hd98⟩ : ∃ z, FP.dmul d24 ve13 = z := ⟨_, rfl⟩
  have fr98 : OwnF.Fr 9 ((((-2 : Int) * ((jv * jv) * jv)) + (((3 : Int) * (jv * jv)) * ((2 ^ 3 : Nat) : Int))) * vP13) 481036337152 d98 := by rw [← hd98]; exact OwnF.Fr.dmul fr24 fP13 (by decide)
  refine G1 (fun _ k => XS.dmulS X93.here hx rfl (hb hby d5_276) rfl (by rw [hd98]; exact own_nn fr98) hd98 k) ?_
  show Goes _ _ _ _ _ _ _ (T93.setTop (mkF m 277 #[.val (.ref x0), nD tm, nS, .val (.ref x2), nD d5, nS, .val (.int (1 : Int32)), nD d11, nS, nD d13, nS, nD d14, nS, nD d18, nS, nD d21, nS, nD d24, nS, nD d25, nS, nD d28, nS, nD d32, nS, nD d35, nS, nD d38, nS, .val (.int (6 : Int32)), .val (.int (12 : Int32)), .val (.int (1 : Int32)), nD ve7, nS, nD d88, nS, nD ve13, nS, nD d94, nS] [(.double d98), (.double d97), (.int (1 : Int32)), (.ref x2)]))
  obtain ⟨d99, hd99⟩ : ∃ z, FP.dadd d97 d98 = z := ⟨_, rfl⟩
  have fr99 : OwnF.Fr 9 (((((((2 : Int) * ((jv * jv) * jv)) - (((3 : Int) * (jv * jv)) * ((2 ^ 3 : Nat) : Int))) + ((1 : Int) * ((2 ^ 9 : Nat) : Int))) * vP7) + (((((jv * jv) * jv) - (((2 : Int) * (jv * jv)) * ((2 ^ 3 : Nat) : Int))) + (jv * ((2 ^ 6 : Nat) : Int))) * (vP10 * si))) + ((((-2 : Int) * ((jv * jv) * jv)) + (((3 : Int) * (jv * jv)) * ((2 ^ 3 : Nat) : Int))) * vP13)) 1288490188800 d99 := by rw [← hd99]; exact OwnF.Fr.dadd fr97 fr98 (by decide)
  refine G1 (fun _ k => XS.daddS X93.here hx rfl (hb hby d5_277) rfl (by rw [hd99]; exact own_nn fr99) hd99 k) ?_
  show Goes _ _ _ _ _ _ _ (T93.setTop (mkF m 278 _ [(.double d99), (.int (1 : Int32)), (.ref x2)]))
  refine G1 (fun _ k => XS.dload X93.here hx rfl (hb hby d5_278) rfl k) ?_
  refine G1 (fun _ k => XS.dload X93.here hx rfl (hb hby d5_280) rfl k) ?_
  obtain ⟨d100, hd100⟩ : ∃ z, FP.dmul d25 d94 = z := ⟨_, rfl⟩
  have fr100 : OwnF.Fr 9 ((((jv * jv) * jv) - ((jv * jv) * ((2 ^ 3 : Nat) : Int))) * (vP16 * si)) 206158430208 d100 := by rw [← hd100]; exact OwnF.Fr.dmul fr25 fr94 (by decide)
  refine G1 (fun _ k => XS.dmulS X93.here hx rfl (hb hby d5_282) rfl (by rw [hd100]; exact own_nn fr100) hd100 k) ?_
  show Goes _ _ _ _ _ _ _ (T93.setTop (mkF m 283 #[.val (.ref x0), nD tm, nS, .val (.ref x2), nD d5, nS, .val (.int (1 : Int32)), nD d11, nS, nD d13, nS, nD d14, nS, nD d18, nS, nD d21, nS, nD d24, nS, nD d25, nS, nD d28, nS, nD d32, nS, nD d35, nS, nD d38, nS, .val (.int (6 : Int32)), .val (.int (12 : Int32)), .val (.int (1 : Int32)), nD ve7, nS, nD d88, nS, nD ve13, nS, nD d94, nS] [(.double d100), (.double d99), (.int (1 : Int32)), (.ref x2)]))
  obtain ⟨d101, hd101⟩ : ∃ z, FP.dadd d99 d100 = z := ⟨_, rfl⟩
  have fr101 : OwnF.Fr 9 ((((((((2 : Int) * ((jv * jv) * jv)) - (((3 : Int) * (jv * jv)) * ((2 ^ 3 : Nat) : Int))) + ((1 : Int) * ((2 ^ 9 : Nat) : Int))) * vP7) + (((((jv * jv) * jv) - (((2 : Int) * (jv * jv)) * ((2 ^ 3 : Nat) : Int))) + (jv * ((2 ^ 6 : Nat) : Int))) * (vP10 * si))) + ((((-2 : Int) * ((jv * jv) * jv)) + (((3 : Int) * (jv * jv)) * ((2 ^ 3 : Nat) : Int))) * vP13)) + ((((jv * jv) * jv) - ((jv * jv) * ((2 ^ 3 : Nat) : Int))) * (vP16 * si))) 1494648619008 d101 := by rw [← hd101]; exact OwnF.Fr.dadd fr99 fr100 (by decide)
  refine G1 (fun _ k => XS.daddS X93.here hx rfl (hb hby d5_283) rfl (by rw [hd101]; exact own_nn fr101) hd101 k) ?_
  show Goes _ _ _ _ _ _ _ (T93.setTop (mkF m 284 _ [(.double d101), (.int (1 : Int32)), (.ref x2)]))
  obtain ⟨cl102, Ar102, q102, S102, P102, H102, G102⟩ := id f81
  have hin102 : ¬ ((1 : Int32) < 0 ∨ cl102.slots.size ≤ ((1 : Int32)).toNatClampNeg) := inb_of S102 ⟨by decide, by decide⟩
  obtain ⟨T103, h103, X103, e103, W103, st103⟩ := stD X93 hx hZ e93 Ar102 (j := (1 : Int32)) hin102 (g := (mkF m 284 #[.val (.ref x0), nD tm, nS, .val (.ref x2), nD d5, nS, .val (.int (1 : Int32)), nD d11, nS, nD d13, nS, nD d14, nS, nD d18, nS, nD d21, nS, nD d24, nS, nD d25, nS, nD d28, nS, nD d32, nS, nD d35, nS, nD d38, nS, .val (.int (6 : Int32)), .val (.int (12 : Int32)), .val (.int (1 : Int32)), nD ve7, nS, nD d88, nS, nD ve13, nS, nD d94, nS] [(.double d101), (.int (1 : Int32)), (.ref x2)])) rfl rfl (hb hby d5_284)
  refine G1 st103 ?_
  have V103 := Arv.set Ar102 q102 S102 P102 H102 G102 rfl W103 1 rfl (Nat.le_of_ble_eq_true rfl)
  have f104 := f77.other W103 (Or.inl ne1)
  have f105 := f78.other W103 (Or.inl ne1)
  have f106 := f79.other W103 (Or.inl ne1)
  have f107 := f80.other W103 ne2
  have f108 := V103
  have K109 : Keep h0 h103 [x2] := K82.wr W103 (Or.inl (List.mem_of_getElem? (i := 0) rfl))
  have Z109 : n0 ≤ h103.size := by rw [Wr.size W103]; exact Z82
  have N109 := Fr.snoc X103 N82 g_x2
  show Goes _ _ _ _ _ _ _ (T103.setTop (mkF m 285 #[.val (.ref x0), nD tm, nS, .val (.ref x2), nD d5, nS, .val (.int (1 : Int32)), nD d11, nS, nD d13, nS, nD d14, nS, nD d18, nS, nD d21, nS, nD d24, nS, nD d25, nS, nD d28, nS, nD d32, nS, nD d35, nS, nD d38, nS, .val (.int (6 : Int32)), .val (.int (12 : Int32)), .val (.int (1 : Int32)), nD ve7, nS, nD d88, nS, nD ve13, nS, nD d94, nS] []))
  refine G1 (fun _ k => XS.aloadN X103.here hx rfl (hb hby d5_285) rfl rfl k) ?_
  refine G1 (fun _ k => XS.iconst X103.here hx rfl (hb hby d5_286) k) ?_
  refine G1 (fun _ k => XS.iload X103.here hx rfl (hb hby d5_287) rfl  k) ?_
  refine G1 (fun _ k => XS.iadd X103.here hx rfl (hb hby d5_289) rfl k) ?_
  show Goes _ _ _ _ _ _ _ (T103.setTop (mkF m 290 _ [(.int (4 : Int32)), (.ref x2)]))
  refine G1 (fun _ k => XS.dload X103.here hx rfl (hb hby d5_290) rfl k) ?_
  refine G1 (fun _ k => XS.dload X103.here hx rfl (hb hby d5_292) rfl k) ?_
  obtain ⟨d110, hd110⟩ : ∃ z, FP.dmul d28 ve7 = z := ⟨_, rfl⟩
  have fr110 : OwnF.Fr 6 ((((6 : Int) * (jv * jv)) - (((6 : Int) * jv) * ((2 ^ 3 : Nat) : Int))) * vP7) 77309411328 d110 := by rw [← hd110]; exact OwnF.Fr.dmul fr28 fP7 (by decide)
  refine G1 (fun _ k => XS.dmulS X103.here hx rfl (hb hby d5_294) rfl (by rw [hd110]; exact own_nn fr110) hd110 k) ?_
  show Goes _ _ _ _ _ _ _ (T103.setTop (mkF m 295 #[.val (.ref x0), nD tm, nS, .val (.ref x2), nD d5, nS, .val (.int (1 : Int32)), nD d11, nS, nD d13, nS, nD d14, nS, nD d18, nS, nD d21, nS, nD d24, nS, nD d25, nS, nD d28, nS, nD d32, nS, nD d35, nS, nD d38, nS, .val (.int (6 : Int32)), .val (.int (12 : Int32)), .val (.int (1 : Int32)), nD ve7, nS, nD d88, nS, nD ve13, nS, nD d94, nS] [(.double d110), (.int (4 : Int32)), (.ref x2)]))
  refine G1 (fun _ k => XS.dload X103.here hx rfl (hb hby d5_295) rfl k) ?_
  refine G1 (fun _ k => XS.dload X103.here hx rfl (hb hby d5_297) rfl k) ?_
  obtain ⟨d111, hd111⟩ : ∃ z, FP.dmul d32 d88 = z := ⟨_, rfl⟩
  have fr111 : OwnF.Fr 6 (((((3 : Int) * (jv * jv)) - (((4 : Int) * jv) * ((2 ^ 3 : Nat) : Int))) + ((1 : Int) * ((2 ^ 6 : Nat) : Int))) * (vP10 * si)) 45097156608 d111 := by rw [← hd111]; exact OwnF.Fr.dmul fr32 fr88 (by decide)
  refine G1 (fun _ k => XS.dmulS X103.here hx rfl (hb hby d5_299) rfl (by rw [hd111]; exact own_nn fr111) hd111 k) ?_
  show Goes _ _ _ _ _ _ _ (T103.setTop (mkF m 300 _ [(.double d111), (.double d110), (.int (4 : Int32)), (.ref x2)]))
  obtain ⟨d112, hd112⟩ : ∃ z, FP.dadd d110 d111 = z := ⟨_, rfl⟩
  have fr112 : OwnF.Fr 6 (((((6 : Int) * (jv * jv)) - (((6 : Int) * jv) * ((2 ^ 3 : Nat) : Int))) * vP7) + (((((3 : Int) * (jv * jv)) - (((4 : Int) * jv) * ((2 ^ 3 : Nat) : Int))) + ((1 : Int) * ((2 ^ 6 : Nat) : Int))) * (vP10 * si))) 122406567936 d112 := by rw [← hd112]; exact OwnF.Fr.dadd fr110 fr111 (by decide)
  refine G1 (fun _ k => XS.daddS X103.here hx rfl (hb hby d5_300) rfl (by rw [hd112]; exact own_nn fr112) hd112 k) ?_
  show Goes _ _ _ _ _ _ _ (T103.setTop (mkF m 301 #[.val (.ref x0), nD tm, nS, .val (.ref x2), nD d5, nS, .val (.int (1 : Int32)), nD d11, nS, nD d13, nS, nD d14, nS, nD d18, nS, nD d21, nS, nD d24, nS, nD d25, nS, nD d28, nS, nD d32, nS, nD d35, nS, nD d38, nS, .val (.int (6 : Int32)), .val (.int (12 : Int32)), .val (.int (1 : Int32)), nD ve7, nS, nD d88, nS, nD ve13, nS, nD d94, nS] [(.double d112), (.int (4 : Int32)), (.ref x2)]))
  refine G1 (fun _ k => XS.dload X103.here hx rfl (hb hby d5_301) rfl k) ?_
  refine G1 (fun _ k => XS.dload X103.here hx rfl (hb hby d5_303) rfl k) ?_
  obtain ⟨d113, hd113⟩ : ∃ z, FP.dmul d35 ve13 = z := ⟨_, rfl⟩
  have fr113 : OwnF.Fr 6 ((((-6 : Int) * (jv * jv)) + (((6 : Int) * jv) * ((2 ^ 3 : Nat) : Int))) * vP13) 77309411328 d113 := by rw [← hd113]; exact OwnF.Fr.dmul fr35 fP13 (by decide)
  refine G1 (fun _ k => XS.dmulS X103.here hx rfl (hb hby d5_305) rfl (by rw [hd113]; exact own_nn fr113) hd113 k) ?_
  show Goes _ _ _ _ _ _ _ (T103.setTop (mkF m 306 _ [(.double d113), (.double d112), (.int (4 : Int32)), (.ref x2)]))
  obtain ⟨d114, hd114⟩ : ∃ z, FP.dadd d112 d113 = z := ⟨_, rfl⟩
  have fr114 : OwnF.Fr 6 ((((((6 : Int) * (jv * jv)) - (((6 : Int) * jv) * ((2 ^ 3 : Nat) : Int))) * vP7) + (((((3 : Int) * (jv * jv)) - (((4 : Int) * jv) * ((2 ^ 3 : Nat) : Int))) + ((1 : Int) * ((2 ^ 6 : Nat) : Int))) * (vP10 * si))) + ((((-6 : Int) * (jv * jv)) + (((6 : Int) * jv) * ((2 ^ 3 : Nat) : Int))) * vP13)) 199715979264 d114 := by rw [← hd114]; exact OwnF.Fr.dadd fr112 fr113 (by decide)
  refine G1 (fun _ k => XS.daddS X103.here hx rfl (hb hby d5_306) rfl (by rw [hd114]; exact own_nn fr114) hd114 k) ?_
  show Goes _ _ _ _ _ _ _ (T103.setTop (mkF m 307 #[.val (.ref x0), nD tm, nS, .val (.ref x2), nD d5, nS, .val (.int (1 : Int32)), nD d11, nS, nD d13, nS, nD d14, nS, nD d18, nS, nD d21, nS, nD d24, nS, nD d25, nS, nD d28, nS, nD d32, nS, nD d35, nS, nD d38, nS, .val (.int (6 : Int32)), .val (.int (12 : Int32)), .val (.int (1 : Int32)), nD ve7, nS, nD d88, nS, nD ve13, nS, nD d94, nS] [(.double d114), (.int (4 : Int32)), (.ref x2)]))
  refine G1 (fun _ k => XS.dload X103.here hx rfl (hb hby d5_307) rfl k) ?_
  refine G1 (fun _ k => XS.dload X103.here hx rfl (hb hby d5_309) rfl k) ?_
  obtain ⟨d115, hd115⟩ : ∃ z, FP.dmul d38 d94 = z := ⟨_, rfl⟩
  have fr115 : OwnF.Fr 6 ((((3 : Int) * (jv * jv)) - (((2 : Int) * jv) * ((2 ^ 3 : Nat) : Int))) * (vP16 * si)) 34359738368 d115 := by rw [← hd115]; exact OwnF.Fr.dmul fr38 fr94 (by decide)
  refine G1 (fun _ k => XS.dmulS X103.here hx rfl (hb hby d5_311) rfl (by rw [hd115]; exact own_nn fr115) hd115 k) ?_
  show Goes _ _ _ _ _ _ _ (T103.setTop (mkF m 312 _ [(.double d115), (.double d114), (.int (4 : Int32)), (.ref x2)]))
  obtain ⟨d116, hd116⟩ : ∃ z, FP.dadd d114 d115 = z := ⟨_, rfl⟩
  have fr116 : OwnF.Fr 6 (((((((6 : Int) * (jv * jv)) - (((6 : Int) * jv) * ((2 ^ 3 : Nat) : Int))) * vP7) + (((((3 : Int) * (jv * jv)) - (((4 : Int) * jv) * ((2 ^ 3 : Nat) : Int))) + ((1 : Int) * ((2 ^ 6 : Nat) : Int))) * (vP10 * si))) + ((((-6 : Int) * (jv * jv)) + (((6 : Int) * jv) * ((2 ^ 3 : Nat) : Int))) * vP13)) + ((((3 : Int) * (jv * jv)) - (((2 : Int) * jv) * ((2 ^ 3 : Nat) : Int))) * (vP16 * si))) 234075717632 d116 := by rw [← hd116]; exact OwnF.Fr.dadd fr114 fr115 (by decide)
  refine G1 (fun _ k => XS.daddS X103.here hx rfl (hb hby d5_312) rfl (by rw [hd116]; exact own_nn fr116) hd116 k) ?_
  show Goes _ _ _ _ _ _ _ (T103.setTop (mkF m 313 #[.val (.ref x0), nD tm, nS, .val (.ref x2), nD d5, nS, .val (.int (1 : Int32)), nD d11, nS, nD d13, nS, nD d14, nS, nD d18, nS, nD d21, nS, nD d24, nS, nD d25, nS, nD d28, nS, nD d32, nS, nD d35, nS, nD d38, nS, .val (.int (6 : Int32)), .val (.int (12 : Int32)), .val (.int (1 : Int32)), nD ve7, nS, nD d88, nS, nD ve13, nS, nD d94, nS] [(.double d116), (.int (4 : Int32)), (.ref x2)]))
  refine G1 (fun _ k => XS.aloadN X103.here hx rfl (hb hby d5_313) rfl rfl k) ?_
  obtain ⟨T117, X117, e117, st117⟩ := getF X103 hx hZ hown (host := "") (Or.inl w_22) Via.refl e103 f104 (g := (mkF m 314 #[.val (.ref x0), nD tm, nS, .val (.ref x2), nD d5, nS, .val (.int (1 : Int32)), nD d11, nS, nD d13, nS, nD d14, nS, nD d18, nS, nD d21, nS, nD d24, nS, nD d25, nS, nD d28, nS, nD d32, nS, nD d35, nS, nD d38, nS, .val (.int (6 : Int32)), .val (.int (12 : Int32)), .val (.int (1 : Int32)), nD ve7, nS, nD d88, nS, nD ve13, nS, nD d94, nS] [(.ref x0), (.double d116), (.int (4 : Int32)), (.ref x2)])) rfl rfl (hb hby d5_314)
  refine G1 st117 ?_
  show Goes _ _ _ _ _ _ _ (T117.setTop (mkF m 317 _ [(.double stp), (.double d116), (.int (4 : Int32)), (.ref x2)]))
  obtain ⟨d118, hd118⟩ : ∃ z, FP.ddiv d116 stp = z := ⟨_, rfl⟩
  have fr118 : OwnF.Fr 6 ((((((-6 : Int) * (jv * jv)) + (((6 : Int) * jv) * ((2 ^ 3 : Nat) : Int))) * vg1) + (((((3 : Int) * (jv * jv)) - (((4 : Int) * jv) * ((2 ^ 3 : Nat) : Int))) + ((1 : Int) * ((2 ^ 6 : Nat) : Int))) * vP10)) + ((((3 : Int) * (jv * jv)) - (((2 : Int) * jv) * ((2 ^ 3 : Nat) : Int))) * vP16)) 43620761600 d118 := by rw [← hd118]; exact OwnF.Fr.ddiv fr116 fs hs1 (own_vel1_1 hg1) (own_ba (own_ba (own_bm fr35.2 gb1) (own_bm fr32.2 fP10.2)) (own_bm fr38.2 fP16.2)) (by decide)
  refine G1 (fun _ k => XS.ddivS X117.here hx rfl (hb hby d5_317) rfl (by rw [hd118]; exact own_nn fr118) hd118 k) ?_
  show Goes _ _ _ _ _ _ _ (T117.setTop (mkF m 318 #[.val (.ref x0), nD tm, nS, .val (.ref x2), nD d5, nS, .val (.int (1 : Int32)), nD d11, nS, nD d13, nS, nD d14, nS, nD d18, nS, nD d21, nS, nD d24, nS, nD d25, nS, nD d28, nS, nD d32, nS, nD d35, nS, nD d38, nS, .val (.int (6 : Int32)), .val (.int (12 : Int32)), .val (.int (1 : Int32)), nD ve7, nS, nD d88, nS, nD ve13, nS, nD d94, nS] [(.double d118), (.int (4 : Int32)), (.ref x2)]))
  obtain ⟨cl119, Ar119, q119, S119, P119, H119, G119⟩ := id f108
  have hin119 : ¬ ((4 : Int32) < 0 ∨ cl119.slots.size ≤ ((4 : Int32)).toNatClampNeg) := inb_of S119 ⟨by decide, by decide⟩
  obtain ⟨T120, h120, X120, e120, W120, st120⟩ := stD X117 hx hZ e117 Ar119 (j := (4 : Int32)) hin119 (g := (mkF m 318 #[.val (.ref x0), nD tm, nS, .val (.ref x2), nD d5, nS, .val (.int (1 : Int32)), nD d11, nS, nD d13, nS, nD d14, nS, nD d18, nS, nD d21, nS, nD d24, nS, nD d25, nS, nD d28, nS, nD d32, nS, nD d35, nS, nD d38, nS, .val (.int (6 : Int32)), .val (.int (12 : Int32)), .val (.int (1 : Int32)), nD ve7, nS, nD d88, nS, nD ve13, nS, nD d94, nS] [(.double d118), (.int (4 : Int32)), (.ref x2)])) rfl rfl (hb hby d5_318)
  refine G1 st120 ?_
  have V120 := Arv.set Ar119 q119 S119 P119 H119 G119 rfl W120 4 rfl (Nat.le_of_ble_eq_true rfl)
  have f121 := f104.other W120 (Or.inl ne1)
  have f122 := f105.other W120 (Or.inl ne1)
  have f123 := f106.other W120 (Or.inl ne1)
  have f124 := f107.other W120 ne2
  have f125 := V120
  have K126 : Keep h0 h120 [x2] := K109.wr W120 (Or.inl (List.mem_of_getElem? (i := 0) rfl))
  have Z126 : n0 ≤ h120.size := by rw [Wr.size W120]; exact Z109
  have N126 := Fr.snoc X120 N109 g_x2
  show Goes _ _ _ _ _ _ _ (T120.setTop (mkF m 319 _ []))
  refine G1 (fun _ k => XS.iinc X120.here hx rfl (hb hby d5_319) rfl (l' := #[.val (.ref x0), nD tm, nS, .val (.ref x2), nD d5, nS, .val (.int (1 : Int32)), nD d11, nS, nD d13, nS, nD d14, nS, nD d18, nS, nD d21, nS, nD d24, nS, nD d25, nS, nD d28, nS, nD d32, nS, nD d35, nS, nD d38, nS, .val (.int (6 : Int32)), .val (.int (12 : Int32)), .val (.int (2 : Int32)), nD ve7, nS, nD d88, nS, nD ve13, nS, nD d94, nS]) rfl k) ?_
  show Goes _ _ _ _ _ _ _ (T120.setTop (mkF m 322 #[.val (.ref x0), nD tm, nS, .val (.ref x2), nD d5, nS, .val (.int (1 : Int32)), nD d11, nS, nD d13, nS, nD d14, nS, nD d18, nS, nD d21, nS, nD d24, nS, nD d25, nS, nD d28, nS, nD d32, nS, nD d35, nS, nD d38, nS, .val (.int (6 : Int32)), .val (.int (12 : Int32)), .val (.int (2 : Int32)), nD ve7, nS, nD d88, nS, nD ve13, nS, nD d94, nS] []))
  refine G1 (fun _ k => XS.goto X120.here hx rfl (pc0 := 322) (pc' := 190) rfl (hb hby d5_322) (by decide) (by decide) k) ?_
  show Goes _ _ _ _ _ _ _ (T120.setTop (mkF m 190 _ []))
  refine G1 (fun _ k => XS.iload X120.here hx rfl (hb hby d5_190) rfl  k) ?_
  refine G1 (fun _ k => XS.iconst X120.here hx rfl (hb hby d5_192) k) ?_
  refine G1 (fun _ k => XS.icmpNo X120.here hx rfl (hb hby d5_193) rfl (tlt (by decide : (2 : Int32) < (3 : Int32))).2.1 k) ?_
  show Goes _ _ _ _ _ _ _ (T120.setTop (mkF m 196 #[.val (.ref x0), nD tm, nS, .val (.ref x2), nD d5, nS, .val (.int (1 : Int32)), nD d11, nS, nD d13, nS, nD d14, nS, nD d18, nS, nD d21, nS, nD d24, nS, nD d25, nS, nD d28, nS, nD d32, nS, nD d35, nS, nD d38, nS, .val (.int (6 : Int32)), .val (.int (12 : Int32)), .val (.int (2 : Int32)), nD ve7, nS, nD d88, nS, nD ve13, nS, nD d94, nS] []))
  refine G1 (fun _ k => XS.aloadN X120.here hx rfl (hb hby d5_196) rfl rfl k) ?_
  obtain ⟨T127, X127, e127, st127⟩ := getF X120 hx hZ hown (host := "") (Or.inl w_24) Via.refl e120 f122 (g := (mkF m 197 #[.val (.ref x0), nD tm, nS, .val (.ref x2), nD d5, nS, .val (.int (1 : Int32)), nD d11, nS, nD d13, nS, nD d14, nS, nD d18, nS, nD d21, nS, nD d24, nS, nD d25, nS, nD d28, nS, nD d32, nS, nD d35, nS, nD d38, nS, .val (.int (6 : Int32)), .val (.int (12 : Int32)), .val (.int (2 : Int32)), nD ve7, nS, nD d88, nS, nD ve13, nS, nD d94, nS] [(.ref x0)])) rfl rfl (hb hby d5_197)
  refine G1 st127 ?_
  show Goes _ _ _ _ _ _ _ (T127.setTop (mkF m 200 _ [(.ref sa)]))
  refine G1 (fun _ k => XS.iload X127.here hx rfl (hb hby d5_200) rfl  k) ?_
  refine G1 (fun _ k => XS.iload X127.here hx rfl (hb hby d5_202) rfl  k) ?_
  refine G1 (fun _ k => XS.iadd X127.here hx rfl (hb hby d5_204) rfl k) ?_
  show Goes _ _ _ _ _ _ _ (T127.setTop (mkF m 205 #[.val (.ref x0), nD tm, nS, .val (.ref x2), nD d5, nS, .val (.int (1 : Int32)), nD d11, nS, nD d13, nS, nD d14, nS, nD d18, nS, nD d21, nS, nD d24, nS, nD d25, nS, nD d28, nS, nD d32, nS, nD d35, nS, nD d38, nS, .val (.int (6 : Int32)), .val (.int (12 : Int32)), .val (.int (2 : Int32)), nD ve7, nS, nD d88, nS, nD ve13, nS, nD d94, nS] [(.int (8 : Int32)), (.ref sa)]))
  obtain ⟨cl128, Ar128, q128, S128, P128, H128, G128⟩ := id f124
  have hin128 : ¬ ((8 : Int32) < 0 ∨ cl128.slots.size ≤ ((8 : Int32)).toNatClampNeg) := inb_of S128 ⟨by decide, by decide⟩
  have hat128 : cl128.slots[((8 : Int32)).toNatClampNeg]? = some (.double ve8) := H128 _ (by rw [S128]; decide)
  refine G1 (fun _ k => X127.daload hx (j := (8 : Int32)) (v := (.double ve8)) (by rw [e127]; exact Ar128.1) (State.isArrayOf_alike hZ.alike Ar128.2.1) Ar128.2.2 hin128 hat128 (g := (mkF m 205 #[.val (.ref x0), nD tm, nS, .val (.ref x2), nD d5, nS, .val (.int (1 : Int32)), nD d11, nS, nD d13, nS, nD d14, nS, nD d18, nS, nD d21, nS, nD d24, nS, nD d25, nS, nD d28, nS, nD d32, nS, nD d35, nS, nD d38, nS, .val (.int (6 : Int32)), .val (.int (12 : Int32)), .val (.int (2 : Int32)), nD ve7, nS, nD d88, nS, nD ve13, nS, nD d94, nS] [(.int (8 : Int32)), (.ref sa)])) rfl rfl (hb hby d5_205) _ k) ?_
  show Goes _ _ _ _ _ _ _ (T127.setTop (mkF m 206 _ [(.double ve8)]))
  refine G1 (fun _ k => XS.dstore X127.here hx rfl (hb hby d5_206) rfl (l' := #[.val (.ref x0), nD tm, nS, .val (.ref x2), nD d5, nS, .val (.int (1 : Int32)), nD d11, nS, nD d13, nS, nD d14, nS, nD d18, nS, nD d21, nS, nD d24, nS, nD d25, nS, nD d28, nS, nD d32, nS, nD d35, nS, nD d38, nS, .val (.int (6 : Int32)), .val (.int (12 : Int32)), .val (.int (2 : Int32)), nD ve8, nS, nD d88, nS, nD ve13, nS, nD d94, nS]) rfl k) ?_
  show Goes _ _ _ _ _ _ _ (T127.setTop (mkF m 208 #[.val (.ref x0), nD tm, nS, .val (.ref x2), nD d5, nS, .val (.int (1 : Int32)), nD d11, nS, nD d13, nS, nD d14, nS, nD d18, nS, nD d21, nS, nD d24, nS, nD d25, nS, nD d28, nS, nD d32, nS, nD d35, nS, nD d38, nS, .val (.int (6 : Int32)), .val (.int (12 : Int32)), .val (.int (2 : Int32)), nD ve8, nS, nD d88, nS, nD ve13, nS, nD d94, nS] []))
  refine G1 (fun _ k => XS.aloadN X127.here hx rfl (hb hby d5_208) rfl rfl k) ?_
  obtain ⟨T129, X129, e129, st129⟩ := getF X127 hx hZ hown (host := "") (Or.inl w_24) Via.refl e127 f122 (g := (mkF m 209 #[.val (.ref x0), nD tm, nS, .val (.ref x2), nD d5, nS, .val (.int (1 : Int32)), nD d11, nS, nD d13, nS, nD d14, nS, nD d18, nS, nD d21, nS, nD d24, nS, nD d25, nS, nD d28, nS, nD d32, nS, nD d35, nS, nD d38, nS, .val (.int (6 : Int32)), .val (.int (12 : Int32)), .val (.int (2 : Int32)), nD ve8, nS, nD d88, nS, nD ve13, nS, nD d94, nS] [(.ref x0)])) rfl rfl (hb hby d5_209)
  refine G1 st129 ?_
  show Goes _ _ _ _ _ _ _ (T129.setTop (mkF m 212 _ [(.ref sa)]))
  refine G1 (fun _ k => XS.iload X129.here hx rfl (hb hby d5_212) rfl  k) ?_
  refine G1 (fun _ k => XS.iconst X129.here hx rfl (hb hby d5_214) k) ?_
  refine G1 (fun _ k => XS.iadd X129.here hx rfl (hb hby d5_215) rfl k) ?_
  show Goes _ _ _ _ _ _ _ (T129.setTop (mkF m 216 #[.val (.ref x0), nD tm, nS, .val (.ref x2), nD d5, nS, .val (.int (1 : Int32)), nD d11, nS, nD d13, nS, nD d14, nS, nD d18, nS, nD d21, nS, nD d24, nS, nD d25, nS, nD d28, nS, nD d32, nS, nD d35, nS, nD d38, nS, .val (.int (6 : Int32)), .val (.int (12 : Int32)), .val (.int (2 : Int32)), nD ve8, nS, nD d88, nS, nD ve13, nS, nD d94, nS] [(.int (9 : Int32)), (.ref sa)]))
  refine G1 (fun _ k => XS.iload X129.here hx rfl (hb hby d5_216) rfl  k) ?_
  refine G1 (fun _ k => XS.iadd X129.here hx rfl (hb hby d5_218) rfl k) ?_
  show Goes _ _ _ _ _ _ _ (T129.setTop (mkF m 219 _ [(.int (11 : Int32)), (.ref sa)]))
  obtain ⟨cl130, Ar130, q130, S130, P130, H130, G130⟩ := id f124
  have hin130 : ¬ ((11 : Int32) < 0 ∨ cl130.slots.size ≤ ((11 : Int32)).toNatClampNeg) := inb_of S130 ⟨by decide, by decide⟩
  have hat130 : cl130.slots[((11 : Int32)).toNatClampNeg]? = some (.double ve11) := H130 _ (by rw [S130]; decide)
  refine G1 (fun _ k => X129.daload hx (j := (11 : Int32)) (v := (.double ve11)) (by rw [e129]; exact Ar130.1) (State.isArrayOf_alike hZ.alike Ar130.2.1) Ar130.2.2 hin130 hat130 (g := (mkF m 219 #[.val (.ref x0), nD tm, nS, .val (.ref x2), nD d5, nS, .val (.int (1 : Int32)), nD d11, nS, nD d13, nS, nD d14, nS, nD d18, nS, nD d21, nS, nD d24, nS, nD d25, nS, nD d28, nS, nD d32, nS, nD d35, nS, nD d38, nS, .val (.int (6 : Int32)), .val (.int (12 : Int32)), .val (.int (2 : Int32)), nD ve8, nS, nD d88, nS, nD ve13, nS, nD d94, nS] [(.int (11 : Int32)), (.ref sa)])) rfl rfl (hb hby d5_219) _ k) ?_
  show Goes _ _ _ _ _ _ _ (T129.setTop (mkF m 220 #[.val (.ref x0), nD tm, nS, .val (.ref x2), nD d5, nS, .val (.int (1 : Int32)), nD d11, nS, nD d13, nS, nD d14, nS, nD d18, nS, nD d21, nS, nD d24, nS, nD d25, nS, nD d28, nS, nD d32, nS, nD d35, nS, nD d38, nS, .val (.int (6 : Int32)), .val (.int (12 : Int32)), .val (.int (2 : Int32)), nD ve8, nS, nD d88, nS, nD ve13, nS, nD d94, nS] [(.double ve11)]))
  refine G1 (fun _ k => XS.aloadN X129.here hx rfl (hb hby d5_220) rfl rfl k) ?_
  obtain ⟨T131, X131, e131, st131⟩ := getF X129 hx hZ hown (host := "") (Or.inl w_22) Via.refl e129 f121 (g := (mkF m 221 #[.val (.ref x0), nD tm, nS, .val (.ref x2), nD d5, nS, .val (.int (1 : Int32)), nD d11, nS, nD d13, nS, nD d14, nS, nD d18, nS, nD d21, nS, nD d24, nS, nD d25, nS, nD d28, nS, nD d32, nS, nD d35, nS, nD d38, nS, .val (.int (6 : Int32)), .val (.int (12 : Int32)), .val (.int (2 : Int32)), nD ve8, nS, nD d88, nS, nD ve13, nS, nD d94, nS] [(.ref x0), (.double ve11)])) rfl rfl (hb hby d5_221)
  refine G1 st131 ?_
  show Goes _ _ _ _ _ _ _ (T131.setTop (mkF m 224 _ [(.double stp), (.double ve11)]))
  obtain ⟨d132, hd132⟩ : ∃ z, FP.dmul ve11 stp = z := ⟨_, rfl⟩
  have fr132 : OwnF.Fr 0 (vP11 * si) 33554432 d132 := by rw [← hd132]; exact OwnF.Fr.dmul fP11 fs (by decide)
  refine G1 (fun _ k => XS.dmulS X131.here hx rfl (hb hby d5_224) rfl (by rw [hd132]; exact own_nn fr132) hd132 k) ?_
  show Goes _ _ _ _ _ _ _ (T131.setTop (mkF m 225 #[.val (.ref x0), nD tm, nS, .val (.ref x2), nD d5, nS, .val (.int (1 : Int32)), nD d11, nS, nD d13, nS, nD d14, nS, nD d18, nS, nD d21, nS, nD d24, nS, nD d25, nS, nD d28, nS, nD d32, nS, nD d35, nS, nD d38, nS, .val (.int (6 : Int32)), .val (.int (12 : Int32)), .val (.int (2 : Int32)), nD ve8, nS, nD d88, nS, nD ve13, nS, nD d94, nS] [(.double d132)]))
  refine G1 (fun _ k => XS.dstore X131.here hx rfl (hb hby d5_225) rfl (l' := #[.val (.ref x0), nD tm, nS, .val (.ref x2), nD d5, nS, .val (.int (1 : Int32)), nD d11, nS, nD d13, nS, nD d14, nS, nD d18, nS, nD d21, nS, nD d24, nS, nD d25, nS, nD d28, nS, nD d32, nS, nD d35, nS, nD d38, nS, .val (.int (6 : Int32)), .val (.int (12 : Int32)), .val (.int (2 : Int32)), nD ve8, nS, nD d132, nS, nD ve13, nS, nD d94, nS]) rfl k) ?_
  show Goes _ _ _ _ _ _ _ (T131.setTop (mkF m 227 _ []))
  refine G1 (fun _ k => XS.aloadN X131.here hx rfl (hb hby d5_227) rfl rfl k) ?_
  obtain ⟨T133, X133, e133, st133⟩ := getF X131 hx hZ hown (host := "") (Or.inl w_24) Via.refl e131 f122 (g := (mkF m 228 #[.val (.ref x0), nD tm, nS, .val (.ref x2), nD d5, nS, .val (.int (1 : Int32)), nD d11, nS, nD d13, nS, nD d14, nS, nD d18, nS, nD d21, nS, nD d24, nS, nD d25, nS, nD d28, nS, nD d32, nS, nD d35, nS, nD d38, nS, .val (.int (6 : Int32)), .val (.int (12 : Int32)), .val (.int (2 : Int32)), nD ve8, nS, nD d132, nS, nD ve13, nS, nD d94, nS] [(.ref x0)])) rfl rfl (hb hby d5_228)
  refine G1 st133 ?_
  show Goes _ _ _ _ _ _ _ (T133.setTop (mkF m 231 #[.val (.ref x0), nD tm, nS, .val (.ref x2), nD d5, nS, .val (.int (1 : Int32)), nD d11, nS, nD d13, nS, nD d14, nS, nD d18, nS, nD d21, nS, nD d24, nS, nD d25, nS, nD d28, nS, nD d32, nS, nD d35, nS, nD d38, nS, .val (.int (6 : Int32)), .val (.int (12 : Int32)), .val (.int (2 : Int32)), nD ve8, nS, nD d132, nS, nD ve13, nS, nD d94, nS] [(.ref sa)]))
  refine G1 (fun _ k => XS.iload X133.here hx rfl (hb hby d5_231) rfl  k) ?_
  refine G1 (fun _ k => XS.iload X133.here hx rfl (hb hby d5_233) rfl  k) ?_
  refine G1 (fun _ k => XS.iadd X133.here hx rfl (hb hby d5_235) rfl k) ?_
  show Goes _ _ _ _ _ _ _ (T133.setTop (mkF m 236 _ [(.int (14 : Int32)), (.ref sa)]))
  obtain ⟨cl134, Ar134, q134, S134, P134, H134, G134⟩ := id f124
  have hin134 : ¬ ((14 : Int32) < 0 ∨ cl134.slots.size ≤ ((14 : Int32)).toNatClampNeg) := inb_of S134 ⟨by decide, by decide⟩
  have hat134 : cl134.slots[((14 : Int32)).toNatClampNeg]? = some (.double ve14) := H134 _ (by rw [S134]; decide)
  refine G1 (fun _ k => X133.daload hx (j := (14 : Int32)) (v := (.double ve14)) (by rw [e133]; exact Ar134.1) (State.isArrayOf_alike hZ.alike Ar134.2.1) Ar134.2.2 hin134 hat134 (g := (mkF m 236 #[.val (.ref x0), nD tm, nS, .val (.ref x2), nD d5, nS, .val (.int (1 : Int32)), nD d11, nS, nD d13, nS, nD d14, nS, nD d18, nS, nD d21, nS, nD d24, nS, nD d25, nS, nD d28, nS, nD d32, nS, nD d35, nS, nD d38, nS, .val (.int (6 : Int32)), .val (.int (12 : Int32)), .val (.int (2 : Int32)), nD ve8, nS, nD d132, nS, nD ve13, nS, nD d94, nS] [(.int (14 : Int32)), (.ref sa)])) rfl rfl (hb hby d5_236) _ k) ?_
  show Goes _ _ _ _ _ _ _ (T133.setTop (mkF m 237 #[.val (.ref x0), nD tm, nS, .val (.ref x2), nD d5, nS, .val (.int (1 : Int32)), nD d11, nS, nD d13, nS, nD d14, nS, nD d18, nS, nD d21, nS, nD d24, nS, nD d25, nS, nD d28, nS, nD d32, nS, nD d35, nS, nD d38, nS, .val (.int (6 : Int32)), .val (.int (12 : Int32)), .val (.int (2 : Int32)), nD ve8, nS, nD d132, nS, nD ve13, nS, nD d94, nS] [(.double ve14)]))
  refine G1 (fun _ k => XS.dstore X133.here hx rfl (hb hby d5_237) rfl (l' := #[.val (.ref x0), nD tm, nS, .val (.ref x2), nD d5, nS, .val (.int (1 : Int32)), nD d11, nS, nD d13, nS, nD d14, nS, nD d18, nS, nD d21, nS, nD d24, nS, nD d25, nS, nD d28, nS, nD d32, nS, nD d35, nS, nD d38, nS, .val (.int (6 : Int32)), .val (.int (12 : Int32)), .val (.int (2 : Int32)), nD ve8, nS, nD d132, nS, nD ve14, nS, nD d94, nS]) rfl k) ?_
  show Goes _ _ _ _ _ _ _ (T133.setTop (mkF m 239 _ []))
  refine G1 (fun _ k => XS.aloadN X133.here hx rfl (hb hby d5_239) rfl rfl k) ?_
  obtain ⟨T135, X135, e135, st135⟩ := getF X133 hx hZ hown (host := "") (Or.inl w_24) Via.refl e133 f122 (g := (mkF m 240 #[.val (.ref x0), nD tm, nS, .val (.ref x2), nD d5, nS, .val (.int (1 : Int32)), nD d11, nS, nD d13, nS, nD d14, nS, nD d18, nS, nD d21, nS, nD d24, nS, nD d25, nS, nD d28, nS, nD d32, nS, nD d35, nS, nD d38, nS, .val (.int (6 : Int32)), .val (.int (12 : Int32)), .val (.int (2 : Int32)), nD ve8, nS, nD d132, nS, nD ve14, nS, nD d94, nS] [(.ref x0)])) rfl rfl (hb hby d5_240)
  refine G1 st135 ?_
  show Goes _ _ _ _ _ _ _ (T135.setTop (mkF m 243 #[.val (.ref x0), nD tm, nS, .val (.ref x2), nD d5, nS, .val (.int (1 : Int32)), nD d11, nS, nD d13, nS, nD d14, nS, nD d18, nS, nD d21, nS, nD d24, nS, nD d25, nS, nD d28, nS, nD d32, nS, nD d35, nS, nD d38, nS, .val (.int (6 : Int32)), .val (.int (12 : Int32)), .val (.int (2 : Int32)), nD ve8, nS, nD d132, nS, nD ve14, nS, nD d94, nS] [(.ref sa)]))
  refine G1 (fun _ k => XS.iload X135.here hx rfl (hb hby d5_243) rfl  k) ?_
  refine G1 (fun _ k => XS.iconst X135.here hx rfl (hb hby d5_245) k) ?_
  refine G1 (fun _ k => XS.iadd X135.here hx rfl (hb hby d5_246) rfl k) ?_
  show Goes _ _ _ _ _ _ _ (T135.setTop (mkF m 247 _ [(.int (15 : Int32)), (.ref sa)]))
  refine G1 (fun _ k => XS.iload X135.here hx rfl (hb hby d5_247) rfl  k) ?_
  refine G1 (fun _ k => XS.iadd X135.here hx rfl (hb hby d5_249) rfl k) ?_
  show Goes _ _ _ _ _ _ _ (T135.setTop (mkF m 250 #[.val (.ref x0), nD tm, nS, .val (.ref x2), nD d5, nS, .val (.int (1 : Int32)), nD d11, nS, nD d13, nS, nD d14, nS, nD d18, nS, nD d21, nS, nD d24, nS, nD d25, nS, nD d28, nS, nD d32, nS, nD d35, nS, nD d38, nS, .val (.int (6 : Int32)), .val (.int (12 : Int32)), .val (.int (2 : Int32)), nD ve8, nS, nD d132, nS, nD ve14, nS, nD d94, nS] [(.int (17 : Int32)), (.ref sa)]))
  obtain ⟨cl136, Ar136, q136, S136, P136, H136, G136⟩ := id f124
  have hin136 : ¬ ((17 : Int32) < 0 ∨ cl136.slots.size ≤ ((17 : Int32)).toNatClampNeg) := inb_of S136 ⟨by decide, by decide⟩
  have hat136 : cl136.slots[((17 : Int32)).toNatClampNeg]? = some (.double ve17) := H136 _ (by rw [S136]; decide)
  refine G1 (fun _ k => X135.daload hx (j := (17 : Int32)) (v := (.double ve17)) (by rw [e135]; exact Ar136.1) (State.isArrayOf_alike hZ.alike Ar136.2.1) Ar136.2.2 hin136 hat136 (g := (mkF m 250 #[.val (.ref x0), nD tm, nS, .val (.ref x2), nD d5, nS, .val (.int (1 : Int32)), nD d11, nS, nD d13, nS, nD d14, nS, nD d18, nS, nD d21, nS, nD d24, nS, nD d25, nS, nD d28, nS, nD d32, nS, nD d35, nS, nD d38, nS, .val (.int (6 : Int32)), .val (.int (12 : Int32)), .val (.int (2 : Int32)), nD ve8, nS, nD d132, nS, nD ve14, nS, nD d94, nS] [(.int (17 : Int32)), (.ref sa)])) rfl rfl (hb hby d5_250) _ k) ?_
  show Goes _ _ _ _ _ _ _ (T135.setTop (mkF m 251 _ [(.double ve17)]))
  refine G1 (fun _ k => XS.aloadN X135.here hx rfl (hb hby d5_251) rfl rfl k) ?_
  obtain ⟨T137, X137, e137, st137⟩ := getF X135 hx hZ hown (host := "") (Or.inl w_22) Via.refl e135 f121 (g := (mkF m 252 #[.val (.ref x0), nD tm, nS, .val (.ref x2), nD d5, nS, .val (.int (1 : Int32)), nD d11, nS, nD d13, nS, nD d14, nS, nD d18, nS, nD d21, nS, nD d24, nS, nD d25, nS, nD d28, nS, nD d32, nS, nD d35, nS, nD d38, nS, .val (.int (6 : Int32)), .val (.int (12 : Int32)), .val (.int (2 : Int32)), nD ve8, nS, nD d132, nS, nD ve14, nS, nD d94, nS] [(.ref x0), (.double ve17)])) rfl rfl (hb hby d5_252)
  refine G1 st137 ?_
  show Goes _ _ _ _ _ _ _ (T137.setTop (mkF m 255 #[.val (.ref x0), nD tm, nS, .val (.ref x2), nD d5, nS, .val (.int (1 : Int32)), nD d11, nS, nD d13, nS, nD d14, nS, nD d18, nS, nD d21, nS, nD d24, nS, nD d25, nS, nD d28, nS, nD d32, nS, nD d35, nS, nD d38, nS, .val (.int (6 : Int32)), .val (.int (12 : Int32)), .val (.int (2 : Int32)), nD ve8, nS, nD d132, nS, nD ve14, nS, nD d94, nS] [(.double stp), (.double ve17)]))
  obtain ⟨d138, hd138⟩ : ∃ z, FP.dmul ve17 stp = z := ⟨_, rfl⟩
  have fr138 : OwnF.Fr 0 (vP17 * si) 33554432 d138 := by rw [← hd138]; exact OwnF.Fr.dmul fP17 fs (by decide)
  refine G1 (fun _ k => XS.dmulS X137.here hx rfl (hb hby d5_255) rfl (by rw [hd138]; exact own_nn fr138) hd138 k) ?_
  show Goes _ _ _ _ _ _ _ (T137.setTop (mkF m 256 _ [(.double d138)]))
  refine G1 (fun _ k => XS.dstore X137.here hx rfl (hb hby d5_256) rfl (l' := #[.val (.ref x0), nD tm, nS, .val (.ref x2), nD d5, nS, .val (.int (1 : Int32)), nD d11, nS, nD d13, nS, nD d14, nS, nD d18, nS, nD d21, nS, nD d24, nS, nD d25, nS, nD d28, nS, nD d32, nS, nD d35, nS, nD d38, nS, .val (.int (6 : Int32)), .val (.int (12 : Int32)), .val (.int (2 : Int32)), nD ve8, nS, nD d132, nS, nD ve14, nS, nD d138, nS]) rfl k) ?_
  show Goes _ _ _ _ _ _ _ (T137.setTop (mkF m 258 #[.val (.ref x0), nD tm, nS, .val (.ref x2), nD d5, nS, .val (.int (1 : Int32)), nD d11, nS, nD d13, nS, nD d14, nS, nD d18, nS, nD d21, nS, nD d24, nS, nD d25, nS, nD d28, nS, nD d32, nS, nD d35, nS, nD d38, nS, .val (.int (6 : Int32)), .val (.int (12 : Int32)), .val (.int (2 : Int32)), nD ve8, nS, nD d132, nS, nD ve14, nS, nD d138, nS] []))
  refine G1 (fun _ k => XS.aloadN X137.here hx rfl (hb hby d5_258) rfl rfl k) ?_
  refine G1 (fun _ k => XS.iload X137.here hx rfl (hb hby d5_259) rfl  k) ?_
  refine G1 (fun _ k => XS.dload X137.here hx rfl (hb hby d5_261) rfl k) ?_
  refine G1 (fun _ k => XS.dload X137.here hx rfl (hb hby d5_263) rfl k) ?_
  show Goes _ _ _ _ _ _ _ (T137.setTop (mkF m 265 _ [(.double ve8), (.double d18), (.int (2 : Int32)), (.ref x2)]))
  obtain ⟨d139, hd139⟩ : ∃ z, FP.dmul d18 ve8 = z := ⟨_, rfl⟩
  have fr139 : OwnF.Fr 9 (((((2 : Int) * ((jv * jv) * jv)) - (((3 : Int) * (jv * jv)) * ((2 ^ 3 : Nat) : Int))) + ((1 : Int) * ((2 ^ 9 : Nat) : Int))) * vP8) 498216206336 d139 := by rw [← hd139]; exact OwnF.Fr.dmul fr18 fP8 (by decide)
  refine G1 (fun _ k => XS.dmulS X137.here hx rfl (hb hby d5_265) rfl (by rw [hd139]; exact own_nn fr139) hd139 k) ?_
  show Goes _ _ _ _ _ _ _ (T137.setTop (mkF m 266 #[.val (.ref x0), nD tm, nS, .val (.ref x2), nD d5, nS, .val (.int (1 : Int32)), nD d11, nS, nD d13, nS, nD d14, nS, nD d18, nS, nD d21, nS, nD d24, nS, nD d25, nS, nD d28, nS, nD d32, nS, nD d35, nS, nD d38, nS, .val (.int (6 : Int32)), .val (.int (12 : Int32)), .val (.int (2 : Int32)), nD ve8, nS, nD d132, nS, nD ve14, nS, nD d138, nS] [(.double d139), (.int (2 : Int32)), (.ref x2)]))
  refine G1 (fun _ k => XS.dload X137.here hx rfl (hb hby d5_266) rfl k) ?_
  refine G1 (fun _ k => XS.dload X137.here hx rfl (hb hby d5_268) rfl k) ?_
  obtain ⟨d140, hd140⟩ : ∃ z, FP.dmul d21 d132 = z := ⟨_, rfl⟩
  have fr140 : OwnF.Fr 9 (((((jv * jv) * jv) - (((2 : Int) * (jv * jv)) * ((2 ^ 3 : Nat) : Int))) + (jv * ((2 ^ 6 : Nat) : Int))) * (vP11 * si)) 309237645312 d140 := by rw [← hd140]; exact OwnF.Fr.dmul fr21 fr132 (by decide)
  refine G1 (fun _ k => XS.dmulS X137.here hx rfl (hb hby d5_270) rfl (by rw [hd140]; exact own_nn fr140) hd140 k) ?_
  show Goes _ _ _ _ _ _ _ (T137.setTop (mkF m 271 _ [(.double d140), (.double d139), (.int (2 : Int32)), (.ref x2)]))
  obtain ⟨d141, hd141⟩ : ∃ z, FP.dadd d139 d140 = z := ⟨_, rfl⟩
  have fr141 : OwnF.Fr 9 ((((((2 : Int) * ((jv * jv) * jv)) - (((3 : Int) * (jv * jv)) * ((2 ^ 3 : Nat) : Int))) + ((1 : Int) * ((2 ^ 9 : Nat) : Int))) * vP8) + (((((jv * jv) * jv) - (((2 : Int) * (jv * jv)) * ((2 ^ 3 : Nat) : Int))) + (jv * ((2 ^ 6 : Nat) : Int))) * (vP11 * si))) 807453851648 d141 := by rw [← hd141]; exact OwnF.Fr.dadd fr139 fr140 (by decide)
  refine G1 (fun _ k => XS.daddS X137.here hx rfl (hb hby d5_271) rfl (by rw [hd141]; exact own_nn fr141) hd141 k) ?_
  show Goes _ _ _ _ _ _ _ (T137.setTop (mkF m 272 #[.val (.ref x0), nD tm, nS, .val (.ref x2), nD d5, nS, .val (.int (1 : Int32)), nD d11, nS, nD d13, nS, nD d14, nS, nD d18, nS, nD d21, nS, nD d24, nS, nD d25, nS, nD d28, nS, nD d32, nS, nD d35, nS, nD d38, nS, .val (.int (6 : Int32)), .val (.int (12 : Int32)), .val (.int (2 : Int32)), nD ve8, nS, nD d132, nS, nD ve14, nS, nD d138, nS] [(.double d141), (.int (2 : Int32)), (.ref x2)]))
  refine G1 (fun _ k => XS.dload X137.here hx rfl (hb hby d5_272) rfl k) ?_
  refine G1 (fun _ k => XS.dload X137.here hx rfl (hb hby d5_274) rfl k) ?_
  obtain ⟨d142, hd142⟩ : ∃ z, FP.dmul d24 ve14 = z := ⟨_, rfl⟩
  have fr142 : OwnF.Fr 9 ((((-2 : Int) * ((jv * jv) * jv)) + (((3 : Int) * (jv * jv)) * ((2 ^ 3 : Nat) : Int))) * vP14) 481036337152 d142 := by rw [← hd142]; exact OwnF.Fr.dmul fr24 fP14 (by decide)
  refine G1 (fun _ k => XS.dmulS X137.here hx rfl (hb hby d5_276) rfl (by rw [hd142]; exact own_nn fr142) hd142 k) ?_
  show Goes _ _ _ _ _ _ _ (T137.setTop (mkF m 277 _ [(.double d142), (.double d141), (.int (2 : Int32)), (.ref x2)]))
  obtain ⟨d143, hd143⟩ : ∃ z, FP.dadd d141 d142 = z := ⟨_, rfl⟩
  have fr143 : OwnF.Fr 9 (((((((2 : Int) * ((jv * jv) * jv)) - (((3 : Int) * (jv * jv)) * ((2 ^ 3 : Nat) : Int))) + ((1 : Int) * ((2 ^ 9 : Nat) : Int))) * vP8) + (((((jv * jv) * jv) - (((2 : Int) * (jv * jv)) * ((2 ^ 3 : Nat) : Int))) + (jv * ((2 ^ 6 : Nat) : Int))) * (vP11 * si))) + ((((-2 : Int) * ((jv * jv) * jv)) + (((3 : Int) * (jv * jv)) * ((2 ^ 3 : Nat) : Int))) * vP14)) 1288490188800 d143 := by rw [← hd143]; exact OwnF.Fr.dadd fr141 fr142 (by decide)
  refine G1 (fun _ k => XS.daddS X137.here hx rfl (hb hby d5_277) rfl (by rw [hd143]; exact own_nn fr143) hd143 k) ?_
  show Goes _ _ _ _ _ _ _ (T137.setTop (mkF m 278 #[.val (.ref x0), nD tm, nS, .val (.ref x2), nD d5, nS, .val (.int (1 : Int32)), nD d11, nS, nD d13, nS, nD d14, nS, nD d18, nS, nD d21, nS, nD d24, nS, nD d25, nS, nD d28, nS, nD d32, nS, nD d35, nS, nD d38, nS, .val (.int (6 : Int32)), .val (.int (12 : Int32)), .val (.int (2 : Int32)), nD ve8, nS, nD d132, nS, nD ve14, nS, nD d138, nS] [(.double d143), (.int (2 : Int32)), (.ref x2)]))
  refine G1 (fun _ k => XS.dload X137.here hx rfl (hb hby d5_278) rfl k) ?_
  refine G1 (fun _ k => XS.dload X137.here hx rfl (hb hby d5_280) rfl k) ?_
  obtain ⟨d144, hd144⟩ : ∃ z, FP.dmul d25 d138 = z := ⟨_, rfl⟩
  have fr144 : OwnF.Fr 9 ((((jv * jv) * jv) - ((jv * jv) * ((2 ^ 3 : Nat) : Int))) * (vP17 * si)) 206158430208 d144 := by rw [← hd144]; exact OwnF.Fr.dmul fr25 fr138 (by decide)
  refine G1 (fun _ k => XS.dmulS X137.here hx rfl (hb hby d5_282) rfl (by rw [hd144]; exact own_nn fr144) hd144 k) ?_
  show Goes _ _ _ _ _ _ _ (T137.setTop (mkF m 283 _ [(.double d144), (.double d143), (.int (2 : Int32)), (.ref x2)]))
  obtain ⟨d145, hd145⟩ : ∃ z, FP.dadd d143 d144 = z := ⟨_, rfl⟩
  have fr145 : OwnF.Fr 9 ((((((((2 : Int) * ((jv * jv) * jv)) - (((3 : Int) * (jv * jv)) * ((2 ^ 3 : Nat) : Int))) + ((1 : Int) * ((2 ^ 9 : Nat) : Int))) * vP8) + (((((jv * jv) * jv) - (((2 : Int) * (jv * jv)) * ((2 ^ 3 : Nat) : Int))) + (jv * ((2 ^ 6 : Nat) : Int))) * (vP11 * si))) + ((((-2 : Int) * ((jv * jv) * jv)) + (((3 : Int) * (jv * jv)) * ((2 ^ 3 : Nat) : Int))) * vP14)) + ((((jv * jv) * jv) - ((jv * jv) * ((2 ^ 3 : Nat) : Int))) * (vP17 * si))) 1494648619008 d145 := by rw [← hd145]; exact OwnF.Fr.dadd fr143 fr144 (by decide)
  refine G1 (fun _ k => XS.daddS X137.here hx rfl (hb hby d5_283) rfl (by rw [hd145]; exact own_nn fr145) hd145 k) ?_
  show Goes _ _ _ _ _ _ _ (T137.setTop (mkF m 284 #[.val (.ref x0), nD tm, nS, .val (.ref x2), nD d5, nS, .val (.int (1 : Int32)), nD d11, nS, nD d13, nS, nD d14, nS, nD d18, nS, nD d21, nS, nD d24, nS, nD d25, nS, nD d28, nS, nD d32, nS, nD d35, nS, nD d38, nS, .val (.int (6 : Int32)), .val (.int (12 : Int32)), .val (.int (2 : Int32)), nD ve8, nS, nD d132, nS, nD ve14, nS, nD d138, nS] [(.double d145), (.int (2 : Int32)), (.ref x2)]))
  obtain ⟨cl146, Ar146, q146, S146, P146, H146, G146⟩ := id f125
  have hin146 : ¬ ((2 : Int32) < 0 ∨ cl146.slots.size ≤ ((2 : Int32)).toNatClampNeg) := inb_of S146 ⟨by decide, by decide⟩
  obtain ⟨T147, h147, X147, e147, W147, st147⟩ := stD X137 hx hZ e137 Ar146 (j := (2 : Int32)) hin146 (g := (mkF m 284 #[.val (.ref x0), nD tm, nS, .val (.ref x2), nD d5, nS, .val (.int (1 : Int32)), nD d11, nS, nD d13, nS, nD d14, nS, nD d18, nS, nD d21, nS, nD d24, nS, nD d25, nS, nD d28, nS, nD d32, nS, nD d35, nS, nD d38, nS, .val (.int (6 : Int32)), .val (.int (12 : Int32)), .val (.int (2 : Int32)), nD ve8, nS, nD d132, nS, nD ve14, nS, nD d138, nS] [(.double d145), (.int (2 : Int32)), (.ref x2)])) rfl rfl (hb hby d5_284)
  refine G1 st147 ?_
  have V147 := Arv.set Ar146 q146 S146 P146 H146 G146 rfl W147 2 rfl (Nat.le_of_ble_eq_true rfl)
  have f148 := f121.other W147 (Or.inl ne1)
  have f149 := f122.other W147 (Or.inl ne1)
  have f150 := f123.other W147 (Or.inl ne1)
  have f151 := f124.other W147 ne2
  have f152 := V147
  have K153 : Keep h0 h147 [x2] := K126.wr W147 (Or.inl (List.mem_of_getElem? (i := 0) rfl))
  have Z153 : n0 ≤ h147.size := by rw [Wr.size W147]; exact Z126
  have N153 := Fr.snoc X147 N126 g_x2
  show Goes _ _ _ _ _ _ _ (T147.setTop (mkF m 285 _ []))
  refine G1 (fun _ k => XS.aloadN X147.here hx rfl (hb hby d5_285) rfl rfl k) ?_
  refine G1 (fun _ k => XS.iconst X147.here hx rfl (hb hby d5_286) k) ?_
  refine G1 (fun _ k => XS.iload X147.here hx rfl (hb hby d5_287) rfl  k) ?_
  refine G1 (fun _ k => XS.iadd X147.here hx rfl (hb hby d5_289) rfl k) ?_
  show Goes _ _ _ _ _ _ _ (T147.setTop (mkF m 290 #[.val (.ref x0), nD tm, nS, .val (.ref x2), nD d5, nS, .val (.int (1 : Int32)), nD d11, nS, nD d13, nS, nD d14, nS, nD d18, nS, nD d21, nS, nD d24, nS, nD d25, nS, nD d28, nS, nD d32, nS, nD d35, nS, nD d38, nS, .val (.int (6 : Int32)), .val (.int (12 : Int32)), .val (.int (2 : Int32)), nD ve8, nS, nD d132, nS, nD ve14, nS, nD d138, nS] [(.int (5 : Int32)), (.ref x2)]))
  refine G1 (fun _ k => XS.dload X147.here hx rfl (hb hby d5_290) rfl k) ?_
  refine G1 (fun _ k => XS.dload X147.here hx rfl (hb hby d5_292) rfl k) ?_
  obtain ⟨d154, hd154⟩ : ∃ z, FP.dmul d28 ve8 = z := ⟨_, rfl⟩
  have fr154 : OwnF.Fr 6 ((((6 : Int) * (jv * jv)) - (((6 : Int) * jv) * ((2 ^ 3 : Nat) : Int))) * vP8) 77309411328 d154 := by rw [← hd154]; exact OwnF.Fr.dmul fr28 fP8 (by decide)
  refine G1 (fun _ k => XS.dmulS X147.here hx rfl (hb hby d5_294) rfl (by rw [hd154]; exact own_nn fr154) hd154 k) ?_
  show Goes _ _ _ _ _ _ _ (T147.setTop (mkF m 295 _ [(.double d154), (.int (5 : Int32)), (.ref x2)]))
  refine G1 (fun _ k => XS.dload X147.here hx rfl (hb hby d5_295) rfl k) ?_
  refine G1 (fun _ k => XS.dload X147.here hx rfl (hb hby d5_297) rfl k) ?_
  obtain ⟨d155, hd155⟩ : ∃ z, FP.dmul d32 d132 = z := ⟨_, rfl⟩
  have fr155 : OwnF.Fr 6 (((((3 : Int) * (jv * jv)) - (((4 : Int) * jv) * ((2 ^ 3 : Nat) : Int))) + ((1 : Int) * ((2 ^ 6 : Nat) : Int))) * (vP11 * si)) 45097156608 d155 := by rw [← hd155]; exact OwnF.Fr.dmul fr32 fr132 (by decide)
  refine G1 (fun _ k => XS.dmulS X147.here hx rfl (hb hby d5_299) rfl (by rw [hd155]; exact own_nn fr155) hd155 k) ?_
  show Goes _ _ _ _ _ _ _ (T147.setTop (mkF m 300 #[.val (.ref x0), nD tm, nS, .val (.ref x2), nD d5, nS, .val (.int (1 : Int32)), nD d11, nS, nD d13, nS, nD d14, nS, nD d18, nS, nD d21, nS, nD d24, nS, nD d25, nS, nD d28, nS, nD d32, nS, nD d35, nS, nD d38, nS, .val (.int (6 : Int32)), .val (.int (12 : Int32)), .val (.int (2 : Int32)), nD ve8, nS, nD d132, nS, nD ve14, nS, nD d138, nS] [(.double d155), (.double d154), (.int (5 : Int32)), (.ref x2)]))
  obtain ⟨d156, hd156⟩ : ∃ z, FP.dadd d154 d155 = z := ⟨_, rfl⟩
  have fr156 : OwnF.Fr 6 (((((6 : Int) * (jv * jv)) - (((6 : Int) * jv) * ((2 ^ 3 : Nat) : Int))) * vP8) + (((((3 : Int) * (jv * jv)) - (((4 : Int) * jv) * ((2 ^ 3 : Nat) : Int))) + ((1 : Int) * ((2 ^ 6 : Nat) : Int))) * (vP11 * si))) 122406567936 d156 := by rw [← hd156]; exact OwnF.Fr.dadd fr154 fr155 (by decide)
  refine G1 (fun _ k => XS.daddS X147.here hx rfl (hb hby d5_300) rfl (by rw [hd156]; exact own_nn fr156) hd156 k) ?_
  show Goes _ _ _ _ _ _ _ (T147.setTop (mkF m 301 _ [(.double d156), (.int (5 : Int32)), (.ref x2)]))
  refine G1 (fun _ k => XS.dload X147.here hx rfl (hb hby d5_301) rfl k) ?_
  refine G1 (fun _ k => XS.dload X147.here hx rfl (hb hby d5_303) rfl k) ?_
  obtain ⟨d157, hd157⟩ : ∃ z, FP.dmul d35 ve14 = z := ⟨_, rfl⟩
  have fr157 : OwnF.Fr 6 ((((-6 : Int) * (jv * jv)) + (((6 : Int) * jv) * ((2 ^ 3 : Nat) : Int))) * vP14) 77309411328 d157 := by rw [← hd157]; exact OwnF.Fr.dmul fr35 fP14 (by decide)
  refine G1 (fun _ k => XS.dmulS X147.here hx rfl (hb hby d5_305) rfl (by rw [hd157]; exact own_nn fr157) hd157 k) ?_
  show Goes _ _ _ _ _ _ _ (T147.setTop (mkF m 306 #[.val (.ref x0), nD tm, nS, .val (.ref x2), nD d5, nS, .val (.int (1 : Int32)), nD d11, nS, nD d13, nS, nD d14, nS, nD d18, nS, nD d21, nS, nD d24, nS, nD d25, nS, nD d28, nS, nD d32, nS, nD d35, nS, nD d38, nS, .val (.int (6 : Int32)), .val (.int (12 : Int32)), .val (.int (2 : Int32)), nD ve8, nS, nD d132, nS, nD ve14, nS, nD d138, nS] [(.double d157), (.double d156), (.int (5 : Int32)), (.ref x2)]))
  obtain ⟨d158, hd158⟩ : ∃ z, FP.dadd d156 d157 = z := ⟨_, rfl⟩
  have fr158 : OwnF.Fr 6 ((((((6 : Int) * (jv * jv)) - (((6 : Int) * jv) * ((2 ^ 3 : Nat) : Int))) * vP8) + (((((3 : Int) * (jv * jv)) - (((4 : Int) * jv) * ((2 ^ 3 : Nat) : Int))) + ((1 : Int) * ((2 ^ 6 : Nat) : Int))) * (vP11 * si))) + ((((-6 : Int) * (jv * jv)) + (((6 : Int) * jv) * ((2 ^ 3 : Nat) : Int))) * vP14)) 199715979264 d158 := by rw [← hd158]; exact OwnF.Fr.dadd fr156 fr157 (by decide)
  refine G1 (fun _ k => XS.daddS X147.here hx rfl (hb hby d5_306) rfl (by rw [hd158]; exact own_nn fr158) hd158 k) ?_
  show Goes _ _ _ _ _ _ _ (T147.setTop (mkF m 307 _ [(.double d158), (.int (5 : Int32)), (.ref x2)]))
  refine G1 (fun _ k => XS.dload X147.here hx rfl (hb hby d5_307) rfl k) ?_
  refine G1 (fun _ k => XS.dload X147.here hx rfl (hb hby d5_309) rfl k) ?_
  obtain ⟨d159, hd159⟩ : ∃ z, FP.dmul d38 d138 = z := ⟨_, rfl⟩
  have fr159 : OwnF.Fr 6 ((((3 : Int) * (jv * jv)) - (((2 : Int) * jv) * ((2 ^ 3 : Nat) : Int))) * (vP17 * si)) 34359738368 d159 := by rw [← hd159]; exact OwnF.Fr.dmul fr38 fr138 (by decide)
  refine G1 (fun _ k => XS.dmulS X147.here hx rfl (hb hby d5_311) rfl (by rw [hd159]; exact own_nn fr159) hd159 k) ?_
  show Goes _ _ _ _ _ _ _ (T147.setTop (mkF m 312 #[.val (.ref x0), nD tm, nS, .val (.ref x2), nD d5, nS, .val (.int (1 : Int32)), nD d11, nS, nD d13, nS, nD d14, nS, nD d18, nS, nD d21, nS, nD d24, nS, nD d25, nS, nD d28, nS, nD d32, nS, nD d35, nS, nD d38, nS, .val (.int (6 : Int32)), .val (.int (12 : Int32)), .val (.int (2 : Int32)), nD ve8, nS, nD d132, nS, nD ve14, nS, nD d138, nS] [(.double d159), (.double d158), (.int (5 : Int32)), (.ref x2)]))
  obtain ⟨d160, hd160⟩ : ∃ z, FP.dadd d158 d159 = z := ⟨_, rfl⟩
  have fr160 : OwnF.Fr 6 (((((((6 : Int) * (jv * jv)) - (((6 : Int) * jv) * ((2 ^ 3 : Nat) : Int))) * vP8) + (((((3 : Int) * (jv * jv)) - (((4 : Int) * jv) * ((2 ^ 3 : Nat) : Int))) + ((1 : Int) * ((2 ^ 6 : Nat) : Int))) * (vP11 * si))) + ((((-6 : Int) * (jv * jv)) + (((6 : Int) * jv) * ((2 ^ 3 : Nat) : Int))) * vP14)) + ((((3 : Int) * (jv * jv)) - (((2 : Int) * jv) * ((2 ^ 3 : Nat) : Int))) * (vP17 * si))) 234075717632 d160 := by rw [← hd160]; exact OwnF.Fr.dadd fr158 fr159 (by decide)
  refine G1 (fun _ k => XS.daddS X147.here hx rfl (hb hby d5_312) rfl (by rw [hd160]; exact own_nn fr160) hd160 k) ?_
  show Goes _ _ _ _ _ _ _ (T147.setTop (mkF m 313 _ [(.double d160), (.int (5 : Int32)), (.ref x2)]))
  refine G1 (fun _ k => XS.aloadN X147.here hx rfl (hb hby d5_313) rfl rfl k) ?_
  obtain ⟨T161, X161, e161, st161⟩ := getF X147 hx hZ hown (host := "") (Or.inl w_22) Via.refl e147 f148 (g := (mkF m 314 #[.val (.ref x0), nD tm, nS, .val (.ref x2), nD d5, nS, .val (.int (1 : Int32)), nD d11, nS, nD d13, nS, nD d14, nS, nD d18, nS, nD d21, nS, nD d24, nS, nD d25, nS, nD d28, nS, nD d32, nS, nD d35, nS, nD d38, nS, .val (.int (6 : Int32)), .val (.int (12 : Int32)), .val (.int (2 : Int32)), nD ve8, nS, nD d132, nS, nD ve14, nS, nD d138, nS] [(.ref x0), (.double d160), (.int (5 : Int32)), (.ref x2)])) rfl rfl (hb hby d5_314)
  refine G1 st161 ?_
  show Goes _ _ _ _ _ _ _ (T161.setTop (mkF m 317 #[.val (.ref x0), nD tm, nS, .val (.ref x2), nD d5, nS, .val (.int (1 : Int32)), nD d11, nS, nD d13, nS, nD d14, nS, nD d18, nS, nD d21, nS, nD d24, nS, nD d25, nS, nD d28, nS, nD d32, nS, nD d35, nS, nD d38, nS, .val (.int (6 : Int32)), .val (.int (12 : Int32)), .val (.int (2 : Int32)), nD ve8, nS, nD d132, nS, nD ve14, nS, nD d138, nS] [(.double stp), (.double d160), (.int (5 : Int32)), (.ref x2)]))
  obtain ⟨d162, hd162⟩ : ∃ z, FP.ddiv d160 stp = z := ⟨_, rfl⟩
  have fr162 : OwnF.Fr 6 ((((((-6 : Int) * (jv * jv)) + (((6 : Int) * jv) * ((2 ^ 3 : Nat) : Int))) * vg2) + (((((3 : Int) * (jv * jv)) - (((4 : Int) * jv) * ((2 ^ 3 : Nat) : Int))) + ((1 : Int) * ((2 ^ 6 : Nat) : Int))) * vP11)) + ((((3 : Int) * (jv * jv)) - (((2 : Int) * jv) * ((2 ^ 3 : Nat) : Int))) * vP17)) 43620761600 d162 := by rw [← hd162]; exact OwnF.Fr.ddiv fr160 fs hs1 (own_vel1_2 hg2) (own_ba (own_ba (own_bm fr35.2 gb2) (own_bm fr32.2 fP11.2)) (own_bm fr38.2 fP17.2)) (by decide)
  refine G1 (fun _ k => XS.ddivS X161.here hx rfl (hb hby d5_317) rfl (by rw [hd162]; exact own_nn fr162) hd162 k) ?_
  show Goes _ _ _ _ _ _ _ (T161.setTop (mkF m 318 _ [(.double d162), (.int (5 : Int32)), (.ref x2)]))
  obtain ⟨cl163, Ar163, q163, S163, P163, H163, G163⟩ := id f152
  have hin163 : ¬ ((5 : Int32) < 0 ∨ cl163.slots.size ≤ ((5 : Int32)).toNatClampNeg) := inb_of S163 ⟨by decide, by decide⟩
  obtain ⟨T164, h164, X164, e164, W164, st164⟩ := stD X161 hx hZ e161 Ar163 (j := (5 : Int32)) hin163 (g := (mkF m 318 #[.val (.ref x0), nD tm, nS, .val (.ref x2), nD d5, nS, .val (.int (1 : Int32)), nD d11, nS, nD d13, nS, nD d14, nS, nD d18, nS, nD d21, nS, nD d24, nS, nD d25, nS, nD d28, nS, nD d32, nS, nD d35, nS, nD d38, nS, .val (.int (6 : Int32)), .val (.int (12 : Int32)), .val (.int (2 : Int32)), nD ve8, nS, nD d132, nS, nD ve14, nS, nD d138, nS] [(.double d162), (.int (5 : Int32)), (.ref x2)])) rfl rfl (hb hby d5_318)
  refine G1 st164 ?_
  have V164 := Arv.set Ar163 q163 S163 P163 H163 G163 rfl W164 5 rfl (Nat.le_of_ble_eq_true rfl)
  have f165 := f148.other W164 (Or.inl ne1)
  have f166 := f149.other W164 (Or.inl ne1)
  have f167 := f150.other W164 (Or.inl ne1)
  have f168 := f151.other W164 ne2
  have f169 := V164
  have K170 : Keep h0 h164 [x2] := K153.wr W164 (Or.inl (List.mem_of_getElem? (i := 0) rfl))
  have Z170 : n0 ≤ h164.size := by rw [Wr.size W164]; exact Z153
  have N170 := Fr.snoc X164 N153 g_x2
  show Goes _ _ _ _ _ _ _ (T164.setTop (mkF m 319 #[.val (.ref x0), nD tm, nS, .val (.ref x2), nD d5, nS, .val (.int (1 : Int32)), nD d11, nS, nD d13, nS, nD d14, nS, nD d18, nS, nD d21, nS, nD d24, nS, nD d25, nS, nD d28, nS, nD d32, nS, nD d35, nS, nD d38, nS, .val (.int (6 : Int32)), .val (.int (12 : Int32)), .val (.int (2 : Int32)), nD ve8, nS, nD d132, nS, nD ve14, nS, nD d138, nS] []))
  refine G1 (fun _ k => XS.iinc X164.here hx rfl (hb hby d5_319) rfl (l' := #[.val (.ref x0), nD tm, nS, .val (.ref x2), nD d5, nS, .val (.int (1 : Int32)), nD d11, nS, nD d13, nS, nD d14, nS, nD d18, nS, nD d21, nS, nD d24, nS, nD d25, nS, nD d28, nS, nD d32, nS, nD d35, nS, nD d38, nS, .val (.int (6 : Int32)), .val (.int (12 : Int32)), .val (.int (3 : Int32)), nD ve8, nS, nD d132, nS, nD ve14, nS, nD d138, nS]) rfl k) ?_
  show Goes _ _ _ _ _ _ _ (T164.setTop (mkF m 322 _ []))
  refine G1 (fun _ k => XS.goto X164.here hx rfl (pc0 := 322) (pc' := 190) rfl (hb hby d5_322) (by decide) (by decide) k) ?_
  show Goes _ _ _ _ _ _ _ (T164.setTop (mkF m 190 #[.val (.ref x0), nD tm, nS, .val (.ref x2), nD d5, nS, .val (.int (1 : Int32)), nD d11, nS, nD d13, nS, nD d14, nS, nD d18, nS, nD d21, nS, nD d24, nS, nD d25, nS, nD d28, nS, nD d32, nS, nD d35, nS, nD d38, nS, .val (.int (6 : Int32)), .val (.int (12 : Int32)), .val (.int (3 : Int32)), nD ve8, nS, nD d132, nS, nD ve14, nS, nD d138, nS] []))
  refine G1 (fun _ k => XS.iload X164.here hx rfl (hb hby d5_190) rfl  k) ?_
  refine G1 (fun _ k => XS.iconst X164.here hx rfl (hb hby d5_192) k) ?_
  refine G1 (fun _ k => XS.icmpYes X164.here hx rfl (pc0 := 193) (pc' := 325) rfl (hb hby d5_193) rfl (flt (by decide : ¬ ((3 : Int32) < (3 : Int32)))).2.1 (by decide) (by decide) k) ?_
  show Goes _ _ _ _ _ _ _ (T164.setTop (mkF m 325 _ []))
  exact Goes.retV X164 hx (BodyLoose.notSynchronized Bd) Bd.returns (hb hby d5_325) (by show Q5_1 Z x0 tm x2 sa ka kb stp ve0 ve1 ve2 ve3 ve4 ve5 ve6 ve7 ve8 ve9 ve10 ve11 ve12 ve13 ve14 ve15 ve16 ve17 vu0 vu1 vu2 vu3 vu4 vu5 ki si kc jv vP6 vP7 vP8 vP9 vP10 vP11 vP12 vP13 vP14 vP15 vP16 vP17 vg0 vg1 vg2 h0 n0 none T164.heap _; rw [e164]; exact ⟨N170, K170, rfl, d57, d101, d145, d74, d118, d162, ((((((((2 : Int) * ((jv * jv) * jv)) - (((3 : Int) * (jv * jv)) * ((2 ^ 3 : Nat) : Int))) + ((1 : Int) * ((2 ^ 9 : Nat) : Int))) * vP6) + (((((jv * jv) * jv) - (((2 : Int) * (jv * jv)) * ((2 ^ 3 : Nat) : Int))) + (jv * ((2 ^ 6 : Nat) : Int))) * (vP9 * si))) + ((((-2 : Int) * ((jv * jv) * jv)) + (((3 : Int) * (jv * jv)) * ((2 ^ 3 : Nat) : Int))) * vP12)) + ((((jv * jv) * jv) - ((jv * jv) * ((2 ^ 3 : Nat) : Int))) * (vP15 * si))), ((((((((2 : Int) * ((jv * jv) * jv)) - (((3 : Int) * (jv * jv)) * ((2 ^ 3 : Nat) : Int))) + ((1 : Int) * ((2 ^ 9 : Nat) : Int))) * vP7) + (((((jv * jv) * jv) - (((2 : Int) * (jv * jv)) * ((2 ^ 3 : Nat) : Int))) + (jv * ((2 ^ 6 : Nat) : Int))) * (vP10 * si))) + ((((-2 : Int) * ((jv * jv) * jv)) + (((3 : Int) * (jv * jv)) * ((2 ^ 3 : Nat) : Int))) * vP13)) + ((((jv * jv) * jv) - ((jv * jv) * ((2 ^ 3 : Nat) : Int))) * (vP16 * si))), ((((((((2 : Int) * ((jv * jv) * jv)) - (((3 : Int) * (jv * jv)) * ((2 ^ 3 : Nat) : Int))) + ((1 : Int) * ((2 ^ 9 : Nat) : Int))) * vP8) + (((((jv * jv) * jv) - (((2 : Int) * (jv * jv)) * ((2 ^ 3 : Nat) : Int))) + (jv * ((2 ^ 6 : Nat) : Int))) * (vP11 * si))) + ((((-2 : Int) * ((jv * jv) * jv)) + (((3 : Int) * (jv * jv)) * ((2 ^ 3 : Nat) : Int))) * vP14)) + ((((jv * jv) * jv) - ((jv * jv) * ((2 ^ 3 : Nat) : Int))) * (vP17 * si))), ((((((-6 : Int) * (jv * jv)) + (((6 : Int) * jv) * ((2 ^ 3 : Nat) : Int))) * vg0) + (((((3 : Int) * (jv * jv)) - (((4 : Int) * jv) * ((2 ^ 3 : Nat) : Int))) + ((1 : Int) * ((2 ^ 6 : Nat) : Int))) * vP9)) + ((((3 : Int) * (jv * jv)) - (((2 : Int) * jv) * ((2 ^ 3 : Nat) : Int))) * vP15)), ((((((-6 : Int) * (jv * jv)) + (((6 : Int) * jv) * ((2 ^ 3 : Nat) : Int))) * vg1) + (((((3 : Int) * (jv * jv)) - (((4 : Int) * jv) * ((2 ^ 3 : Nat) : Int))) + ((1 : Int) * ((2 ^ 6 : Nat) : Int))) * vP10)) + ((((3 : Int) * (jv * jv)) - (((2 : Int) * jv) * ((2 ^ 3 : Nat) : Int))) * vP16)), ((((((-6 : Int) * (jv * jv)) + (((6 : Int) * jv) * ((2 ^ 3 : Nat) : Int))) * vg2) + (((((3 : Int) * (jv * jv)) - (((4 : Int) * jv) * ((2 ^ 3 : Nat) : Int))) + ((1 : Int) * ((2 ^ 6 : Nat) : Int))) * vP11)) + ((((3 : Int) * (jv * jv)) - (((2 : Int) * jv) * ((2 ^ 3 : Nat) : Int))) * vP17)), f169, rfl, fr57, rfl, fr101, rfl, fr145, rfl, fr74, rfl, fr118, rfl, fr162⟩) (by decide) (by decide)
theorem d10_0 : decode method_5_code 0 = .ok (.lload_n 2, 1) := by decide +kernel
theorem d10_1 : decode method_5_code 1 = .ok (.iconst 0, 1) := by decide +kernel
theorem d10_2 : decode method_5_code 2 = .ok (.invokestatic 36, 3) := by decide +kernel
theorem d10_5 : decode method_5_code 5 = .ok (.lstore 8, 2) := by decide +kernel
theorem d10_7 : decode method_5_code 7 = .ok (.lload_n 2, 1) := by decide +kernel
theorem d10_8 : decode method_5_code 8 = .ok (.iconst 1, 1) := by decide +kernel
theorem d10_9 : decode method_5_code 9 = .ok (.invokestatic 36, 3) := by decide +kernel
theorem d10_12 : decode method_5_code 12 = .ok (.lstore 10, 2) := by decide +kernel
theorem d10_14 : decode method_5_code 14 = .ok (.lload_n 2, 1) := by decide +kernel
theorem d10_15 : decode method_5_code 15 = .ok (.iconst 2, 1) := by decide +kernel
theorem d10_16 : decode method_5_code 16 = .ok (.invokestatic 36, 3) := by decide +kernel
theorem d10_19 : decode method_5_code 19 = .ok (.lstore 12, 2) := by decide +kernel
theorem d10_21 : decode method_5_code 21 = .ok (.lload_n 2, 1) := by decide +kernel
theorem d10_22 : decode method_5_code 22 = .ok (.iconst 3, 1) := by decide +kernel
theorem d10_23 : decode method_5_code 23 = .ok (.invokestatic 36, 3) := by decide +kernel
theorem d10_26 : decode method_5_code 26 = .ok (.lstore 14, 2) := by decide +kernel
theorem d10_28 : decode method_5_code 28 = .ok (.lload_n 2, 1) := by decide +kernel
theorem d10_29 : decode method_5_code 29 = .ok (.iconst 4, 1) := by decide +kernel
theorem d10_30 : decode method_5_code 30 = .ok (.invokestatic 36, 3) := by decide +kernel
theorem d10_33 : decode method_5_code 33 = .ok (.lstore 16, 2) := by decide +kernel
theorem d10_35 : decode method_5_code 35 = .ok (.lload_n 2, 1) := by decide +kernel
theorem d10_36 : decode method_5_code 36 = .ok (.iconst 5, 1) := by decide +kernel
theorem d10_37 : decode method_5_code 37 = .ok (.invokestatic 36, 3) := by decide +kernel
theorem d10_40 : decode method_5_code 40 = .ok (.lstore 18, 2) := by decide +kernel
theorem d10_42 : decode method_5_code 42 = .ok (.ldc2_w 50, 3) := by decide +kernel
theorem d10_45 : decode method_5_code 45 = .ok (.lload 8, 2) := by decide +kernel
theorem d10_47 : decode method_5_code 47 = .ok (.lmul, 1) := by decide +kernel
theorem d10_48 : decode method_5_code 48 = .ok (.ldc2_w 52, 3) := by decide +kernel
theorem d10_51 : decode method_5_code 51 = .ok (.lload 10, 2) := by decide +kernel
theorem d10_53 : decode method_5_code 53 = .ok (.lmul, 1) := by decide +kernel
theorem d10_54 : decode method_5_code 54 = .ok (.lload 6, 2) := by decide +kernel
theorem d10_56 : decode method_5_code 56 = .ok (.lmul, 1) := by decide +kernel
theorem d10_57 : decode method_5_code 57 = .ok (.ladd, 1) := by decide +kernel
theorem d10_58 : decode method_5_code 58 = .ok (.ldc2_w 46, 3) := by decide +kernel
theorem d10_61 : decode method_5_code 61 = .ok (.lload 12, 2) := by decide +kernel
theorem d10_63 : decode method_5_code 63 = .ok (.lmul, 1) := by decide +kernel
theorem d10_64 : decode method_5_code 64 = .ok (.lload 6, 2) := by decide +kernel
theorem d10_66 : decode method_5_code 66 = .ok (.lmul, 1) := by decide +kernel
theorem d10_67 : decode method_5_code 67 = .ok (.lload 6, 2) := by decide +kernel
theorem d10_69 : decode method_5_code 69 = .ok (.lmul, 1) := by decide +kernel
theorem d10_70 : decode method_5_code 70 = .ok (.ladd, 1) := by decide +kernel
theorem d10_71 : decode method_5_code 71 = .ok (.lload 14, 2) := by decide +kernel
theorem d10_73 : decode method_5_code 73 = .ok (.lload 6, 2) := by decide +kernel
theorem d10_75 : decode method_5_code 75 = .ok (.lmul, 1) := by decide +kernel
theorem d10_76 : decode method_5_code 76 = .ok (.lload 6, 2) := by decide +kernel
theorem d10_78 : decode method_5_code 78 = .ok (.lmul, 1) := by decide +kernel
theorem d10_79 : decode method_5_code 79 = .ok (.lload 6, 2) := by decide +kernel
theorem d10_81 : decode method_5_code 81 = .ok (.lmul, 1) := by decide +kernel
theorem d10_82 : decode method_5_code 82 = .ok (.ladd, 1) := by decide +kernel
theorem d10_83 : decode method_5_code 83 = .ok (.lstore 20, 2) := by decide +kernel
theorem d10_85 : decode method_5_code 85 = .ok (.ldc2_w 52, 3) := by decide +kernel
theorem d10_88 : decode method_5_code 88 = .ok (.lload 10, 2) := by decide +kernel
theorem d10_90 : decode method_5_code 90 = .ok (.lmul, 1) := by decide +kernel
theorem d10_91 : decode method_5_code 91 = .ok (.ldc2_w 54, 3) := by decide +kernel
theorem d10_94 : decode method_5_code 94 = .ok (.lload 12, 2) := by decide +kernel
theorem d10_96 : decode method_5_code 96 = .ok (.lmul, 1) := by decide +kernel
theorem d10_97 : decode method_5_code 97 = .ok (.lload 6, 2) := by decide +kernel
theorem d10_99 : decode method_5_code 99 = .ok (.lmul, 1) := by decide +kernel
theorem d10_100 : decode method_5_code 100 = .ok (.ladd, 1) := by decide +kernel
theorem d10_101 : decode method_5_code 101 = .ok (.ldc2_w 42, 3) := by decide +kernel
theorem d10_104 : decode method_5_code 104 = .ok (.lload 14, 2) := by decide +kernel
theorem d10_106 : decode method_5_code 106 = .ok (.lmul, 1) := by decide +kernel
theorem d10_107 : decode method_5_code 107 = .ok (.lload 6, 2) := by decide +kernel
theorem d10_109 : decode method_5_code 109 = .ok (.lmul, 1) := by decide +kernel
theorem d10_110 : decode method_5_code 110 = .ok (.lload 6, 2) := by decide +kernel
theorem d10_112 : decode method_5_code 112 = .ok (.lmul, 1) := by decide +kernel
theorem d10_113 : decode method_5_code 113 = .ok (.ladd, 1) := by decide +kernel
theorem d10_114 : decode method_5_code 114 = .ok (.lstore 22, 2) := by decide +kernel
theorem d10_116 : decode method_5_code 116 = .ok (.lload 6, 2) := by decide +kernel
theorem d10_118 : decode method_5_code 118 = .ok (.ldc2_w 46, 3) := by decide +kernel
theorem d10_121 : decode method_5_code 121 = .ok (.lload 4, 2) := by decide +kernel
theorem d10_123 : decode method_5_code 123 = .ok (.lmul, 1) := by decide +kernel
theorem d10_124 : decode method_5_code 124 = .ok (.lcmp, 1) := by decide +kernel
theorem d10_125 : decode method_5_code 125 = .ok (.ifCond .le 70, 3) := by decide +kernel
theorem d10_128 : decode method_5_code 128 = .ok (.lload 6, 2) := by decide +kernel
theorem d10_130 : decode method_5_code 130 = .ok (.ldc2_w 46, 3) := by decide +kernel
theorem d10_133 : decode method_5_code 133 = .ok (.lload 4, 2) := by decide +kernel
theorem d10_135 : decode method_5_code 135 = .ok (.lmul, 1) := by decide +kernel
theorem d10_136 : decode method_5_code 136 = .ok (.lsub, 1) := by decide +kernel
theorem d10_137 : decode method_5_code 137 = .ok (.lstore 24, 2) := by decide +kernel
theorem d10_139 : decode method_5_code 139 = .ok (.lload 20, 2) := by decide +kernel
theorem d10_141 : decode method_5_code 141 = .ok (.ldc2_w 46, 3) := by decide +kernel
theorem d10_144 : decode method_5_code 144 = .ok (.lload 16, 2) := by decide +kernel
theorem d10_146 : decode method_5_code 146 = .ok (.lmul, 1) := by decide +kernel
theorem d10_147 : decode method_5_code 147 = .ok (.lload 24, 2) := by decide +kernel
theorem d10_149 : decode method_5_code 149 = .ok (.lmul, 1) := by decide +kernel
theorem d10_150 : decode method_5_code 150 = .ok (.lload 24, 2) := by decide +kernel
theorem d10_152 : decode method_5_code 152 = .ok (.lmul, 1) := by decide +kernel
theorem d10_153 : decode method_5_code 153 = .ok (.ladd, 1) := by decide +kernel
theorem d10_154 : decode method_5_code 154 = .ok (.lload 18, 2) := by decide +kernel
theorem d10_156 : decode method_5_code 156 = .ok (.lload 24, 2) := by decide +kernel
theorem d10_158 : decode method_5_code 158 = .ok (.lmul, 1) := by decide +kernel
theorem d10_159 : decode method_5_code 159 = .ok (.lload 24, 2) := by decide +kernel
theorem d10_161 : decode method_5_code 161 = .ok (.lmul, 1) := by decide +kernel
theorem d10_162 : decode method_5_code 162 = .ok (.lload 24, 2) := by decide +kernel
theorem d10_164 : decode method_5_code 164 = .ok (.lmul, 1) := by decide +kernel
theorem d10_165 : decode method_5_code 165 = .ok (.ladd, 1) := by decide +kernel
theorem d10_166 : decode method_5_code 166 = .ok (.lstore 20, 2) := by decide +kernel
theorem d10_168 : decode method_5_code 168 = .ok (.lload 22, 2) := by decide +kernel
theorem d10_170 : decode method_5_code 170 = .ok (.ldc2_w 54, 3) := by decide +kernel
theorem d10_173 : decode method_5_code 173 = .ok (.lload 16, 2) := by decide +kernel
theorem d10_175 : decode method_5_code 175 = .ok (.lmul, 1) := by decide +kernel
theorem d10_176 : decode method_5_code 176 = .ok (.lload 24, 2) := by decide +kernel
theorem d10_178 : decode method_5_code 178 = .ok (.lmul, 1) := by decide +kernel
theorem d10_179 : decode method_5_code 179 = .ok (.ladd, 1) := by decide +kernel
theorem d10_180 : decode method_5_code 180 = .ok (.ldc2_w 42, 3) := by decide +kernel
theorem d10_183 : decode method_5_code 183 = .ok (.lload 18, 2) := by decide +kernel
theorem d10_185 : decode method_5_code 185 = .ok (.lmul, 1) := by decide +kernel
theorem d10_186 : decode method_5_code 186 = .ok (.lload 24, 2) := by decide +kernel
theorem d10_188 : decode method_5_code 188 = .ok (.lmul, 1) := by decide +kernel
theorem d10_189 : decode method_5_code 189 = .ok (.lload 24, 2) := by decide +kernel
theorem d10_191 : decode method_5_code 191 = .ok (.lmul, 1) := by decide +kernel
theorem d10_192 : decode method_5_code 192 = .ok (.ladd, 1) := by decide +kernel
theorem d10_193 : decode method_5_code 193 = .ok (.lstore 22, 2) := by decide +kernel
theorem d10_195 : decode method_5_code 195 = .ok (.aload_n 0, 1) := by decide +kernel
theorem d10_196 : decode method_5_code 196 = .ok (.iload_n 1, 1) := by decide +kernel
theorem d10_197 : decode method_5_code 197 = .ok (.daload, 1) := by decide +kernel
theorem d10_198 : decode method_5_code 198 = .ok (.ldc2_w 56, 3) := by decide +kernel
theorem d10_201 : decode method_5_code 201 = .ok (.dmul, 1) := by decide +kernel
theorem d10_202 : decode method_5_code 202 = .ok (.lload 20, 2) := by decide +kernel
theorem d10_204 : decode method_5_code 204 = .ok (.l2d, 1) := by decide +kernel
theorem d10_205 : decode method_5_code 205 = .ok (.dcmp .l, 1) := by decide +kernel
theorem d10_206 : decode method_5_code 206 = .ok (.ifCond .ne 23, 3) := by decide +kernel
theorem d10_209 : decode method_5_code 209 = .ok (.aload_n 0, 1) := by decide +kernel
theorem d10_210 : decode method_5_code 210 = .ok (.iconst 3, 1) := by decide +kernel
theorem d10_211 : decode method_5_code 211 = .ok (.iload_n 1, 1) := by decide +kernel
theorem d10_212 : decode method_5_code 212 = .ok (.iadd, 1) := by decide +kernel
theorem d10_213 : decode method_5_code 213 = .ok (.daload, 1) := by decide +kernel
theorem d10_214 : decode method_5_code 214 = .ok (.ldc2_w 58, 3) := by decide +kernel
theorem d10_217 : decode method_5_code 217 = .ok (.dmul, 1) := by decide +kernel
theorem d10_218 : decode method_5_code 218 = .ok (.lload 22, 2) := by decide +kernel
theorem d10_220 : decode method_5_code 220 = .ok (.l2d, 1) := by decide +kernel
theorem d10_221 : decode method_5_code 221 = .ok (.dcmp .l, 1) := by decide +kernel
theorem d10_222 : decode method_5_code 222 = .ok (.ifCond .ne 7, 3) := by decide +kernel
theorem d10_225 : decode method_5_code 225 = .ok (.iconst 1, 1) := by decide +kernel
theorem d10_226 : decode method_5_code 226 = .ok (.goto 4, 3) := by decide +kernel
theorem d10_230 : decode method_5_code 230 = .ok (.ireturn, 1) := by decide +kernel
theorem pn_10 : plainName "com/example/orbitloom/orbitloom/orbits/TrackAtPinLaw" = true := by first | (simp [plainName, overriddenIn]; done) | decide +kernel
theorem ef_10_0 (m : MethodId) (x0 : Addr) (x2 : Int64) (x3 : Int64) (x4 : Int64) (ka : ClassId) (vu0 : UInt64) (vu1 : UInt64) (vu2 : UInt64) (vu3 : UInt64) (vu4 : UInt64) (vu5 : UInt64) (Iv : Int) (Jv : Int)  : entryFrame m #[(.ref x0), (.int (0 : Int32)), (.long x2), (.long x3), (.long x4)] 26 = mkF m 0 #[.val (.ref x0), .val (.int (0 : Int32)), .val (.long x2), .second, .val (.long x3), .second, .val (.long x4), .second, .unset, .unset, .unset, .unset, .unset, .unset, .unset, .unset, .unset, .unset, .unset, .unset, .unset, .unset, .unset, .unset, .unset, .unset] [] := by first | (simp [entryFrame, mkF, argsToLocals, Value.category]; done) | rfl
def Q10_0 (Z : State) (x0 : Addr) (x2 : Int64) (x3 : Int64) (x4 : Int64) (ka : ClassId) (vu0 : UInt64) (vu1 : UInt64) (vu2 : UInt64) (vu3 : UInt64) (vu4 : UInt64) (vu5 : UInt64) (Iv : Int) (Jv : Int) (h0 : Heap) (n0 : Nat) (v : Option Value) (h : Heap) (L : List Loc) : Prop := Fr n0 L ∧ h = h0 ∧ v = some (.int (1 : Int32))
set_option maxRecDepth 65536 in
set_option maxHeartbeats 40000000 in
theorem rm10_0 (l : Launch) (Z : State) (a0 : Array Value) (hw : ∀ d ∈ tables_1, d.before a0 Z = true) (ws : List Jvm.Cond) (x0 : Addr) (x2 : Int64) (x3 : Int64) (x4 : Int64) (ka : ClassId) (vu0 : UInt64) (vu1 : UInt64) (vu2 : UInt64) (vu3 : UInt64) (vu4 : UInt64) (vu5 : UInt64) (Iv : Int) (Jv : Int) (h0 : Heap) (n0 : Nat) (Z0 : n0 ≤ h0.size) (V_x0 : Arv Z h0 x0 ka .double (6 : Int32) [(.double vu0), (.double vu1), (.double vu2), (.double vu3), (.double vu4), (.double vu5)] (.double (0 : UInt64))) (hs : own_L x3 x3.toInt 16) (ht : own_L x4 x4.toInt 256) (fI : OwnF.Fr 9 Iv 1494648619008 vu0) (fJ : OwnF.Fr 6 Jv 43620761600 vu3) (h1 : ¬ ((8 : Int) * x3.toInt < x4.toInt) → Iv = (((((512 : Int) * (own_co x2 (0 : Int32)).toInt) + (((64 : Int) * (own_co x2 (1 : Int32)).toInt) * x4.toInt)) + ((((8 : Int) * (own_co x2 (2 : Int32)).toInt) * x4.toInt) * x4.toInt)) + ((((own_co x2 (3 : Int32)).toInt * x4.toInt) * x4.toInt) * x4.toInt)) ∧ Jv = ((((64 : Int) * (own_co x2 (1 : Int32)).toInt) + (((16 : Int) * (own_co x2 (2 : Int32)).toInt) * x4.toInt)) + ((((3 : Int) * (own_co x2 (3 : Int32)).toInt) * x4.toInt) * x4.toInt))) (h2 : (8 : Int) * x3.toInt < x4.toInt → Iv = (((((((512 : Int) * (own_co x2 (0 : Int32)).toInt) + (((64 : Int) * (own_co x2 (1 : Int32)).toInt) * x4.toInt)) + ((((8 : Int) * (own_co x2 (2 : Int32)).toInt) * x4.toInt) * x4.toInt)) + ((((own_co x2 (3 : Int32)).toInt * x4.toInt) * x4.toInt) * x4.toInt)) + ((((8 : Int) * (own_co x2 (4 : Int32)).toInt) * (x4.toInt - ((8 : Int) * x3.toInt))) * (x4.toInt - ((8 : Int) * x3.toInt)))) + ((((own_co x2 (5 : Int32)).toInt * (x4.toInt - ((8 : Int) * x3.toInt))) * (x4.toInt - ((8 : Int) * x3.toInt))) * (x4.toInt - ((8 : Int) * x3.toInt)))) ∧ Jv = ((((((64 : Int) * (own_co x2 (1 : Int32)).toInt) + (((16 : Int) * (own_co x2 (2 : Int32)).toInt) * x4.toInt)) + ((((3 : Int) * (own_co x2 (3 : Int32)).toInt) * x4.toInt) * x4.toInt)) + (((16 : Int) * (own_co x2 (4 : Int32)).toInt) * (x4.toInt - ((8 : Int) * x3.toInt)))) + ((((3 : Int) * (own_co x2 (5 : Int32)).toInt) * (x4.toInt - ((8 : Int) * x3.toInt))) * (x4.toInt - ((8 : Int) * x3.toInt))))) :
    MetFree l (⟨"com/example/orbitloom/orbitloom/orbits/TrackAtPinLaw", "check", "([DIJJJ)Z"⟩ : MethodName) (head1 (Jvm.Cond.code (⟨"com/example/orbitloom/orbitloom/orbits/TrackAtPinLaw", "check", "([DIJJJ)Z"⟩ : MethodName) method_5_code 26 (some .boolean) :: ws) ({ frames := 1, cells := 0, slots := 0, locals := 14 } : Room)) (fun a U => a = #[(.ref x0), (.int (0 : Int32)), (.long x2), (.long x3), (.long x4)] ∧ Z.Warmed39 U.vm ∧ U.heap = h0) (fun _ _ _ _ _ => True) (fun _ U o U' => ∃ v L, o = .returned v ∧ Q10_0 Z x0 x2 x3 x4 ka vu0 vu1 vu2 vu3 vu4 vu5 Iv Jv h0 n0 v U'.heap L ∧ FrameEnd U o U' L ({ frames := 1, cells := 0, slots := 0, locals := 14 } : Room).cells ({ frames := 1, cells := 0, slots := 0, locals := 14 } : Room).slots) := by
  refine MetFree.of_bodySF (plainFor_of_name pn_10) hisR ?_
  intro p e s m args below meth c s₁ Bd hml0 hP hK
  obtain ⟨rfl, hZ, hh⟩ := hP
  have w_3 := hw _ (List.mem_of_getElem? (i := 3) rfl)
  have w_5 := hw _ (List.mem_of_getElem? (i := 5) rfl)
  have w_6 := hw _ (List.mem_of_getElem? (i := 6) rfl)
  have w_7 := hw _ (List.mem_of_getElem? (i := 7) rfl)
  have w_9 := hw _ (List.mem_of_getElem? (i := 9) rfl)
  have w_11 := hw _ (List.mem_of_getElem? (i := 11) rfl)
  have w_57 := hw _ (List.mem_of_getElem? (i := 57) rfl)
  have w_58 := hw _ (List.mem_of_getElem? (i := 58) rfl)
  have w_59 := hw _ (List.mem_of_getElem? (i := 59) rfl)
  have w_60 := hw _ (List.mem_of_getElem? (i := 60) rfl)
  have w_61 := hw _ (List.mem_of_getElem? (i := 61) rfl)
  have hx := Bd.exec
  have hby := Bd.bytes
  have hml : c.maxLocals = 26 := hml0
  have hown : s.vm.findClass "com/example/orbitloom/orbitloom/orbits/TrackAtPinLaw" = some m.cls := findClass_of_methodNamed Bd.named
  have hnm := (name_of_methodNamed Bd.named Bd.method).1
  have X0 : Stand p l e ({ frames := 1, cells := 0, slots := 0, locals := 14 } : Room) s m #[(.ref x0), (.int (0 : Int32)), (.long x2), (.long x3), (.long x4)] below meth c s₁ [] 0 0 := Stand.of_body Bd
  have e0 : s₁.heap = h0 := by rw [← hh, Bd.state]; rfl
  have N0 := Fr.nil n0
  have K0 : Keep h0 h0 [] := Keep.refl h0 _
  refine (?_ : Goes p e below s ({ frames := 1, cells := 0, slots := 0, locals := 14 } : Room).cells ({ frames := 1, cells := 0, slots := 0, locals := 14 } : Room).slots (fun v h L => Q10_0 Z x0 x2 x3 x4 ka vu0 vu1 vu2 vu3 vu4 vu5 Iv Jv h0 n0 v h L) (s₁.setTop (entryFrame m #[(.ref x0), (.int (0 : Int32)), (.long x2), (.long x3), (.long x4)] 26)))
  rw [ef_10_0 m x0 x2 x3 x4 ka vu0 vu1 vu2 vu3 vu4 vu5 Iv Jv ]
  show Goes _ _ _ _ _ _ _ (s₁.setTop (mkF m 0 #[.val (.ref x0), .val (.int (0 : Int32)), .val (.long x2), nS, .val (.long x3), nS, .val (.long x4), nS, nU, nU, nU, nU, nU, nU, nU, nU, nU, nU, nU, nU, nU, nU, nU, nU, nU, nU] []))
  refine G1 (fun _ k => XS.lloadN X0.here hx rfl (hb hby d10_0) rfl  k) ?_
  refine G1 (fun _ k => XS.iconst X0.here hx rfl (hb hby d10_1) k) ?_
  obtain ⟨_, _, ⟨T1, L1, k1, n1⟩, -, X1, ⟨Lc1, hQ1, l1, y1, z1⟩, st1⟩ := Jvm.LawKit.callS X0 hx (y := (⟨"com/example/orbitloom/orbitloom/orbits/TrackAtPinLaw", "co", "(JI)J"⟩ : MethodName)) hown (mvT hZ w_5) (mvT hZ w_6) (mvT hZ w_3) (mvT hZ w_7) (by decide) (backOf (W := 0) (rm2 l Z a0 hw [] x2 (0 : Int32) h0 n0 Z0) hZ w_7 w_3 (by decide) (by decide)) (g := (mkF m 2 #[.val (.ref x0), .val (.int (0 : Int32)), .val (.long x2), nS, .val (.long x3), nS, .val (.long x4), nS, nU, nU, nU, nU, nU, nU, nU, nU, nU, nU, nU, nU, nU, nU, nU, nU, nU, nU] [(.int (0 : Int32)), (.long x2)])) rfl (by rw [hml]; rfl) (argsL := [(.long x2), (.int (0 : Int32))]) (rest := []) (lenOf pd_1 rfl) rfl (by show 2 * 0 + _ ≤ _; exact Nat.le_of_eq rfl) (hb hby d10_2) (fun _ _ => ⟨rfl, e0, (by decide : 0 + 0 ≤ _), (by decide : 0 + 0 ≤ _)⟩)
  dsimp only [Pt.U, Pt.locs, Pt.cells, Pt.slots] at X1 l1 y1 z1 st1 hQ1
  rw [l1, y1, z1] at X1
  obtain ⟨N1, eh1, hR1⟩ := hQ1
  have NA1 := Fr.app N0 N1
  obtain rfl := hR1
  refine G1 st1 ?_
  show Goes _ _ _ _ _ _ _ (T1.setTop (mkF m 5 _ [(.long (own_co x2 (0 : Int32)))]))
  refine G1 (fun _ k => XS.lstore X1.here hx rfl (hb hby d10_5) rfl (l' := #[.val (.ref x0), .val (.int (0 : Int32)), .val (.long x2), nS, .val (.long x3), nS, .val (.long x4), nS, .val (.long (own_co x2 (0 : Int32))), nS, nU, nU, nU, nU, nU, nU, nU, nU, nU, nU, nU, nU, nU, nU, nU, nU]) rfl k) ?_
  show Goes _ _ _ _ _ _ _ (T1.setTop (mkF m 7 _ []))
  refine G1 (fun _ k => XS.lloadN X1.here hx rfl (hb hby d10_7) rfl  k) ?_
  refine G1 (fun _ k => XS.iconst X1.here hx rfl (hb hby d10_8) k) ?_
  obtain ⟨_, _, ⟨T2, L2, k2, n2⟩, -, X2, ⟨Lc2, hQ2, l2, y2, z2⟩, st2⟩ := Jvm.LawKit.callS X1 hx (y := (⟨"com/example/orbitloom/orbitloom/orbits/TrackAtPinLaw", "co", "(JI)J"⟩ : MethodName)) hown (mvT hZ w_5) (mvT hZ w_6) (mvT hZ w_3) (mvT hZ w_7) (by decide) (backOf (W := 0) (rm2 l Z a0 hw [] x2 (1 : Int32) h0 n0 Z0) hZ w_7 w_3 (by decide) (by decide)) (g := (mkF m 9 #[.val (.ref x0), .val (.int (0 : Int32)), .val (.long x2), nS, .val (.long x3), nS, .val (.long x4), nS, .val (.long (own_co x2 (0 : Int32))), nS, nU, nU, nU, nU, nU, nU, nU, nU, nU, nU, nU, nU, nU, nU, nU, nU] [(.int (1 : Int32)), (.long x2)])) rfl (by rw [hml]; rfl) (argsL := [(.long x2), (.int (1 : Int32))]) (rest := []) (lenOf pd_1 rfl) rfl (by show 2 * 0 + _ ≤ _; exact Nat.le_of_eq rfl) (hb hby d10_9) (fun _ _ => ⟨rfl, eh1, (by decide : 0 + 0 ≤ _), (by decide : 0 + 0 ≤ _)⟩)
  dsimp only [Pt.U, Pt.locs, Pt.cells, Pt.slots] at X2 l2 y2 z2 st2 hQ2
  rw [l2, y2, z2] at X2
  obtain ⟨N2, eh2, hR2⟩ := hQ2
  have NA2 := Fr.app NA1 N2
  obtain rfl := hR2
  refine G1 st2 ?_
  show Goes _ _ _ _ _ _ _ (T2.setTop (mkF m 12 _ [(.long (own_co x2 (1 : Int32)))]))
  refine G1 (fun _ k => XS.lstore X2.here hx rfl (hb hby d10_12) rfl (l' := #[.val (.ref x0), .val (.int (0 : Int32)), .val (.long x2), nS, .val (.long x3), nS, .val (.long x4), nS, .val (.long (own_co x2 (0 : Int32))), nS, .val (.long (own_co x2 (1 : Int32))), nS, nU, nU, nU, nU, nU, nU, nU, nU, nU, nU, nU, nU, nU, nU]) rfl k) ?_
  show Goes _ _ _ _ _ _ _ (T2.setTop (mkF m 14 _ []))
  refine G1 (fun _ k => XS.lloadN X2.here hx rfl (hb hby d10_14) rfl  k) ?_
  refine G1 (fun _ k => XS.iconst X2.here hx rfl (hb hby d10_15) k) ?_
  obtain ⟨_, _, ⟨T3, L3, k3, n3⟩, -, X3, ⟨Lc3, hQ3, l3, y3, z3⟩, st3⟩ := Jvm.LawKit.callS X2 hx (y := (⟨"com/example/orbitloom/orbitloom/orbits/TrackAtPinLaw", "co", "(JI)J"⟩ : MethodName)) hown (mvT hZ w_5) (mvT hZ w_6) (mvT hZ w_3) (mvT hZ w_7) (by decide) (backOf (W := 0) (rm2 l Z a0 hw [] x2 (2 : Int32) h0 n0 Z0) hZ w_7 w_3 (by decide) (by decide)) (g := (mkF m 16 #[.val (.ref x0), .val (.int (0 : Int32)), .val (.long x2), nS, .val (.long x3), nS, .val (.long x4), nS, .val (.long (own_co x2 (0 : Int32))), nS, .val (.long (own_co x2 (1 : Int32))), nS, nU, nU, nU, nU, nU, nU, nU, nU, nU, nU, nU, nU, nU, nU] [(.int (2 : Int32)), (.long x2)])) rfl (by rw [hml]; rfl) (argsL := [(.long x2), (.int (2 : Int32))]) (rest := []) (lenOf pd_1 rfl) rfl (by show 2 * 0 + _ ≤ _; exact Nat.le_of_eq rfl) (hb hby d10_16) (fun _ _ => ⟨rfl, eh2, (by decide : 0 + 0 ≤ _), (by decide : 0 + 0 ≤ _)⟩)
  dsimp only [Pt.U, Pt.locs, Pt.cells, Pt.slots] at X3 l3 y3 z3 st3 hQ3
  rw [l3, y3, z3] at X3
  obtain ⟨N3, eh3, hR3⟩ := hQ3
  have NA3 := Fr.app NA2 N3
  obtain rfl := hR3
  refine G1 st3 ?_
  show Goes _ _ _ _ _ _ _ (T3.setTop (mkF m 19 _ [(.long (own_co x2 (2 : Int32)))]))
  refine G1 (fun _ k => XS.lstore X3.here hx rfl (hb hby d10_19) rfl (l' := #[.val (.ref x0), .val (.int (0 : Int32)), .val (.long x2), nS, .val (.long x3), nS, .val (.long x4), nS, .val (.long (own_co x2 (0 : Int32))), nS, .val (.long (own_co x2 (1 : Int32))), nS, .val (.long (own_co x2 (2 : Int32))), nS, nU, nU, nU, nU, nU, nU, nU, nU, nU, nU, nU, nU]) rfl k) ?_
  show Goes _ _ _ _ _ _ _ (T3.setTop (mkF m 21 _ []))
  refine G1 (fun _ k => XS.lloadN X3.here hx rfl (hb hby d10_21) rfl  k) ?_
  refine G1 (fun _ k => XS.iconst X3.here hx rfl (hb hby d10_22) k) ?_
  obtain ⟨_, _, ⟨T4, L4, k4, n4⟩, -, X4, ⟨Lc4, hQ4, l4, y4, z4⟩, st4⟩ := Jvm.LawKit.callS X3 hx (y := (⟨"com/example/orbitloom/orbitloom/orbits/TrackAtPinLaw", "co", "(JI)J"⟩ : MethodName)) hown (mvT hZ w_5) (mvT hZ w_6) (mvT hZ w_3) (mvT hZ w_7) (by decide) (backOf (W := 0) (rm2 l Z a0 hw [] x2 (3 : Int32) h0 n0 Z0) hZ w_7 w_3 (by decide) (by decide)) (g := (mkF m 23 #[.val (.ref x0), .val (.int (0 : Int32)), .val (.long x2), nS, .val (.long x3), nS, .val (.long x4), nS, .val (.long (own_co x2 (0 : Int32))), nS, .val (.long (own_co x2 (1 : Int32))), nS, .val (.long (own_co x2 (2 : Int32))), nS, nU, nU, nU, nU, nU, nU, nU, nU, nU, nU, nU, nU] [(.int (3 : Int32)), (.long x2)])) rfl (by rw [hml]; rfl) (argsL := [(.long x2), (.int (3 : Int32))]) (rest := []) (lenOf pd_1 rfl) rfl (by show 2 * 0 + _ ≤ _; exact Nat.le_of_eq rfl) (hb hby d10_23) (fun _ _ => ⟨rfl, eh3, (by decide : 0 + 0 ≤ _), (by decide : 0 + 0 ≤ _)⟩)
  dsimp only [Pt.U, Pt.locs, Pt.cells, Pt.slots] at X4 l4 y4 z4 st4 hQ4
  rw [l4, y4, z4] at X4
  obtain ⟨N4, eh4, hR4⟩ := hQ4
  have NA4 := Fr.app NA3 N4
  obtain rfl := hR4
  refine G1 st4 ?_
  show Goes _ _ _ _ _ _ _ (T4.setTop (mkF m 26 #[.val (.ref x0), .val (.int (0 : Int32)), .val (.long x2), nS, .val (.long x3), nS, .val (.long x4), nS, .val (.long (own_co x2 (0 : Int32))), nS, .val (.long (own_co x2 (1 : Int32))), nS, .val (.long (own_co x2 (2 : Int32))), nS, nU, nU, nU, nU, nU, nU, nU, nU, nU, nU, nU, nU] [(.long (own_co x2 (3 : Int32)))]))
  refine G1 (fun _ k => XS.lstore X4.here hx rfl (hb hby d10_26) rfl (l' := #[.val (.ref x0), .val (.int (0 : Int32)), .val (.long x2), nS, .val (.long x3), nS, .val (.long x4), nS, .val (.long (own_co x2 (0 : Int32))), nS, .val (.long (own_co x2 (1 : Int32))), nS, .val (.long (own_co x2 (2 : Int32))), nS, .val (.long (own_co x2 (3 : Int32))), nS, nU, nU, nU, nU, nU, nU, nU, nU, nU, nU]) rfl k) ?_
  show Goes _ _ _ _ _ _ _ (T4.setTop (mkF m 28 _ []))
  refine G1 (fun _ k => XS.lloadN X4.here hx rfl (hb hby d10_28) rfl  k) ?_
  refine G1 (fun _ k => XS.iconst X4.here hx rfl (hb hby d10_29) k) ?_
  obtain ⟨_, _, ⟨T5, L5, k5, n5⟩, -, X5, ⟨Lc5, hQ5, l5, y5, z5⟩, st5⟩ := Jvm.LawKit.callS X4 hx (y := (⟨"com/example/orbitloom/orbitloom/orbits/TrackAtPinLaw", "co", "(JI)J"⟩ : MethodName)) hown (mvT hZ w_5) (mvT hZ w_6) (mvT hZ w_3) (mvT hZ w_7) (by decide) (backOf (W := 0) (rm2 l Z a0 hw [] x2 (4 : Int32) h0 n0 Z0) hZ w_7 w_3 (by decide) (by decide)) (g := (mkF m 30 #[.val (.ref x0), .val (.int (0 : Int32)), .val (.long x2), nS, .val (.long x3), nS, .val (.long x4), nS, .val (.long (own_co x2 (0 : Int32))), nS, .val (.long (own_co x2 (1 : Int32))), nS, .val (.long (own_co x2 (2 : Int32))), nS, .val (.long (own_co x2 (3 : Int32))), nS, nU, nU, nU, nU, nU, nU, nU, nU, nU, nU] [(.int (4 : Int32)), (.long x2)])) rfl (by rw [hml]; rfl) (argsL := [(.long x2), (.int (4 : Int32))]) (rest := []) (lenOf pd_1 rfl) rfl (by show 2 * 0 + _ ≤ _; exact Nat.le_of_eq rfl) (hb hby d10_30) (fun _ _ => ⟨rfl, eh4, (by decide : 0 + 0 ≤ _), (by decide : 0 + 0 ≤ _)⟩)
  dsimp only [Pt.U, Pt.locs, Pt.cells, Pt.slots] at X5 l5 y5 z5 st5 hQ5
  rw [l5, y5, z5] at X5
  obtain ⟨N5, eh5, hR5⟩ := hQ5
  have NA5 := Fr.app NA4 N5
  obtain rfl := hR5
  refine G1 st5 ?_
  show Goes _ _ _ _ _ _ _ (T5.setTop (mkF m 33 _ [(.long (own_co x2 (4 : Int32)))]))
  refine G1 (fun _ k => XS.lstore X5.here hx rfl (hb hby d10_33) rfl (l' := #[.val (.ref x0), .val (.int (0 : Int32)), .val (.long x2), nS, .val (.long x3), nS, .val (.long x4), nS, .val (.long (own_co x2 (0 : Int32))), nS, .val (.long (own_co x2 (1 : Int32))), nS, .val (.long (own_co x2 (2 : Int32))), nS, .val (.long (own_co x2 (3 : Int32))), nS, .val (.long (own_co x2 (4 : Int32))), nS, nU, nU, nU, nU, nU, nU, nU, nU]) rfl k) ?_
  show Goes _ _ _ _ _ _ _ (T5.setTop (mkF m 35 _ []))
  refine G1 (fun _ k => XS.lloadN X5.here hx rfl (hb hby d10_35) rfl  k) ?_
  refine G1 (fun _ k => XS.iconst X5.here hx rfl (hb hby d10_36) k) ?_
  obtain ⟨_, _, ⟨T6, L6, k6, n6⟩, -, X6, ⟨Lc6, hQ6, l6, y6, z6⟩, st6⟩ := Jvm.LawKit.callS X5 hx (y := (⟨"com/example/orbitloom/orbitloom/orbits/TrackAtPinLaw", "co", "(JI)J"⟩ : MethodName)) hown (mvT hZ w_5) (mvT hZ w_6) (mvT hZ w_3) (mvT hZ w_7) (by decide) (backOf (W := 0) (rm2 l Z a0 hw [] x2 (5 : Int32) h0 n0 Z0) hZ w_7 w_3 (by decide) (by decide)) (g := (mkF m 37 #[.val (.ref x0), .val (.int (0 : Int32)), .val (.long x2), nS, .val (.long x3), nS, .val (.long x4), nS, .val (.long (own_co x2 (0 : Int32))), nS, .val (.long (own_co x2 (1 : Int32))), nS, .val (.long (own_co x2 (2 : Int32))), nS, .val (.long (own_co x2 (3 : Int32))), nS, .val (.long (own_co x2 (4 : Int32))), nS, nU, nU, nU, nU, nU, nU, nU, nU] [(.int (5 : Int32)), (.long x2)])) rfl (by rw [hml]; rfl) (argsL := [(.long x2), (.int (5 : Int32))]) (rest := []) (lenOf pd_1 rfl) rfl (by show 2 * 0 + _ ≤ _; exact Nat.le_of_eq rfl) (hb hby d10_37) (fun _ _ => ⟨rfl, eh5, (by decide : 0 + 0 ≤ _), (by decide : 0 + 0 ≤ _)⟩)
  dsimp only [Pt.U, Pt.locs, Pt.cells, Pt.slots] at X6 l6 y6 z6 st6 hQ6
  rw [l6, y6, z6] at X6
  obtain ⟨N6, eh6, hR6⟩ := hQ6
  have NA6 := Fr.app NA5 N6
  obtain rfl := hR6
  refine G1 st6 ?_
  show Goes _ _ _ _ _ _ _ (T6.setTop (mkF m 40 _ [(.long (own_co x2 (5 : Int32)))]))
  refine G1 (fun _ k => XS.lstore X6.here hx rfl (hb hby d10_40) rfl (l' := #[.val (.ref x0), .val (.int (0 : Int32)), .val (.long x2), nS, .val (.long x3), nS, .val (.long x4), nS, .val (.long (own_co x2 (0 : Int32))), nS, .val (.long (own_co x2 (1 : Int32))), nS, .val (.long (own_co x2 (2 : Int32))), nS, .val (.long (own_co x2 (3 : Int32))), nS, .val (.long (own_co x2 (4 : Int32))), nS, .val (.long (own_co x2 (5 : Int32))), nS, nU, nU, nU, nU, nU, nU]) rfl k) ?_
  show Goes _ _ _ _ _ _ _ (T6.setTop (mkF m 42 _ []))
  refine G1 (fun _ k => X6.ldc2Long hx hown (mvT hZ w_57) (g := (mkF m 42 #[.val (.ref x0), .val (.int (0 : Int32)), .val (.long x2), nS, .val (.long x3), nS, .val (.long x4), nS, .val (.long (own_co x2 (0 : Int32))), nS, .val (.long (own_co x2 (1 : Int32))), nS, .val (.long (own_co x2 (2 : Int32))), nS, .val (.long (own_co x2 (3 : Int32))), nS, .val (.long (own_co x2 (4 : Int32))), nS, .val (.long (own_co x2 (5 : Int32))), nS, nU, nU, nU, nU, nU, nU] [])) rfl (hb hby d10_42) _ k) ?_
  refine G1 (fun _ k => XS.lload X6.here hx rfl (hb hby d10_45) rfl  k) ?_
  refine G1 (fun _ k => XS.lmul X6.here hx rfl (hb hby d10_47) rfl k) ?_
  show Goes _ _ _ _ _ _ _ (T6.setTop (mkF m 48 _ [(.long ((512 : Int64) * (own_co x2 (0 : Int32))))]))
  refine G1 (fun _ k => X6.ldc2Long hx hown (mvT hZ w_58) (g := (mkF m 48 #[.val (.ref x0), .val (.int (0 : Int32)), .val (.long x2), nS, .val (.long x3), nS, .val (.long x4), nS, .val (.long (own_co x2 (0 : Int32))), nS, .val (.long (own_co x2 (1 : Int32))), nS, .val (.long (own_co x2 (2 : Int32))), nS, .val (.long (own_co x2 (3 : Int32))), nS, .val (.long (own_co x2 (4 : Int32))), nS, .val (.long (own_co x2 (5 : Int32))), nS, nU, nU, nU, nU, nU, nU] [(.long ((512 : Int64) * (own_co x2 (0 : Int32))))])) rfl (hb hby d10_48) _ k) ?_
  refine G1 (fun _ k => XS.lload X6.here hx rfl (hb hby d10_51) rfl  k) ?_
  refine G1 (fun _ k => XS.lmul X6.here hx rfl (hb hby d10_53) rfl k) ?_
  show Goes _ _ _ _ _ _ _ (T6.setTop (mkF m 54 #[.val (.ref x0), .val (.int (0 : Int32)), .val (.long x2), nS, .val (.long x3), nS, .val (.long x4), nS, .val (.long (own_co x2 (0 : Int32))), nS, .val (.long (own_co x2 (1 : Int32))), nS, .val (.long (own_co x2 (2 : Int32))), nS, .val (.long (own_co x2 (3 : Int32))), nS, .val (.long (own_co x2 (4 : Int32))), nS, .val (.long (own_co x2 (5 : Int32))), nS, nU, nU, nU, nU, nU, nU] [(.long ((64 : Int64) * (own_co x2 (1 : Int32)))), (.long ((512 : Int64) * (own_co x2 (0 : Int32))))]))
  refine G1 (fun _ k => XS.lload X6.here hx rfl (hb hby d10_54) rfl  k) ?_
  refine G1 (fun _ k => XS.lmul X6.here hx rfl (hb hby d10_56) rfl k) ?_
  show Goes _ _ _ _ _ _ _ (T6.setTop (mkF m 57 _ [(.long (((64 : Int64) * (own_co x2 (1 : Int32))) * x4)), (.long ((512 : Int64) * (own_co x2 (0 : Int32))))]))
  refine G1 (fun _ k => XS.ladd X6.here hx rfl (hb hby d10_57) rfl k) ?_
  show Goes _ _ _ _ _ _ _ (T6.setTop (mkF m 58 _ [(.long (((512 : Int64) * (own_co x2 (0 : Int32))) + (((64 : Int64) * (own_co x2 (1 : Int32))) * x4)))]))
  refine G1 (fun _ k => X6.ldc2Long hx hown (mvT hZ w_11) (g := (mkF m 58 #[.val (.ref x0), .val (.int (0 : Int32)), .val (.long x2), nS, .val (.long x3), nS, .val (.long x4), nS, .val (.long (own_co x2 (0 : Int32))), nS, .val (.long (own_co x2 (1 : Int32))), nS, .val (.long (own_co x2 (2 : Int32))), nS, .val (.long (own_co x2 (3 : Int32))), nS, .val (.long (own_co x2 (4 : Int32))), nS, .val (.long (own_co x2 (5 : Int32))), nS, nU, nU, nU, nU, nU, nU] [(.long (((512 : Int64) * (own_co x2 (0 : Int32))) + (((64 : Int64) * (own_co x2 (1 : Int32))) * x4)))])) rfl (hb hby d10_58) _ k) ?_
  refine G1 (fun _ k => XS.lload X6.here hx rfl (hb hby d10_61) rfl  k) ?_
  refine G1 (fun _ k => XS.lmul X6.here hx rfl (hb hby d10_63) rfl k) ?_
  show Goes _ _ _ _ _ _ _ (T6.setTop (mkF m 64 _ [(.long ((8 : Int64) * (own_co x2 (2 : Int32)))), (.long (((512 : Int64) * (own_co x2 (0 : Int32))) + (((64 : Int64) * (own_co x2 (1 : Int32))) * x4)))]))
  refine G1 (fun _ k => XS.lload X6.here hx rfl (hb hby d10_64) rfl  k) ?_
  refine G1 (fun _ k => XS.lmul X6.here hx rfl (hb hby d10_66) rfl k) ?_
  show Goes _ _ _ _ _ _ _ (T6.setTop (mkF m 67 _ [(.long (((8 : Int64) * (own_co x2 (2 : Int32))) * x4)), (.long (((512 : Int64) * (own_co x2 (0 : Int32))) + (((64 : Int64) * (own_co x2 (1 : Int32))) * x4)))]))
  refine G1 (fun _ k => XS.lload X6.here hx rfl (hb hby d10_67) rfl  k) ?_
  refine G1 (fun _ k => XS.lmul X6.here hx rfl (hb hby d10_69) rfl k) ?_
  show Goes _ _ _ _ _ _ _ (T6.setTop (mkF m 70 _ [(.long ((((8 : Int64) * (own_co x2 (2 : Int32))) * x4) * x4)), (.long (((512 : Int64) * (own_co x2 (0 : Int32))) + (((64 : Int64) * (own_co x2 (1 : Int32))) * x4)))]))
  refine G1 (fun _ k => XS.ladd X6.here hx rfl (hb hby d10_70) rfl k) ?_
  show Goes _ _ _ _ _ _ _ (T6.setTop (mkF m 71 _ [(.long ((((512 : Int64) * (own_co x2 (0 : Int32))) + (((64 : Int64) * (own_co x2 (1 : Int32))) * x4)) + ((((8 : Int64) * (own_co x2 (2 : Int32))) * x4) * x4)))]))
  refine G1 (fun _ k => XS.lload X6.here hx rfl (hb hby d10_71) rfl  k) ?_
  refine G1 (fun _ k => XS.lload X6.here hx rfl (hb hby d10_73) rfl  k) ?_
  refine G1 (fun _ k => XS.lmul X6.here hx rfl (hb hby d10_75) rfl k) ?_
  show Goes _ _ _ _ _ _ _ (T6.setTop (mkF m 76 #[.val (.ref x0), .val (.int (0 : Int32)), .val (.long x2), nS, .val (.long x3), nS, .val (.long x4), nS, .val (.long (own_co x2 (0 : Int32))), nS, .val (.long (own_co x2 (1 : Int32))), nS, .val (.long (own_co x2 (2 : Int32))), nS, .val (.long (own_co x2 (3 : Int32))), nS, .val (.long (own_co x2 (4 : Int32))), nS, .val (.long (own_co x2 (5 : Int32))), nS, nU, nU, nU, nU, nU, nU] [(.long ((own_co x2 (3 : Int32)) * x4)), (.long ((((512 : Int64) * (own_co x2 (0 : Int32))) + (((64 : Int64) * (own_co x2 (1 : Int32))) * x4)) + ((((8 : Int64) * (own_co x2 (2 : Int32))) * x4) * x4)))]))
  refine G1 (fun _ k => XS.lload X6.here hx rfl (hb hby d10_76) rfl  k) ?_
  refine G1 (fun _ k => XS.lmul X6.here hx rfl (hb hby d10_78) rfl k) ?_
  show Goes _ _ _ _ _ _ _ (T6.setTop (mkF m 79 _ [(.long (((own_co x2 (3 : Int32)) * x4) * x4)), (.long ((((512 : Int64) * (own_co x2 (0 : Int32))) + (((64 : Int64) * (own_co x2 (1 : Int32))) * x4)) + ((((8 : Int64) * (own_co x2 (2 : Int32))) * x4) * x4)))]))
  refine G1 (fun _ k => XS.lload X6.here hx rfl (hb hby d10_79) rfl  k) ?_
  refine G1 (fun _ k => XS.lmul X6.here hx rfl (hb hby d10_81) rfl k) ?_
  show Goes _ _ _ _ _ _ _ (T6.setTop (mkF m 82 _ [(.long ((((own_co x2 (3 : Int32)) * x4) * x4) * x4)), (.long ((((512 : Int64) * (own_co x2 (0 : Int32))) + (((64 : Int64) * (own_co x2 (1 : Int32))) * x4)) + ((((8 : Int64) * (own_co x2 (2 : Int32))) * x4) * x4)))]))
  refine G1 (fun _ k => XS.ladd X6.here hx rfl (hb hby d10_82) rfl k) ?_
  show Goes _ _ _ _ _ _ _ (T6.setTop (mkF m 83 _ [(.long (((((512 : Int64) * (own_co x2 (0 : Int32))) + (((64 : Int64) * (own_co x2 (1 : Int32))) * x4)) + ((((8 : Int64) * (own_co x2 (2 : Int32))) * x4) * x4)) + ((((own_co x2 (3 : Int32)) * x4) * x4) * x4)))]))
  refine G1 (fun _ k => XS.lstore X6.here hx rfl (hb hby d10_83) rfl (l' := #[.val (.ref x0), .val (.int (0 : Int32)), .val (.long x2), nS, .val (.long x3), nS, .val (.long x4), nS, .val (.long (own_co x2 (0 : Int32))), nS, .val (.long (own_co x2 (1 : Int32))), nS, .val (.long (own_co x2 (2 : Int32))), nS, .val (.long (own_co x2 (3 : Int32))), nS, .val (.long (own_co x2 (4 : Int32))), nS, .val (.long (own_co x2 (5 : Int32))), nS, .val (.long (((((512 : Int64) * (own_co x2 (0 : Int32))) + (((64 : Int64) * (own_co x2 (1 : Int32))) * x4)) + ((((8 : Int64) * (own_co x2 (2 : Int32))) * x4) * x4)) + ((((own_co x2 (3 : Int32)) * x4) * x4) * x4))), nS, nU, nU, nU, nU]) rfl k) ?_
  show Goes _ _ _ _ _ _ _ (T6.setTop (mkF m 85 _ []))
  show Goes _ _ _ _ _ _ _ (T6.setTop (mkF m 85 #[.val (.ref x0), .val (.int (0 : Int32)), .val (.long x2), nS, .val (.long x3), nS, .val (.long x4), nS, .val (.long (own_co x2 (0 : Int32))), nS, .val (.long (own_co x2 (1 : Int32))), nS, .val (.long (own_co x2 (2 : Int32))), nS, .val (.long (own_co x2 (3 : Int32))), nS, .val (.long (own_co x2 (4 : Int32))), nS, .val (.long (own_co x2 (5 : Int32))), nS, .val (.long (((((512 : Int64) * (own_co x2 (0 : Int32))) + (((64 : Int64) * (own_co x2 (1 : Int32))) * x4)) + ((((8 : Int64) * (own_co x2 (2 : Int32))) * x4) * x4)) + ((((own_co x2 (3 : Int32)) * x4) * x4) * x4))), nS, nU, nU, nU, nU] []))
  generalize hg_lv7 : (((((512 : Int64) * (own_co x2 (0 : Int32))) + (((64 : Int64) * (own_co x2 (1 : Int32))) * x4)) + ((((8 : Int64) * (own_co x2 (2 : Int32))) * x4) * x4)) + ((((own_co x2 (3 : Int32)) * x4) * x4) * x4)) = lv7
  show Goes _ _ _ _ _ _ _ (T6.setTop (mkF m 85 #[.val (.ref x0), .val (.int (0 : Int32)), .val (.long x2), nS, .val (.long x3), nS, .val (.long x4), nS, .val (.long (own_co x2 (0 : Int32))), nS, .val (.long (own_co x2 (1 : Int32))), nS, .val (.long (own_co x2 (2 : Int32))), nS, .val (.long (own_co x2 (3 : Int32))), nS, .val (.long (own_co x2 (4 : Int32))), nS, .val (.long (own_co x2 (5 : Int32))), nS, .val (.long lv7), nS, nU, nU, nU, nU] []))
  have Llv7 : own_L lv7 (((((512 : Int) * (own_co x2 (0 : Int32)).toInt) + (((64 : Int) * (own_co x2 (1 : Int32)).toInt) * x4.toInt)) + ((((8 : Int) * (own_co x2 (2 : Int32)).toInt) * x4.toInt) * x4.toInt)) + ((((own_co x2 (3 : Int32)).toInt * x4.toInt) * x4.toInt) * x4.toInt)) 8867020800 := hg_lv7 ▸ (own_L.add (own_L.add (own_L.add (own_L.mul (⟨by decide, by decide⟩ : own_L (512 : Int64) 512 512) (own_coL x2 (0 : Int32)) (by decide)) (own_L.mul (own_L.mul (⟨by decide, by decide⟩ : own_L (64 : Int64) 64 64) (own_coL x2 (1 : Int32)) (by decide)) ht (by decide)) (by decide)) (own_L.mul (own_L.mul (own_L.mul (⟨by decide, by decide⟩ : own_L (8 : Int64) 8 8) (own_coL x2 (2 : Int32)) (by decide)) ht (by decide)) ht (by decide)) (by decide)) (own_L.mul (own_L.mul (own_L.mul (own_coL x2 (3 : Int32)) ht (by decide)) ht (by decide)) ht (by decide)) (by decide))
  refine G1 (fun _ k => X6.ldc2Long hx hown (mvT hZ w_58) (g := (mkF m 85 #[.val (.ref x0), .val (.int (0 : Int32)), .val (.long x2), nS, .val (.long x3), nS, .val (.long x4), nS, .val (.long (own_co x2 (0 : Int32))), nS, .val (.long (own_co x2 (1 : Int32))), nS, .val (.long (own_co x2 (2 : Int32))), nS, .val (.long (own_co x2 (3 : Int32))), nS, .val (.long (own_co x2 (4 : Int32))), nS, .val (.long (own_co x2 (5 : Int32))), nS, .val (.long lv7), nS, nU, nU, nU, nU] [])) rfl (hb hby d10_85) _ k) ?_
  refine G1 (fun _ k => XS.lload X6.here hx rfl (hb hby d10_88) rfl  k) ?_
  refine G1 (fun _ k => XS.lmul X6.here hx rfl (hb hby d10_90) rfl k) ?_
  show Goes _ _ _ _ _ _ _ (T6.setTop (mkF m 91 _ [(.long ((64 : Int64) * (own_co x2 (1 : Int32))))]))
  refine G1 (fun _ k => X6.ldc2Long hx hown (mvT hZ w_59) (g := (mkF m 91 #[.val (.ref x0), .val (.int (0 : Int32)), .val (.long x2), nS, .val (.long x3), nS, .val (.long x4), nS, .val (.long (own_co x2 (0 : Int32))), nS, .val (.long (own_co x2 (1 : Int32))), nS, .val (.long (own_co x2 (2 : Int32))), nS, .val (.long (own_co x2 (3 : Int32))), nS, .val (.long (own_co x2 (4 : Int32))), nS, .val (.long (own_co x2 (5 : Int32))), nS, .val (.long lv7), nS, nU, nU, nU, nU] [(.long ((64 : Int64) * (own_co x2 (1 : Int32))))])) rfl (hb hby d10_91) _ k) ?_
  refine G1 (fun _ k => XS.lload X6.here hx rfl (hb hby d10_94) rfl  k) ?_
  refine G1 (fun _ k => XS.lmul X6.here hx rfl (hb hby d10_96) rfl k) ?_
  show Goes _ _ _ _ _ _ _ (T6.setTop (mkF m 97 _ [(.long ((16 : Int64) * (own_co x2 (2 : Int32)))), (.long ((64 : Int64) * (own_co x2 (1 : Int32))))]))
  refine G1 (fun _ k => XS.lload X6.here hx rfl (hb hby d10_97) rfl  k) ?_
  refine G1 (fun _ k => XS.lmul X6.here hx rfl (hb hby d10_99) rfl k) ?_
  show Goes _ _ _ _ _ _ _ (T6.setTop (mkF m 100 _ [(.long (((16 : Int64) * (own_co x2 (2 : Int32))) * x4)), (.long ((64 : Int64) * (own_co x2 (1 : Int32))))]))
  refine G1 (fun _ k => XS.ladd X6.here hx rfl (hb hby d10_100) rfl k) ?_
  show Goes _ _ _ _ _ _ _ (T6.setTop (mkF m 101 _ [(.long (((64 : Int64) * (own_co x2 (1 : Int32))) + (((16 : Int64) * (own_co x2 (2 : Int32))) * x4)))]))
  refine G1 (fun _ k => X6.ldc2Long hx hown (mvT hZ w_9) (g := (mkF m 101 #[.val (.ref x0), .val (.int (0 : Int32)), .val (.long x2), nS, .val (.long x3), nS, .val (.long x4), nS, .val (.long (own_co x2 (0 : Int32))), nS, .val (.long (own_co x2 (1 : Int32))), nS, .val (.long (own_co x2 (2 : Int32))), nS, .val (.long (own_co x2 (3 : Int32))), nS, .val (.long (own_co x2 (4 : Int32))), nS, .val (.long (own_co x2 (5 : Int32))), nS, .val (.long lv7), nS, nU, nU, nU, nU] [(.long (((64 : Int64) * (own_co x2 (1 : Int32))) + (((16 : Int64) * (own_co x2 (2 : Int32))) * x4)))])) rfl (hb hby d10_101) _ k) ?_
  refine G1 (fun _ k => XS.lload X6.here hx rfl (hb hby d10_104) rfl  k) ?_
  refine G1 (fun _ k => XS.lmul X6.here hx rfl (hb hby d10_106) rfl k) ?_
  show Goes _ _ _ _ _ _ _ (T6.setTop (mkF m 107 _ [(.long ((3 : Int64) * (own_co x2 (3 : Int32)))), (.long (((64 : Int64) * (own_co x2 (1 : Int32))) + (((16 : Int64) * (own_co x2 (2 : Int32))) * x4)))]))
  refine G1 (fun _ k => XS.lload X6.here hx rfl (hb hby d10_107) rfl  k) ?_
  refine G1 (fun _ k => XS.lmul X6.here hx rfl (hb hby d10_109) rfl k) ?_
  show Goes _ _ _ _ _ _ _ (T6.setTop (mkF m 110 _ [(.long (((3 : Int64) * (own_co x2 (3 : Int32))) * x4)), (.long (((64 : Int64) * (own_co x2 (1 : Int32))) + (((16 : Int64) * (own_co x2 (2 : Int32))) * x4)))]))
  refine G1 (fun _ k => XS.lload X6.here hx rfl (hb hby d10_110) rfl  k) ?_
  refine G1 (fun _ k => XS.lmul X6.here hx rfl (hb hby d10_112) rfl k) ?_
  show Goes _ _ _ _ _ _ _ (T6.setTop (mkF m 113 #[.val (.ref x0), .val (.int (0 : Int32)), .val (.long x2), nS, .val (.long x3), nS, .val (.long x4), nS, .val (.long (own_co x2 (0 : Int32))), nS, .val (.long (own_co x2 (1 : Int32))), nS, .val (.long (own_co x2 (2 : Int32))), nS, .val (.long (own_co x2 (3 : Int32))), nS, .val (.long (own_co x2 (4 : Int32))), nS, .val (.long (own_co x2 (5 : Int32))), nS, .val (.long lv7), nS, nU, nU, nU, nU] [(.long ((((3 : Int64) * (own_co x2 (3 : Int32))) * x4) * x4)), (.long (((64 : Int64) * (own_co x2 (1 : Int32))) + (((16 : Int64) * (own_co x2 (2 : Int32))) * x4)))]))
  refine G1 (fun _ k => XS.ladd X6.here hx rfl (hb hby d10_113) rfl k) ?_
  show Goes _ _ _ _ _ _ _ (T6.setTop (mkF m 114 _ [(.long ((((64 : Int64) * (own_co x2 (1 : Int32))) + (((16 : Int64) * (own_co x2 (2 : Int32))) * x4)) + ((((3 : Int64) * (own_co x2 (3 : Int32))) * x4) * x4)))]))
  refine G1 (fun _ k => XS.lstore X6.here hx rfl (hb hby d10_114) rfl (l' := #[.val (.ref x0), .val (.int (0 : Int32)), .val (.long x2), nS, .val (.long x3), nS, .val (.long x4), nS, .val (.long (own_co x2 (0 : Int32))), nS, .val (.long (own_co x2 (1 : Int32))), nS, .val (.long (own_co x2 (2 : Int32))), nS, .val (.long (own_co x2 (3 : Int32))), nS, .val (.long (own_co x2 (4 : Int32))), nS, .val (.long (own_co x2 (5 : Int32))), nS, .val (.long lv7), nS, .val (.long ((((64 : Int64) * (own_co x2 (1 : Int32))) + (((16 : Int64) * (own_co x2 (2 : Int32))) * x4)) + ((((3 : Int64) * (own_co x2 (3 : Int32))) * x4) * x4))), nS, nU, nU]) rfl k) ?_
  show Goes _ _ _ _ _ _ _ (T6.setTop (mkF m 116 _ []))
  show Goes _ _ _ _ _ _ _ (T6.setTop (mkF m 116 #[.val (.ref x0), .val (.int (0 : Int32)), .val (.long x2), nS, .val (.long x3), nS, .val (.long x4), nS, .val (.long (own_co x2 (0 : Int32))), nS, .val (.long (own_co x2 (1 : Int32))), nS, .val (.long (own_co x2 (2 : Int32))), nS, .val (.long (own_co x2 (3 : Int32))), nS, .val (.long (own_co x2 (4 : Int32))), nS, .val (.long (own_co x2 (5 : Int32))), nS, .val (.long lv7), nS, .val (.long ((((64 : Int64) * (own_co x2 (1 : Int32))) + (((16 : Int64) * (own_co x2 (2 : Int32))) * x4)) + ((((3 : Int64) * (own_co x2 (3 : Int32))) * x4) * x4))), nS, nU, nU] []))
  generalize hg_lv8 : ((((64 : Int64) * (own_co x2 (1 : Int32))) + (((16 : Int64) * (own_co x2 (2 : Int32))) * x4)) + ((((3 : Int64) * (own_co x2 (3 : Int32))) * x4) * x4)) = lv8
  show Goes _ _ _ _ _ _ _ (T6.setTop (mkF m 116 #[.val (.ref x0), .val (.int (0 : Int32)), .val (.long x2), nS, .val (.long x3), nS, .val (.long x4), nS, .val (.long (own_co x2 (0 : Int32))), nS, .val (.long (own_co x2 (1 : Int32))), nS, .val (.long (own_co x2 (2 : Int32))), nS, .val (.long (own_co x2 (3 : Int32))), nS, .val (.long (own_co x2 (4 : Int32))), nS, .val (.long (own_co x2 (5 : Int32))), nS, .val (.long lv7), nS, .val (.long lv8), nS, nU, nU] []))
  have Llv8 : own_L lv8 ((((64 : Int) * (own_co x2 (1 : Int32)).toInt) + (((16 : Int) * (own_co x2 (2 : Int32)).toInt) * x4.toInt)) + ((((3 : Int) * (own_co x2 (3 : Int32)).toInt) * x4.toInt) * x4.toInt)) 102793216 := hg_lv8 ▸ (own_L.add (own_L.add (own_L.mul (⟨by decide, by decide⟩ : own_L (64 : Int64) 64 64) (own_coL x2 (1 : Int32)) (by decide)) (own_L.mul (own_L.mul (⟨by decide, by decide⟩ : own_L (16 : Int64) 16 16) (own_coL x2 (2 : Int32)) (by decide)) ht (by decide)) (by decide)) (own_L.mul (own_L.mul (own_L.mul (⟨by decide, by decide⟩ : own_L (3 : Int64) 3 3) (own_coL x2 (3 : Int32)) (by decide)) ht (by decide)) ht (by decide)) (by decide))
  refine G1 (fun _ k => XS.lload X6.here hx rfl (hb hby d10_116) rfl  k) ?_
  refine G1 (fun _ k => X6.ldc2Long hx hown (mvT hZ w_11) (g := (mkF m 118 #[.val (.ref x0), .val (.int (0 : Int32)), .val (.long x2), nS, .val (.long x3), nS, .val (.long x4), nS, .val (.long (own_co x2 (0 : Int32))), nS, .val (.long (own_co x2 (1 : Int32))), nS, .val (.long (own_co x2 (2 : Int32))), nS, .val (.long (own_co x2 (3 : Int32))), nS, .val (.long (own_co x2 (4 : Int32))), nS, .val (.long (own_co x2 (5 : Int32))), nS, .val (.long lv7), nS, .val (.long lv8), nS, nU, nU] [(.long x4)])) rfl (hb hby d10_118) _ k) ?_
  refine G1 (fun _ k => XS.lload X6.here hx rfl (hb hby d10_121) rfl  k) ?_
  refine G1 (fun _ k => XS.lmul X6.here hx rfl (hb hby d10_123) rfl k) ?_
  show Goes _ _ _ _ _ _ _ (T6.setTop (mkF m 124 _ [(.long ((8 : Int64) * x3)), (.long x4)]))
  refine G1 (fun _ k => XS.lcmp X6.here hx rfl (hb hby d10_124) rfl k) ?_
  show Goes _ _ _ _ _ _ _ (T6.setTop (mkF m 125 _ [(.int (lcmpW x4 ((8 : Int64) * x3)))]))
  by_cases c125_9 : ((8 : Int64) * x3) < x4
  · refine G1 (fun _ k => XS.ifNo X6.here hx rfl (hb hby d10_125) rfl ((if0 _ _).trans (tlt ((lw_gt _ _).mpr c125_9)).2.2.2) k) ?_
    show Goes _ _ _ _ _ _ _ (T6.setTop (mkF m 128 _ []))
    refine G1 (fun _ k => XS.lload X6.here hx rfl (hb hby d10_128) rfl  k) ?_
    refine G1 (fun _ k => X6.ldc2Long hx hown (mvT hZ w_11) (g := (mkF m 130 #[.val (.ref x0), .val (.int (0 : Int32)), .val (.long x2), nS, .val (.long x3), nS, .val (.long x4), nS, .val (.long (own_co x2 (0 : Int32))), nS, .val (.long (own_co x2 (1 : Int32))), nS, .val (.long (own_co x2 (2 : Int32))), nS, .val (.long (own_co x2 (3 : Int32))), nS, .val (.long (own_co x2 (4 : Int32))), nS, .val (.long (own_co x2 (5 : Int32))), nS, .val (.long lv7), nS, .val (.long lv8), nS, nU, nU] [(.long x4)])) rfl (hb hby d10_130) _ k) ?_
    refine G1 (fun _ k => XS.lload X6.here hx rfl (hb hby d10_133) rfl  k) ?_
    refine G1 (fun _ k => XS.lmul X6.here hx rfl (hb hby d10_135) rfl k) ?_
    show Goes _ _ _ _ _ _ _ (T6.setTop (mkF m 136 _ [(.long ((8 : Int64) * x3)), (.long x4)]))
    refine G1 (fun _ k => XS.lsub X6.here hx rfl (hb hby d10_136) rfl k) ?_
    show Goes _ _ _ _ _ _ _ (T6.setTop (mkF m 137 _ [(.long (x4 - ((8 : Int64) * x3)))]))
    refine G1 (fun _ k => XS.lstore X6.here hx rfl (hb hby d10_137) rfl (l' := #[.val (.ref x0), .val (.int (0 : Int32)), .val (.long x2), nS, .val (.long x3), nS, .val (.long x4), nS, .val (.long (own_co x2 (0 : Int32))), nS, .val (.long (own_co x2 (1 : Int32))), nS, .val (.long (own_co x2 (2 : Int32))), nS, .val (.long (own_co x2 (3 : Int32))), nS, .val (.long (own_co x2 (4 : Int32))), nS, .val (.long (own_co x2 (5 : Int32))), nS, .val (.long lv7), nS, .val (.long lv8), nS, .val (.long (x4 - ((8 : Int64) * x3))), nS]) rfl k) ?_
    show Goes _ _ _ _ _ _ _ (T6.setTop (mkF m 139 _ []))
    show Goes _ _ _ _ _ _ _ (T6.setTop (mkF m 139 #[.val (.ref x0), .val (.int (0 : Int32)), .val (.long x2), nS, .val (.long x3), nS, .val (.long x4), nS, .val (.long (own_co x2 (0 : Int32))), nS, .val (.long (own_co x2 (1 : Int32))), nS, .val (.long (own_co x2 (2 : Int32))), nS, .val (.long (own_co x2 (3 : Int32))), nS, .val (.long (own_co x2 (4 : Int32))), nS, .val (.long (own_co x2 (5 : Int32))), nS, .val (.long lv7), nS, .val (.long lv8), nS, .val (.long (x4 - ((8 : Int64) * x3))), nS] []))
    generalize hg_lv10 : (x4 - ((8 : Int64) * x3)) = lv10
    show Goes _ _ _ _ _ _ _ (T6.setTop (mkF m 139 #[.val (.ref x0), .val (.int (0 : Int32)), .val (.long x2), nS, .val (.long x3), nS, .val (.long x4), nS, .val (.long (own_co x2 (0 : Int32))), nS, .val (.long (own_co x2 (1 : Int32))), nS, .val (.long (own_co x2 (2 : Int32))), nS, .val (.long (own_co x2 (3 : Int32))), nS, .val (.long (own_co x2 (4 : Int32))), nS, .val (.long (own_co x2 (5 : Int32))), nS, .val (.long lv7), nS, .val (.long lv8), nS, .val (.long lv10), nS] []))
    have Llv10 : own_L lv10 (x4.toInt - ((8 : Int) * x3.toInt)) 384 := hg_lv10 ▸ (own_L.sub ht (own_L.mul (⟨by decide, by decide⟩ : own_L (8 : Int64) 8 8) hs (by decide)) (by decide))
    refine G1 (fun _ k => XS.lload X6.here hx rfl (hb hby d10_139) rfl  k) ?_
    refine G1 (fun _ k => X6.ldc2Long hx hown (mvT hZ w_11) (g := (mkF m 141 #[.val (.ref x0), .val (.int (0 : Int32)), .val (.long x2), nS, .val (.long x3), nS, .val (.long x4), nS, .val (.long (own_co x2 (0 : Int32))), nS, .val (.long (own_co x2 (1 : Int32))), nS, .val (.long (own_co x2 (2 : Int32))), nS, .val (.long (own_co x2 (3 : Int32))), nS, .val (.long (own_co x2 (4 : Int32))), nS, .val (.long (own_co x2 (5 : Int32))), nS, .val (.long lv7), nS, .val (.long lv8), nS, .val (.long lv10), nS] [(.long lv7)])) rfl (hb hby d10_141) _ k) ?_
    refine G1 (fun _ k => XS.lload X6.here hx rfl (hb hby d10_144) rfl  k) ?_
    refine G1 (fun _ k => XS.lmul X6.here hx rfl (hb hby d10_146) rfl k) ?_
    show Goes _ _ _ _ _ _ _ (T6.setTop (mkF m 147 _ [(.long ((8 : Int64) * (own_co x2 (4 : Int32)))), (.long lv7)]))
    refine G1 (fun _ k => XS.lload X6.here hx rfl (hb hby d10_147) rfl  k) ?_
    refine G1 (fun _ k => XS.lmul X6.here hx rfl (hb hby d10_149) rfl k) ?_
    show Goes _ _ _ _ _ _ _ (T6.setTop (mkF m 150 _ [(.long (((8 : Int64) * (own_co x2 (4 : Int32))) * lv10)), (.long lv7)]))
    refine G1 (fun _ k => XS.lload X6.here hx rfl (hb hby d10_150) rfl  k) ?_
    refine G1 (fun _ k => XS.lmul X6.here hx rfl (hb hby d10_152) rfl k) ?_
    show Goes _ _ _ _ _ _ _ (T6.setTop (mkF m 153 _ [(.long ((((8 : Int64) * (own_co x2 (4 : Int32))) * lv10) * lv10)), (.long lv7)]))
    refine G1 (fun _ k => XS.ladd X6.here hx rfl (hb hby d10_153) rfl k) ?_
    show Goes _ _ _ _ _ _ _ (T6.setTop (mkF m 154 _ [(.long (lv7 + ((((8 : Int64) * (own_co x2 (4 : Int32))) * lv10) * lv10)))]))
    refine G1 (fun _ k => XS.lload X6.here hx rfl (hb hby d10_154) rfl  k) ?_
    refine G1 (fun _ k => XS.lload X6.here hx rfl (hb hby d10_156) rfl  k) ?_
    refine G1 (fun _ k => XS.lmul X6.here hx rfl (hb hby d10_158) rfl k) ?_
    show Goes _ _ _ _ _ _ _ (T6.setTop (mkF m 159 _ [(.long ((own_co x2 (5 : Int32)) * lv10)), (.long (lv7 + ((((8 : Int64) * (own_co x2 (4 : Int32))) * lv10) * lv10)))]))
    refine G1 (fun _ k => XS.lload X6.here hx rfl (hb hby d10_159) rfl  k) ?_
    refine G1 (fun _ k => XS.lmul X6.here hx rfl (hb hby d10_161) rfl k) ?_
    show Goes _ _ _ _ _ _ _ (T6.setTop (mkF m 162 _ [(.long (((own_co x2 (5 : Int32)) * lv10) * lv10)), (.long (lv7 + ((((8 : Int64) * (own_co x2 (4 : Int32))) * lv10) * lv10)))]))
    refine G1 (fun _ k => XS.lload X6.here hx rfl (hb hby d10_162) rfl  k) ?_
    refine G1 (fun _ k => XS.lmul X6.here hx rfl (hb hby d10_164) rfl k) ?_
    show Goes _ _ _ _ _ _ _ (T6.setTop (mkF m 165 #[.val (.ref x0), .val (.int (0 : Int32)), .val (.long x2), nS, .val (.long x3), nS, .val (.long x4), nS, .val (.long (own_co x2 (0 : Int32))), nS, .val (.long (own_co x2 (1 : Int32))), nS, .val (.long (own_co x2 (2 : Int32))), nS, .val (.long (own_co x2 (3 : Int32))), nS, .val (.long (own_co x2 (4 : Int32))), nS, .val (.long (own_co x2 (5 : Int32))), nS, .val (.long lv7), nS, .val (.long lv8), nS, .val (.long lv10), nS] [(.long ((((own_co x2 (5 : Int32)) * lv10) * lv10) * lv10)), (.long (lv7 + ((((8 : Int64) * (own_co x2 (4 : Int32))) * lv10) * lv10)))]))
    refine G1 (fun _ k => XS.ladd X6.here hx rfl (hb hby d10_165) rfl k) ?_
    show Goes _ _ _ _ _ _ _ (T6.setTop (mkF m 166 _ [(.long ((lv7 + ((((8 : Int64) * (own_co x2 (4 : Int32))) * lv10) * lv10)) + ((((own_co x2 (5 : Int32)) * lv10) * lv10) * lv10)))]))
    refine G1 (fun _ k => XS.lstore X6.here hx rfl (hb hby d10_166) rfl (l' := #[.val (.ref x0), .val (.int (0 : Int32)), .val (.long x2), nS, .val (.long x3), nS, .val (.long x4), nS, .val (.long (own_co x2 (0 : Int32))), nS, .val (.long (own_co x2 (1 : Int32))), nS, .val (.long (own_co x2 (2 : Int32))), nS, .val (.long (own_co x2 (3 : Int32))), nS, .val (.long (own_co x2 (4 : Int32))), nS, .val (.long (own_co x2 (5 : Int32))), nS, .val (.long ((lv7 + ((((8 : Int64) * (own_co x2 (4 : Int32))) * lv10) * lv10)) + ((((own_co x2 (5 : Int32)) * lv10) * lv10) * lv10))), nS, .val (.long lv8), nS, .val (.long lv10), nS]) rfl k) ?_
    show Goes _ _ _ _ _ _ _ (T6.setTop (mkF m 168 _ []))
    show Goes _ _ _ _ _ _ _ (T6.setTop (mkF m 168 #[.val (.ref x0), .val (.int (0 : Int32)), .val (.long x2), nS, .val (.long x3), nS, .val (.long x4), nS, .val (.long (own_co x2 (0 : Int32))), nS, .val (.long (own_co x2 (1 : Int32))), nS, .val (.long (own_co x2 (2 : Int32))), nS, .val (.long (own_co x2 (3 : Int32))), nS, .val (.long (own_co x2 (4 : Int32))), nS, .val (.long (own_co x2 (5 : Int32))), nS, .val (.long ((lv7 + ((((8 : Int64) * (own_co x2 (4 : Int32))) * lv10) * lv10)) + ((((own_co x2 (5 : Int32)) * lv10) * lv10) * lv10))), nS, .val (.long lv8), nS, .val (.long lv10), nS] []))
    generalize hg_lv11 : ((lv7 + ((((8 : Int64) * (own_co x2 (4 : Int32))) * lv10) * lv10)) + ((((own_co x2 (5 : Int32)) * lv10) * lv10) * lv10)) = lv11
    show Goes _ _ _ _ _ _ _ (T6.setTop (mkF m 168 #[.val (.ref x0), .val (.int (0 : Int32)), .val (.long x2), nS, .val (.long x3), nS, .val (.long x4), nS, .val (.long (own_co x2 (0 : Int32))), nS, .val (.long (own_co x2 (1 : Int32))), nS, .val (.long (own_co x2 (2 : Int32))), nS, .val (.long (own_co x2 (3 : Int32))), nS, .val (.long (own_co x2 (4 : Int32))), nS, .val (.long (own_co x2 (5 : Int32))), nS, .val (.long lv11), nS, .val (.long lv8), nS, .val (.long lv10), nS] []))
    have Llv11 : own_L lv11 (((((((512 : Int) * (own_co x2 (0 : Int32)).toInt) + (((64 : Int) * (own_co x2 (1 : Int32)).toInt) * x4.toInt)) + ((((8 : Int) * (own_co x2 (2 : Int32)).toInt) * x4.toInt) * x4.toInt)) + ((((own_co x2 (3 : Int32)).toInt * x4.toInt) * x4.toInt) * x4.toInt)) + ((((8 : Int) * (own_co x2 (4 : Int32)).toInt) * (x4.toInt - ((8 : Int) * x3.toInt))) * (x4.toInt - ((8 : Int) * x3.toInt)))) + ((((own_co x2 (5 : Int32)).toInt * (x4.toInt - ((8 : Int) * x3.toInt))) * (x4.toInt - ((8 : Int) * x3.toInt))) * (x4.toInt - ((8 : Int) * x3.toInt)))) 38462029824 := hg_lv11 ▸ (own_L.add (own_L.add Llv7 (own_L.mul (own_L.mul (own_L.mul (⟨by decide, by decide⟩ : own_L (8 : Int64) 8 8) (own_coL x2 (4 : Int32)) (by decide)) Llv10 (by decide)) Llv10 (by decide)) (by decide)) (own_L.mul (own_L.mul (own_L.mul (own_coL x2 (5 : Int32)) Llv10 (by decide)) Llv10 (by decide)) Llv10 (by decide)) (by decide))
    refine G1 (fun _ k => XS.lload X6.here hx rfl (hb hby d10_168) rfl  k) ?_
    refine G1 (fun _ k => X6.ldc2Long hx hown (mvT hZ w_59) (g := (mkF m 170 #[.val (.ref x0), .val (.int (0 : Int32)), .val (.long x2), nS, .val (.long x3), nS, .val (.long x4), nS, .val (.long (own_co x2 (0 : Int32))), nS, .val (.long (own_co x2 (1 : Int32))), nS, .val (.long (own_co x2 (2 : Int32))), nS, .val (.long (own_co x2 (3 : Int32))), nS, .val (.long (own_co x2 (4 : Int32))), nS, .val (.long (own_co x2 (5 : Int32))), nS, .val (.long lv11), nS, .val (.long lv8), nS, .val (.long lv10), nS] [(.long lv8)])) rfl (hb hby d10_170) _ k) ?_
    refine G1 (fun _ k => XS.lload X6.here hx rfl (hb hby d10_173) rfl  k) ?_
    refine G1 (fun _ k => XS.lmul X6.here hx rfl (hb hby d10_175) rfl k) ?_
    show Goes _ _ _ _ _ _ _ (T6.setTop (mkF m 176 _ [(.long ((16 : Int64) * (own_co x2 (4 : Int32)))), (.long lv8)]))
    refine G1 (fun _ k => XS.lload X6.here hx rfl (hb hby d10_176) rfl  k) ?_
    refine G1 (fun _ k => XS.lmul X6.here hx rfl (hb hby d10_178) rfl k) ?_
    show Goes _ _ _ _ _ _ _ (T6.setTop (mkF m 179 _ [(.long (((16 : Int64) * (own_co x2 (4 : Int32))) * lv10)), (.long lv8)]))
    refine G1 (fun _ k => XS.ladd X6.here hx rfl (hb hby d10_179) rfl k) ?_
    show Goes _ _ _ _ _ _ _ (T6.setTop (mkF m 180 _ [(.long (lv8 + (((16 : Int64) * (own_co x2 (4 : Int32))) * lv10)))]))
    refine G1 (fun _ k => X6.ldc2Long hx hown (mvT hZ w_9) (g := (mkF m 180 #[.val (.ref x0), .val (.int (0 : Int32)), .val (.long x2), nS, .val (.long x3), nS, .val (.long x4), nS, .val (.long (own_co x2 (0 : Int32))), nS, .val (.long (own_co x2 (1 : Int32))), nS, .val (.long (own_co x2 (2 : Int32))), nS, .val (.long (own_co x2 (3 : Int32))), nS, .val (.long (own_co x2 (4 : Int32))), nS, .val (.long (own_co x2 (5 : Int32))), nS, .val (.long lv11), nS, .val (.long lv8), nS, .val (.long lv10), nS] [(.long (lv8 + (((16 : Int64) * (own_co x2 (4 : Int32))) * lv10)))])) rfl (hb hby d10_180) _ k) ?_
    refine G1 (fun _ k => XS.lload X6.here hx rfl (hb hby d10_183) rfl  k) ?_
    refine G1 (fun _ k => XS.lmul X6.here hx rfl (hb hby d10_185) rfl k) ?_
    show Goes _ _ _ _ _ _ _ (T6.setTop (mkF m 186 _ [(.long ((3 : Int64) * (own_co x2 (5 : Int32)))), (.long (lv8 + (((16 : Int64) * (own_co x2 (4 : Int32))) * lv10)))]))
    refine G1 (fun _ k => XS.lload X6.here hx rfl (hb hby d10_186) rfl  k) ?_
    refine G1 (fun _ k => XS.lmul X6.here hx rfl (hb hby d10_188) rfl k) ?_
    show Goes _ _ _ _ _ _ _ (T6.setTop (mkF m 189 _ [(.long (((3 : Int64) * (own_co x2 (5 : Int32))) * lv10)), (.long (lv8 + (((16 : Int64) * (own_co x2 (4 : Int32))) * lv10)))]))
    refine G1 (fun _ k => XS.lload X6.here hx rfl (hb hby d10_189) rfl  k) ?_
    refine G1 (fun _ k => XS.lmul X6.here hx rfl (hb hby d10_191) rfl k) ?_
    show Goes _ _ _ _ _ _ _ (T6.setTop (mkF m 192 _ [(.long ((((3 : Int64) * (own_co x2 (5 : Int32))) * lv10) * lv10)), (.long (lv8 + (((16 : Int64) * (own_co x2 (4 : Int32))) * lv10)))]))
    refine G1 (fun _ k => XS.ladd X6.here hx rfl (hb hby d10_192) rfl k) ?_
    show Goes _ _ _ _ _ _ _ (T6.setTop (mkF m 193 #[.val (.ref x0), .val (.int (0 : Int32)), .val (.long x2), nS, .val (.long x3), nS, .val (.long x4), nS, .val (.long (own_co x2 (0 : Int32))), nS, .val (.long (own_co x2 (1 : Int32))), nS, .val (.long (own_co x2 (2 : Int32))), nS, .val (.long (own_co x2 (3 : Int32))), nS, .val (.long (own_co x2 (4 : Int32))), nS, .val (.long (own_co x2 (5 : Int32))), nS, .val (.long lv11), nS, .val (.long lv8), nS, .val (.long lv10), nS] [(.long ((lv8 + (((16 : Int64) * (own_co x2 (4 : Int32))) * lv10)) + ((((3 : Int64) * (own_co x2 (5 : Int32))) * lv10) * lv10)))]))
    refine G1 (fun _ k => XS.lstore X6.here hx rfl (hb hby d10_193) rfl (l' := #[.val (.ref x0), .val (.int (0 : Int32)), .val (.long x2), nS, .val (.long x3), nS, .val (.long x4), nS, .val (.long (own_co x2 (0 : Int32))), nS, .val (.long (own_co x2 (1 : Int32))), nS, .val (.long (own_co x2 (2 : Int32))), nS, .val (.long (own_co x2 (3 : Int32))), nS, .val (.long (own_co x2 (4 : Int32))), nS, .val (.long (own_co x2 (5 : Int32))), nS, .val (.long lv11), nS, .val (.long ((lv8 + (((16 : Int64) * (own_co x2 (4 : Int32))) * lv10)) + ((((3 : Int64) * (own_co x2 (5 : Int32))) * lv10) * lv10))), nS, .val (.long lv10), nS]) rfl k) ?_
    show Goes _ _ _ _ _ _ _ (T6.setTop (mkF m 195 _ []))
    show Goes _ _ _ _ _ _ _ (T6.setTop (mkF m 195 #[.val (.ref x0), .val (.int (0 : Int32)), .val (.long x2), nS, .val (.long x3), nS, .val (.long x4), nS, .val (.long (own_co x2 (0 : Int32))), nS, .val (.long (own_co x2 (1 : Int32))), nS, .val (.long (own_co x2 (2 : Int32))), nS, .val (.long (own_co x2 (3 : Int32))), nS, .val (.long (own_co x2 (4 : Int32))), nS, .val (.long (own_co x2 (5 : Int32))), nS, .val (.long lv11), nS, .val (.long ((lv8 + (((16 : Int64) * (own_co x2 (4 : Int32))) * lv10)) + ((((3 : Int64) * (own_co x2 (5 : Int32))) * lv10) * lv10))), nS, .val (.long lv10), nS] []))
    generalize hg_lv12 : ((lv8 + (((16 : Int64) * (own_co x2 (4 : Int32))) * lv10)) + ((((3 : Int64) * (own_co x2 (5 : Int32))) * lv10) * lv10)) = lv12
    show Goes _ _ _ _ _ _ _ (T6.setTop (mkF m 195 #[.val (.ref x0), .val (.int (0 : Int32)), .val (.long x2), nS, .val (.long x3), nS, .val (.long x4), nS, .val (.long (own_co x2 (0 : Int32))), nS, .val (.long (own_co x2 (1 : Int32))), nS, .val (.long (own_co x2 (2 : Int32))), nS, .val (.long (own_co x2 (3 : Int32))), nS, .val (.long (own_co x2 (4 : Int32))), nS, .val (.long (own_co x2 (5 : Int32))), nS, .val (.long lv11), nS, .val (.long lv12), nS, .val (.long lv10), nS] []))
    have Llv12 : own_L lv12 ((((((64 : Int) * (own_co x2 (1 : Int32)).toInt) + (((16 : Int) * (own_co x2 (2 : Int32)).toInt) * x4.toInt)) + ((((3 : Int) * (own_co x2 (3 : Int32)).toInt) * x4.toInt) * x4.toInt)) + (((16 : Int) * (own_co x2 (4 : Int32)).toInt) * (x4.toInt - ((8 : Int) * x3.toInt)))) + ((((3 : Int) * (own_co x2 (5 : Int32)).toInt) * (x4.toInt - ((8 : Int) * x3.toInt))) * (x4.toInt - ((8 : Int) * x3.toInt)))) 332431360 := hg_lv12 ▸ (own_L.add (own_L.add Llv8 (own_L.mul (own_L.mul (⟨by decide, by decide⟩ : own_L (16 : Int64) 16 16) (own_coL x2 (4 : Int32)) (by decide)) Llv10 (by decide)) (by decide)) (own_L.mul (own_L.mul (own_L.mul (⟨by decide, by decide⟩ : own_L (3 : Int64) 3 3) (own_coL x2 (5 : Int32)) (by decide)) Llv10 (by decide)) Llv10 (by decide)) (by decide))
    refine G1 (fun _ k => XS.aloadN X6.here hx rfl (hb hby d10_195) rfl rfl k) ?_
    refine G1 (fun _ k => XS.iloadN X6.here hx rfl (hb hby d10_196) rfl  k) ?_
    obtain ⟨cl13, Ar13, q13, S13, P13, H13, G13⟩ := id V_x0
    have hin13 : ¬ ((0 : Int32) < 0 ∨ cl13.slots.size ≤ ((0 : Int32)).toNatClampNeg) := inb_of S13 ⟨by decide, by decide⟩
    have hat13 : cl13.slots[((0 : Int32)).toNatClampNeg]? = some (.double vu0) := H13 _ (by rw [S13]; decide)
    refine G1 (fun _ k => X6.daload hx (j := (0 : Int32)) (v := (.double vu0)) (by rw [eh6]; exact Ar13.1) (State.isArrayOf_alike hZ.alike Ar13.2.1) Ar13.2.2 hin13 hat13 (g := (mkF m 197 #[.val (.ref x0), .val (.int (0 : Int32)), .val (.long x2), nS, .val (.long x3), nS, .val (.long x4), nS, .val (.long (own_co x2 (0 : Int32))), nS, .val (.long (own_co x2 (1 : Int32))), nS, .val (.long (own_co x2 (2 : Int32))), nS, .val (.long (own_co x2 (3 : Int32))), nS, .val (.long (own_co x2 (4 : Int32))), nS, .val (.long (own_co x2 (5 : Int32))), nS, .val (.long lv11), nS, .val (.long lv12), nS, .val (.long lv10), nS] [(.int (0 : Int32)), (.ref x0)])) rfl rfl (hb hby d10_197) _ k) ?_
    show Goes _ _ _ _ _ _ _ (T6.setTop (mkF m 198 _ [(.double vu0)]))
    refine G1 (fun _ k => X6.ldc2DoubleC hx hown (mvT hZ w_60) (g := (mkF m 198 #[.val (.ref x0), .val (.int (0 : Int32)), .val (.long x2), nS, .val (.long x3), nS, .val (.long x4), nS, .val (.long (own_co x2 (0 : Int32))), nS, .val (.long (own_co x2 (1 : Int32))), nS, .val (.long (own_co x2 (2 : Int32))), nS, .val (.long (own_co x2 (3 : Int32))), nS, .val (.long (own_co x2 (4 : Int32))), nS, .val (.long (own_co x2 (5 : Int32))), nS, .val (.long lv11), nS, .val (.long lv12), nS, .val (.long lv10), nS] [(.double vu0)])) rfl (hb hby d10_198) _ k) ?_
    show Goes _ _ _ _ _ _ _ (T6.setTop (mkF m 201 _ [(.double (4647714815446351872 : UInt64)), (.double vu0)]))
    obtain ⟨d14, hd14⟩ : ∃ z, FP.dmul vu0 (4647714815446351872 : UInt64) = z := ⟨_, rfl⟩
    have fr14 : OwnF.Fr 9 (Iv * (512 : Int)) 765260092932096 d14 := by rw [← hd14]; exact OwnF.Fr.dmul fI own_k4647714815446351872 (by decide)
    refine G1 (fun _ k => XS.dmulS X6.here hx rfl (hb hby d10_201) rfl (by rw [hd14]; exact own_nn fr14) hd14 k) ?_
    show Goes _ _ _ _ _ _ _ (T6.setTop (mkF m 202 _ [(.double d14)]))
    refine G1 (fun _ k => XS.lload X6.here hx rfl (hb hby d10_202) rfl  k) ?_
    obtain ⟨d15, hd15⟩ : ∃ z, FP.l2d lv11 = z := ⟨_, rfl⟩
    have fr15 : OwnF.Fr 0 (((((((512 : Int) * (own_co x2 (0 : Int32)).toInt) + (((64 : Int) * (own_co x2 (1 : Int32)).toInt) * x4.toInt)) + ((((8 : Int) * (own_co x2 (2 : Int32)).toInt) * x4.toInt) * x4.toInt)) + ((((own_co x2 (3 : Int32)).toInt * x4.toInt) * x4.toInt) * x4.toInt)) + ((((8 : Int) * (own_co x2 (4 : Int32)).toInt) * (x4.toInt - ((8 : Int) * x3.toInt))) * (x4.toInt - ((8 : Int) * x3.toInt)))) + ((((own_co x2 (5 : Int32)).toInt * (x4.toInt - ((8 : Int) * x3.toInt))) * (x4.toInt - ((8 : Int) * x3.toInt))) * (x4.toInt - ((8 : Int) * x3.toInt)))) 38462029824 d15 := by rw [← hd15]; exact own_frL Llv11 (by decide)
    refine G1 (fun _ k => XS.l2dS X6.here hx rfl (hb hby d10_204) rfl hd15 k) ?_
    show Goes _ _ _ _ _ _ _ (T6.setTop (mkF m 205 _ [(.double d15), (.double d14)]))
    refine G1 (fun _ k => XS.dcmpS X6.here hx rfl (hb hby d10_205) rfl rfl k) ?_
    show Goes _ _ _ _ _ _ _ (T6.setTop (mkF m 206 _ [(.int (cmpValue (FP.dcmp d14 d15) .l))]))
    refine G1 (fun _ k => XS.ifNo X6.here hx rfl (hb hby d10_206) rfl ((if0 _ _).trans (teq (own_eq0 fr14 (OwnF.Fr.up 9 fr15) (by decide) (by rw [(h2 (by have q := Int64.lt_iff_toInt_lt.mp c125_9; rw [(own_L.mul (⟨by decide, by decide⟩ : own_L (8 : Int64) 8 8) hs (by decide)).1] at q; exact q)).1]; rfl) .l)).2) k) ?_
    show Goes _ _ _ _ _ _ _ (T6.setTop (mkF m 209 _ []))
    refine G1 (fun _ k => XS.aloadN X6.here hx rfl (hb hby d10_209) rfl rfl k) ?_
    refine G1 (fun _ k => XS.iconst X6.here hx rfl (hb hby d10_210) k) ?_
    refine G1 (fun _ k => XS.iloadN X6.here hx rfl (hb hby d10_211) rfl  k) ?_
    refine G1 (fun _ k => XS.iadd X6.here hx rfl (hb hby d10_212) rfl k) ?_
    show Goes _ _ _ _ _ _ _ (T6.setTop (mkF m 213 #[.val (.ref x0), .val (.int (0 : Int32)), .val (.long x2), nS, .val (.long x3), nS, .val (.long x4), nS, .val (.long (own_co x2 (0 : Int32))), nS, .val (.long (own_co x2 (1 : Int32))), nS, .val (.long (own_co x2 (2 : Int32))), nS, .val (.long (own_co x2 (3 : Int32))), nS, .val (.long (own_co x2 (4 : Int32))), nS, .val (.long (own_co x2 (5 : Int32))), nS, .val (.long lv11), nS, .val (.long lv12), nS, .val (.long lv10), nS] [(.int (3 : Int32)), (.ref x0)]))
    obtain ⟨cl16, Ar16, q16, S16, P16, H16, G16⟩ := id V_x0
    have hin16 : ¬ ((3 : Int32) < 0 ∨ cl16.slots.size ≤ ((3 : Int32)).toNatClampNeg) := inb_of S16 ⟨by decide, by decide⟩
    have hat16 : cl16.slots[((3 : Int32)).toNatClampNeg]? = some (.double vu3) := H16 _ (by rw [S16]; decide)
    refine G1 (fun _ k => X6.daload hx (j := (3 : Int32)) (v := (.double vu3)) (by rw [eh6]; exact Ar16.1) (State.isArrayOf_alike hZ.alike Ar16.2.1) Ar16.2.2 hin16 hat16 (g := (mkF m 213 #[.val (.ref x0), .val (.int (0 : Int32)), .val (.long x2), nS, .val (.long x3), nS, .val (.long x4), nS, .val (.long (own_co x2 (0 : Int32))), nS, .val (.long (own_co x2 (1 : Int32))), nS, .val (.long (own_co x2 (2 : Int32))), nS, .val (.long (own_co x2 (3 : Int32))), nS, .val (.long (own_co x2 (4 : Int32))), nS, .val (.long (own_co x2 (5 : Int32))), nS, .val (.long lv11), nS, .val (.long lv12), nS, .val (.long lv10), nS] [(.int (3 : Int32)), (.ref x0)])) rfl rfl (hb hby d10_213) _ k) ?_
    show Goes _ _ _ _ _ _ _ (T6.setTop (mkF m 214 _ [(.double vu3)]))
    refine G1 (fun _ k => X6.ldc2DoubleC hx hown (mvT hZ w_61) (g := (mkF m 214 #[.val (.ref x0), .val (.int (0 : Int32)), .val (.long x2), nS, .val (.long x3), nS, .val (.long x4), nS, .val (.long (own_co x2 (0 : Int32))), nS, .val (.long (own_co x2 (1 : Int32))), nS, .val (.long (own_co x2 (2 : Int32))), nS, .val (.long (own_co x2 (3 : Int32))), nS, .val (.long (own_co x2 (4 : Int32))), nS, .val (.long (own_co x2 (5 : Int32))), nS, .val (.long lv11), nS, .val (.long lv12), nS, .val (.long lv10), nS] [(.double vu3)])) rfl (hb hby d10_214) _ k) ?_
    show Goes _ _ _ _ _ _ _ (T6.setTop (mkF m 217 _ [(.double (4634204016564240384 : UInt64)), (.double vu3)]))
    obtain ⟨d17, hd17⟩ : ∃ z, FP.dmul vu3 (4634204016564240384 : UInt64) = z := ⟨_, rfl⟩
    have fr17 : OwnF.Fr 6 (Jv * (64 : Int)) 2791728742400 d17 := by rw [← hd17]; exact OwnF.Fr.dmul fJ own_k4634204016564240384 (by decide)
    refine G1 (fun _ k => XS.dmulS X6.here hx rfl (hb hby d10_217) rfl (by rw [hd17]; exact own_nn fr17) hd17 k) ?_
    show Goes _ _ _ _ _ _ _ (T6.setTop (mkF m 218 _ [(.double d17)]))
    refine G1 (fun _ k => XS.lload X6.here hx rfl (hb hby d10_218) rfl  k) ?_
    obtain ⟨d18, hd18⟩ : ∃ z, FP.l2d lv12 = z := ⟨_, rfl⟩
    have fr18 : OwnF.Fr 0 ((((((64 : Int) * (own_co x2 (1 : Int32)).toInt) + (((16 : Int) * (own_co x2 (2 : Int32)).toInt) * x4.toInt)) + ((((3 : Int) * (own_co x2 (3 : Int32)).toInt) * x4.toInt) * x4.toInt)) + (((16 : Int) * (own_co x2 (4 : Int32)).toInt) * (x4.toInt - ((8 : Int) * x3.toInt)))) + ((((3 : Int) * (own_co x2 (5 : Int32)).toInt) * (x4.toInt - ((8 : Int) * x3.toInt))) * (x4.toInt - ((8 : Int) * x3.toInt)))) 332431360 d18 := by rw [← hd18]; exact own_frL Llv12 (by decide)
    refine G1 (fun _ k => XS.l2dS X6.here hx rfl (hb hby d10_220) rfl hd18 k) ?_
    show Goes _ _ _ _ _ _ _ (T6.setTop (mkF m 221 _ [(.double d18), (.double d17)]))
    refine G1 (fun _ k => XS.dcmpS X6.here hx rfl (hb hby d10_221) rfl rfl k) ?_
    show Goes _ _ _ _ _ _ _ (T6.setTop (mkF m 222 _ [(.int (cmpValue (FP.dcmp d17 d18) .l))]))
    refine G1 (fun _ k => XS.ifNo X6.here hx rfl (hb hby d10_222) rfl ((if0 _ _).trans (teq (own_eq0 fr17 (OwnF.Fr.up 6 fr18) (by decide) (by rw [(h2 (by have q := Int64.lt_iff_toInt_lt.mp c125_9; rw [(own_L.mul (⟨by decide, by decide⟩ : own_L (8 : Int64) 8 8) hs (by decide)).1] at q; exact q)).2]; rfl) .l)).2) k) ?_
    show Goes _ _ _ _ _ _ _ (T6.setTop (mkF m 225 _ []))
    refine G1 (fun _ k => XS.iconst X6.here hx rfl (hb hby d10_225) k) ?_
    refine G1 (fun _ k => XS.goto X6.here hx rfl (pc0 := 226) (pc' := 230) rfl (hb hby d10_226) (by decide) (by decide) k) ?_
    show Goes _ _ _ _ _ _ _ (T6.setTop (mkF m 230 #[.val (.ref x0), .val (.int (0 : Int32)), .val (.long x2), nS, .val (.long x3), nS, .val (.long x4), nS, .val (.long (own_co x2 (0 : Int32))), nS, .val (.long (own_co x2 (1 : Int32))), nS, .val (.long (own_co x2 (2 : Int32))), nS, .val (.long (own_co x2 (3 : Int32))), nS, .val (.long (own_co x2 (4 : Int32))), nS, .val (.long (own_co x2 (5 : Int32))), nS, .val (.long lv11), nS, .val (.long lv12), nS, .val (.long lv10), nS] [(.int (1 : Int32))]))
    exact Goes.ret X6 hx (BodyLoose.notSynchronized Bd) Bd.returns rfl (Or.inl ⟨rfl, by simp, _, rfl⟩) (hb hby d10_230) (by show Q10_0 Z x0 x2 x3 x4 ka vu0 vu1 vu2 vu3 vu4 vu5 Iv Jv h0 n0 (some (.int (1 : Int32))) T6.heap _; rw [eh6]; exact ⟨NA6, rfl, rfl⟩) (by decide) (by decide)
  · refine G1 (fun _ k => XS.ifYes X6.here hx rfl (pc0 := 125) (pc' := 195) rfl (hb hby d10_125) rfl ((if0 _ _).trans (flt (fun q => c125_9 ((lw_gt _ _).mp q))).2.2.2) (by decide) (by decide) k) ?_
    show Goes _ _ _ _ _ _ _ (T6.setTop (mkF m 195 _ []))
    show Goes _ _ _ _ _ _ _ (T6.setTop (mkF m 195 #[.val (.ref x0), .val (.int (0 : Int32)), .val (.long x2), nS, .val (.long x3), nS, .val (.long x4), nS, .val (.long (own_co x2 (0 : Int32))), nS, .val (.long (own_co x2 (1 : Int32))), nS, .val (.long (own_co x2 (2 : Int32))), nS, .val (.long (own_co x2 (3 : Int32))), nS, .val (.long (own_co x2 (4 : Int32))), nS, .val (.long (own_co x2 (5 : Int32))), nS, .val (.long lv7), nS, .val (.long lv8), nS, nU, nU] []))
    refine G1 (fun _ k => XS.aloadN X6.here hx rfl (hb hby d10_195) rfl rfl k) ?_
    refine G1 (fun _ k => XS.iloadN X6.here hx rfl (hb hby d10_196) rfl  k) ?_
    obtain ⟨cl19, Ar19, q19, S19, P19, H19, G19⟩ := id V_x0
    have hin19 : ¬ ((0 : Int32) < 0 ∨ cl19.slots.size ≤ ((0 : Int32)).toNatClampNeg) := inb_of S19 ⟨by decide, by decide⟩
    have hat19 : cl19.slots[((0 : Int32)).toNatClampNeg]? = some (.double vu0) := H19 _ (by rw [S19]; decide)
    refine G1 (fun _ k => X6.daload hx (j := (0 : Int32)) (v := (.double vu0)) (by rw [eh6]; exact Ar19.1) (State.isArrayOf_alike hZ.alike Ar19.2.1) Ar19.2.2 hin19 hat19 (g := (mkF m 197 #[.val (.ref x0), .val (.int (0 : Int32)), .val (.long x2), nS, .val (.long x3), nS, .val (.long x4), nS, .val (.long (own_co x2 (0 : Int32))), nS, .val (.long (own_co x2 (1 : Int32))), nS, .val (.long (own_co x2 (2 : Int32))), nS, .val (.long (own_co x2 (3 : Int32))), nS, .val (.long (own_co x2 (4 : Int32))), nS, .val (.long (own_co x2 (5 : Int32))), nS, .val (.long lv7), nS, .val (.long lv8), nS, nU, nU] [(.int (0 : Int32)), (.ref x0)])) rfl rfl (hb hby d10_197) _ k) ?_
    show Goes _ _ _ _ _ _ _ (T6.setTop (mkF m 198 _ [(.double vu0)]))
    refine G1 (fun _ k => X6.ldc2DoubleC hx hown (mvT hZ w_60) (g := (mkF m 198 #[.val (.ref x0), .val (.int (0 : Int32)), .val (.long x2), nS, .val (.long x3), nS, .val (.long x4), nS, .val (.long (own_co x2 (0 : Int32))), nS, .val (.long (own_co x2 (1 : Int32))), nS, .val (.long (own_co x2 (2 : Int32))), nS, .val (.long (own_co x2 (3 : Int32))), nS, .val (.long (own_co x2 (4 : Int32))), nS, .val (.long (own_co x2 (5 : Int32))), nS, .val (.long lv7), nS, .val (.long lv8), nS, nU, nU] [(.double vu0)])) rfl (hb hby d10_198) _ k) ?_
    show Goes _ _ _ _ _ _ _ (T6.setTop (mkF m 201 _ [(.double (4647714815446351872 : UInt64)), (.double vu0)]))
    obtain ⟨d20, hd20⟩ : ∃ z, FP.dmul vu0 (4647714815446351872 : UInt64) = z := ⟨_, rfl⟩
    have fr20 : OwnF.Fr 9 (Iv * (512 : Int)) 765260092932096 d20 := by rw [← hd20]; exact OwnF.Fr.dmul fI own_k4647714815446351872 (by decide)
    refine G1 (fun _ k => XS.dmulS X6.here hx rfl (hb hby d10_201) rfl (by rw [hd20]; exact own_nn fr20) hd20 k) ?_
    show Goes _ _ _ _ _ _ _ (T6.setTop (mkF m 202 _ [(.double d20)]))
    refine G1 (fun _ k => XS.lload X6.here hx rfl (hb hby d10_202) rfl  k) ?_
    obtain ⟨d21, hd21⟩ : ∃ z, FP.l2d lv7 = z := ⟨_, rfl⟩
    have fr21 : OwnF.Fr 0 (((((512 : Int) * (own_co x2 (0 : Int32)).toInt) + (((64 : Int) * (own_co x2 (1 : Int32)).toInt) * x4.toInt)) + ((((8 : Int) * (own_co x2 (2 : Int32)).toInt) * x4.toInt) * x4.toInt)) + ((((own_co x2 (3 : Int32)).toInt * x4.toInt) * x4.toInt) * x4.toInt)) 8867020800 d21 := by rw [← hd21]; exact own_frL Llv7 (by decide)
    refine G1 (fun _ k => XS.l2dS X6.here hx rfl (hb hby d10_204) rfl hd21 k) ?_
    show Goes _ _ _ _ _ _ _ (T6.setTop (mkF m 205 _ [(.double d21), (.double d20)]))
    refine G1 (fun _ k => XS.dcmpS X6.here hx rfl (hb hby d10_205) rfl rfl k) ?_
    show Goes _ _ _ _ _ _ _ (T6.setTop (mkF m 206 _ [(.int (cmpValue (FP.dcmp d20 d21) .l))]))
    refine G1 (fun _ k => XS.ifNo X6.here hx rfl (hb hby d10_206) rfl ((if0 _ _).trans (teq (own_eq0 fr20 (OwnF.Fr.up 9 fr21) (by decide) (by rw [(h1 (fun z => c125_9 (Int64.lt_iff_toInt_lt.mpr (by rw [(own_L.mul (⟨by decide, by decide⟩ : own_L (8 : Int64) 8 8) hs (by decide)).1]; exact z)))).1]; rfl) .l)).2) k) ?_
    show Goes _ _ _ _ _ _ _ (T6.setTop (mkF m 209 _ []))
    refine G1 (fun _ k => XS.aloadN X6.here hx rfl (hb hby d10_209) rfl rfl k) ?_
    refine G1 (fun _ k => XS.iconst X6.here hx rfl (hb hby d10_210) k) ?_
    refine G1 (fun _ k => XS.iloadN X6.here hx rfl (hb hby d10_211) rfl  k) ?_
    refine G1 (fun _ k => XS.iadd X6.here hx rfl (hb hby d10_212) rfl k) ?_
    show Goes _ _ _ _ _ _ _ (T6.setTop (mkF m 213 #[.val (.ref x0), .val (.int (0 : Int32)), .val (.long x2), nS, .val (.long x3), nS, .val (.long x4), nS, .val (.long (own_co x2 (0 : Int32))), nS, .val (.long (own_co x2 (1 : Int32))), nS, .val (.long (own_co x2 (2 : Int32))), nS, .val (.long (own_co x2 (3 : Int32))), nS, .val (.long (own_co x2 (4 : Int32))), nS, .val (.long (own_co x2 (5 : Int32))), nS, .val (.long lv7), nS, .val (.long lv8), nS, nU, nU] [(.int (3 : Int32)), (.ref x0)]))
    obtain ⟨cl22, Ar22, q22, S22, P22, H22, G22⟩ := id V_x0
    have hin22 : ¬ ((3 : Int32) < 0 ∨ cl22.slots.size ≤ ((3 : Int32)).toNatClampNeg) := inb_of S22 ⟨by decide, by decide⟩
    have hat22 : cl22.slots[((3 : Int32)).toNatClampNeg]? = some (.double vu3) := H22 _ (by rw [S22]; decide)
    refine G1 (fun _ k => X6.daload hx (j := (3 : Int32)) (v := (.double vu3)) (by rw [eh6]; exact Ar22.1) (State.isArrayOf_alike hZ.alike Ar22.2.1) Ar22.2.2 hin22 hat22 (g := (mkF m 213 #[.val (.ref x0), .val (.int (0 : Int32)), .val (.long x2), nS, .val (.long x3), nS, .val (.long x4), nS, .val (.long (own_co x2 (0 : Int32))), nS, .val (.long (own_co x2 (1 : Int32))), nS, .val (.long (own_co x2 (2 : Int32))), nS, .val (.long (own_co x2 (3 : Int32))), nS, .val (.long (own_co x2 (4 : Int32))), nS, .val (.long (own_co x2 (5 : Int32))), nS, .val (.long lv7), nS, .val (.long lv8), nS, nU, nU] [(.int (3 : Int32)), (.ref x0)])) rfl rfl (hb hby d10_213) _ k) ?_
    show Goes _ _ _ _ _ _ _ (T6.setTop (mkF m 214 _ [(.double vu3)]))
    refine G1 (fun _ k => X6.ldc2DoubleC hx hown (mvT hZ w_61) (g := (mkF m 214 #[.val (.ref x0), .val (.int (0 : Int32)), .val (.long x2), nS, .val (.long x3), nS, .val (.long x4), nS, .val (.long (own_co x2 (0 : Int32))), nS, .val (.long (own_co x2 (1 : Int32))), nS, .val (.long (own_co x2 (2 : Int32))), nS, .val (.long (own_co x2 (3 : Int32))), nS, .val (.long (own_co x2 (4 : Int32))), nS, .val (.long (own_co x2 (5 : Int32))), nS, .val (.long lv7), nS, .val (.long lv8), nS, nU, nU] [(.double vu3)])) rfl (hb hby d10_214) _ k) ?_
    show Goes _ _ _ _ _ _ _ (T6.setTop (mkF m 217 _ [(.double (4634204016564240384 : UInt64)), (.double vu3)]))
    obtain ⟨d23, hd23⟩ : ∃ z, FP.dmul vu3 (4634204016564240384 : UInt64) = z := ⟨_, rfl⟩
    have fr23 : OwnF.Fr 6 (Jv * (64 : Int)) 2791728742400 d23 := by rw [← hd23]; exact OwnF.Fr.dmul fJ own_k4634204016564240384 (by decide)
    refine G1 (fun _ k => XS.dmulS X6.here hx rfl (hb hby d10_217) rfl (by rw [hd23]; exact own_nn fr23) hd23 k) ?_
    show Goes _ _ _ _ _ _ _ (T6.setTop (mkF m 218 _ [(.double d23)]))
    refine G1 (fun _ k => XS.lload X6.here hx rfl (hb hby d10_218) rfl  k) ?_
    obtain ⟨d24, hd24⟩ : ∃ z, FP.l2d lv8 = z := ⟨_, rfl⟩
    have fr24 : OwnF.Fr 0 ((((64 : Int) * (own_co x2 (1 : Int32)).toInt) + (((16 : Int) * (own_co x2 (2 : Int32)).toInt) * x4.toInt)) + ((((3 : Int) * (own_co x2 (3 : Int32)).toInt) * x4.toInt) * x4.toInt)) 102793216 d24 := by rw [← hd24]; exact own_frL Llv8 (by decide)
    refine G1 (fun _ k => XS.l2dS X6.here hx rfl (hb hby d10_220) rfl hd24 k) ?_
    show Goes _ _ _ _ _ _ _ (T6.setTop (mkF m 221 _ [(.double d24), (.double d23)]))
    refine G1 (fun _ k => XS.dcmpS X6.here hx rfl (hb hby d10_221) rfl rfl k) ?_
    show Goes _ _ _ _ _ _ _ (T6.setTop (mkF m 222 _ [(.int (cmpValue (FP.dcmp d23 d24) .l))]))
    refine G1 (fun _ k => XS.ifNo X6.here hx rfl (hb hby d10_222) rfl ((if0 _ _).trans (teq (own_eq0 fr23 (OwnF.Fr.up 6 fr24) (by decide) (by rw [(h1 (fun z => c125_9 (Int64.lt_iff_toInt_lt.mpr (by rw [(own_L.mul (⟨by decide, by decide⟩ : own_L (8 : Int64) 8 8) hs (by decide)).1]; exact z)))).2]; rfl) .l)).2) k) ?_
    show Goes _ _ _ _ _ _ _ (T6.setTop (mkF m 225 _ []))
    refine G1 (fun _ k => XS.iconst X6.here hx rfl (hb hby d10_225) k) ?_
    refine G1 (fun _ k => XS.goto X6.here hx rfl (pc0 := 226) (pc' := 230) rfl (hb hby d10_226) (by decide) (by decide) k) ?_
    show Goes _ _ _ _ _ _ _ (T6.setTop (mkF m 230 #[.val (.ref x0), .val (.int (0 : Int32)), .val (.long x2), nS, .val (.long x3), nS, .val (.long x4), nS, .val (.long (own_co x2 (0 : Int32))), nS, .val (.long (own_co x2 (1 : Int32))), nS, .val (.long (own_co x2 (2 : Int32))), nS, .val (.long (own_co x2 (3 : Int32))), nS, .val (.long (own_co x2 (4 : Int32))), nS, .val (.long (own_co x2 (5 : Int32))), nS, .val (.long lv7), nS, .val (.long lv8), nS, nU, nU] [(.int (1 : Int32))]))
    exact Goes.ret X6 hx (BodyLoose.notSynchronized Bd) Bd.returns rfl (Or.inl ⟨rfl, by simp, _, rfl⟩) (hb hby d10_230) (by show Q10_0 Z x0 x2 x3 x4 ka vu0 vu1 vu2 vu3 vu4 vu5 Iv Jv h0 n0 (some (.int (1 : Int32))) T6.heap _; rw [eh6]; exact ⟨NA6, rfl, rfl⟩) (by decide) (by decide)
theorem ef_10_1 (m : MethodId) (x0 : Addr) (x2 : Int64) (x3 : Int64) (x4 : Int64) (ka : ClassId) (vu0 : UInt64) (vu1 : UInt64) (vu2 : UInt64) (vu3 : UInt64) (vu4 : UInt64) (vu5 : UInt64) (Iv : Int) (Jv : Int)  : entryFrame m #[(.ref x0), (.int (1 : Int32)), (.long x2), (.long x3), (.long x4)] 26 = mkF m 0 #[.val (.ref x0), .val (.int (1 : Int32)), .val (.long x2), .second, .val (.long x3), .second, .val (.long x4), .second, .unset, .unset, .unset, .unset, .unset, .unset, .unset, .unset, .unset, .unset, .unset, .unset, .unset, .unset, .unset, .unset, .unset, .unset] [] := by first | (simp [entryFrame, mkF, argsToLocals, Value.category]; done) | rfl
def Q10_1 (Z : State) (x0 : Addr) (x2 : Int64) (x3 : Int64) (x4 : Int64) (ka : ClassId) (vu0 : UInt64) (vu1 : UInt64) (vu2 : UInt64) (vu3 : UInt64) (vu4 : UInt64) (vu5 : UInt64) (Iv : Int) (Jv : Int) (h0 : Heap) (n0 : Nat) (v : Option Value) (h : Heap) (L : List Loc) : Prop := Fr n0 L ∧ h = h0 ∧ v = some (.int (1 : Int32))
set_option maxRecDepth 65536 in
set_option maxHeartbeats 40000000 in
theorem rm10_1 (l : Launch) (Z : State) (a0 : Array Value) (hw : ∀ d ∈ tables_1, d.before a0 Z = true) (ws : List Jvm.Cond) (x0 : Addr) (x2 : Int64) (x3 : Int64) (x4 : Int64) (ka : ClassId) (vu0 : UInt64) (vu1 : UInt64) (vu2 : UInt64) (vu3 : UInt64) (vu4 : UInt64) (vu5 : UInt64) (Iv : Int) (Jv : Int) (h0 : Heap) (n0 : Nat) (Z0 : n0 ≤ h0.size) (V_x0 : Arv Z h0 x0 ka .double (6 : Int32) [(.double vu0), (.double vu1), (.double vu2), (.double vu3), (.double vu4), (.double vu5)] (.double (0 : UInt64))) (hs : own_L x3 x3.toInt 16) (ht : own_L x4 x4.toInt 256) (fI : OwnF.Fr 9 Iv 1494648619008 vu1) (fJ : OwnF.Fr 6 Jv 43620761600 vu4) (h1 : ¬ ((8 : Int) * x3.toInt < x4.toInt) → Iv = (((((512 : Int) * (own_co x2 (0 : Int32)).toInt) + (((64 : Int) * (own_co x2 (1 : Int32)).toInt) * x4.toInt)) + ((((8 : Int) * (own_co x2 (2 : Int32)).toInt) * x4.toInt) * x4.toInt)) + ((((own_co x2 (3 : Int32)).toInt * x4.toInt) * x4.toInt) * x4.toInt)) ∧ Jv = ((((64 : Int) * (own_co x2 (1 : Int32)).toInt) + (((16 : Int) * (own_co x2 (2 : Int32)).toInt) * x4.toInt)) + ((((3 : Int) * (own_co x2 (3 : Int32)).toInt) * x4.toInt) * x4.toInt))) (h2 : (8 : Int) * x3.toInt < x4.toInt → Iv = (((((((512 : Int) * (own_co x2 (0 : Int32)).toInt) + (((64 : Int) * (own_co x2 (1 : Int32)).toInt) * x4.toInt)) + ((((8 : Int) * (own_co x2 (2 : Int32)).toInt) * x4.toInt) * x4.toInt)) + ((((own_co x2 (3 : Int32)).toInt * x4.toInt) * x4.toInt) * x4.toInt)) + ((((8 : Int) * (own_co x2 (4 : Int32)).toInt) * (x4.toInt - ((8 : Int) * x3.toInt))) * (x4.toInt - ((8 : Int) * x3.toInt)))) + ((((own_co x2 (5 : Int32)).toInt * (x4.toInt - ((8 : Int) * x3.toInt))) * (x4.toInt - ((8 : Int) * x3.toInt))) * (x4.toInt - ((8 : Int) * x3.toInt)))) ∧ Jv = ((((((64 : Int) * (own_co x2 (1 : Int32)).toInt) + (((16 : Int) * (own_co x2 (2 : Int32)).toInt) * x4.toInt)) + ((((3 : Int) * (own_co x2 (3 : Int32)).toInt) * x4.toInt) * x4.toInt)) + (((16 : Int) * (own_co x2 (4 : Int32)).toInt) * (x4.toInt - ((8 : Int) * x3.toInt)))) + ((((3 : Int) * (own_co x2 (5 : Int32)).toInt) * (x4.toInt - ((8 : Int) * x3.toInt))) * (x4.toInt - ((8 : Int) * x3.toInt))))) :
    MetFree l (⟨"com/example/orbitloom/orbitloom/orbits/TrackAtPinLaw", "check", "([DIJJJ)Z"⟩ : MethodName) (head1 (Jvm.Cond.code (⟨"com/example/orbitloom/orbitloom/orbits/TrackAtPinLaw", "check", "([DIJJJ)Z"⟩ : MethodName) method_5_code 26 (some .boolean) :: ws) ({ frames := 1, cells := 0, slots := 0, locals := 14 } : Room)) (fun a U => a = #[(.ref x0), (.int (1 : Int32)), (.long x2), (.long x3), (.long x4)] ∧ Z.Warmed39 U.vm ∧ U.heap = h0) (fun _ _ _ _ _ => True) (fun _ U o U' => ∃ v L, o = .returned v ∧ Q10_1 Z x0 x2 x3 x4 ka vu0 vu1 vu2 vu3 vu4 vu5 Iv Jv h0 n0 v U'.heap L ∧ FrameEnd U o U' L ({ frames := 1, cells := 0, slots := 0, locals := 14 } : Room).cells ({ frames := 1, cells := 0, slots := 0, locals := 14 } : Room).slots) := by
  refine MetFree.of_bodySF (plainFor_of_name pn_10) hisR ?_
  intro p e s m args below meth c s₁ Bd hml0 hP hK
  obtain ⟨rfl, hZ, hh⟩ := hP
  have w_3 := hw _ (List.mem_of_getElem? (i := 3) rfl)
  have w_5 := hw _ (List.mem_of_getElem? (i := 5) rfl)
  have w_6 := hw _ (List.mem_of_getElem? (i := 6) rfl)
  have w_7 := hw _ (List.mem_of_getElem? (i := 7) rfl)
  have w_9 := hw _ (List.mem_of_getElem? (i := 9) rfl)
  have w_11 := hw _ (List.mem_of_getElem? (i := 11) rfl)
  have w_57 := hw _ (List.mem_of_getElem? (i := 57) rfl)
  have w_58 := hw _ (List.mem_of_getElem? (i := 58) rfl)
  have w_59 := hw _ (List.mem_of_getElem? (i := 59) rfl)
  have w_60 := hw _ (List.mem_of_getElem? (i := 60) rfl)
  have w_61 := hw _ (List.mem_of_getElem? (i := 61) rfl)
  have hx := Bd.exec
  have hby := Bd.bytes
  have hml : c.maxLocals = 26 := hml0
  have hown : s.vm.findClass "com/example/orbitloom/orbitloom/orbits/TrackAtPinLaw" = some m.cls := findClass_of_methodNamed Bd.named
  have hnm := (name_of_methodNamed Bd.named Bd.method).1
  have X0 : Stand p l e ({ frames := 1, cells := 0, slots := 0, locals := 14 } : Room) s m #[(.ref x0), (.int (1 : Int32)), (.long x2), (.long x3), (.long x4)] below meth c s₁ [] 0 0 := Stand.of_body Bd
  have e0 : s₁.heap = h0 := by rw [← hh, Bd.state]; rfl
  have N0 := Fr.nil n0
  have K0 : Keep h0 h0 [] := Keep.refl h0 _
  refine (?_ : Goes p e below s ({ frames := 1, cells := 0, slots := 0, locals := 14 } : Room).cells ({ frames := 1, cells := 0, slots := 0, locals := 14 } : Room).slots (fun v h L => Q10_1 Z x0 x2 x3 x4 ka vu0 vu1 vu2 vu3 vu4 vu5 Iv Jv h0 n0 v h L) (s₁.setTop (entryFrame m #[(.ref x0), (.int (1 : Int32)), (.long x2), (.long x3), (.long x4)] 26)))
  rw [ef_10_1 m x0 x2 x3 x4 ka vu0 vu1 vu2 vu3 vu4 vu5 Iv Jv ]
  show Goes _ _ _ _ _ _ _ (s₁.setTop (mkF m 0 #[.val (.ref x0), .val (.int (1 : Int32)), .val (.long x2), nS, .val (.long x3), nS, .val (.long x4), nS, nU, nU, nU, nU, nU, nU, nU, nU, nU, nU, nU, nU, nU, nU, nU, nU, nU, nU] []))
  refine G1 (fun _ k => XS.lloadN X0.here hx rfl (hb hby d10_0) rfl  k) ?_
  refine G1 (fun _ k => XS.iconst X0.here hx rfl (hb hby d10_1) k) ?_
  obtain ⟨_, _, ⟨T1, L1, k1, n1⟩, -, X1, ⟨Lc1, hQ1, l1, y1, z1⟩, st1⟩ := Jvm.LawKit.callS X0 hx (y := (⟨"com/example/orbitloom/orbitloom/orbits/TrackAtPinLaw", "co", "(JI)J"⟩ : MethodName)) hown (mvT hZ w_5) (mvT hZ w_6) (mvT hZ w_3) (mvT hZ w_7) (by decide) (backOf (W := 0) (rm2 l Z a0 hw [] x2 (0 : Int32) h0 n0 Z0) hZ w_7 w_3 (by decide) (by decide)) (g := (mkF m 2 #[.val (.ref x0), .val (.int (1 : Int32)), .val (.long x2), nS, .val (.long x3), nS, .val (.long x4), nS, nU, nU, nU, nU, nU, nU, nU, nU, nU, nU, nU, nU, nU, nU, nU, nU, nU, nU] [(.int (0 : Int32)), (.long x2)])) rfl (by rw [hml]; rfl) (argsL := [(.long x2), (.int (0 : Int32))]) (rest := []) (lenOf pd_1 rfl) rfl (by show 2 * 0 + _ ≤ _; exact Nat.le_of_eq rfl) (hb hby d10_2) (fun _ _ => ⟨rfl, e0, (by decide : 0 + 0 ≤ _), (by decide : 0 + 0 ≤ _)⟩)
  dsimp only [Pt.U, Pt.locs, Pt.cells, Pt.slots] at X1 l1 y1 z1 st1 hQ1
  rw [l1, y1, z1] at X1
  obtain ⟨N1, eh1, hR1⟩ := hQ1
  have NA1 := Fr.app N0 N1
  obtain rfl := hR1
  refine G1 st1 ?_
  show Goes _ _ _ _ _ _ _ (T1.setTop (mkF m 5 _ [(.long (own_co x2 (0 : Int32)))]))
  refine G1 (fun _ k => XS.lstore X1.here hx rfl (hb hby d10_5) rfl (l' := #[.val (.ref x0), .val (.int (1 : Int32)), .val (.long x2), nS, .val (.long x3), nS, .val (.long x4), nS, .val (.long (own_co x2 (0 : Int32))), nS, nU, nU, nU, nU, nU, nU, nU, nU, nU, nU, nU, nU, nU, nU, nU, nU]) rfl k) ?_
  show Goes _ _ _ _ _ _ _ (T1.setTop (mkF m 7 _ []))
  refine G1 (fun _ k => XS.lloadN X1.here hx rfl (hb hby d10_7) rfl  k) ?_
  refine G1 (fun _ k => XS.iconst X1.here hx rfl (hb hby d10_8) k) ?_
  obtain ⟨_, _, ⟨T2, L2, k2, n2⟩, -, X2, ⟨Lc2, hQ2, l2, y2, z2⟩, st2⟩ := Jvm.LawKit.callS X1 hx (y := (⟨"com/example/orbitloom/orbitloom/orbits/TrackAtPinLaw", "co", "(JI)J"⟩ : MethodName)) hown (mvT hZ w_5) (mvT hZ w_6) (mvT hZ w_3) (mvT hZ w_7) (by decide) (backOf (W := 0) (rm2 l Z a0 hw [] x2 (1 : Int32) h0 n0 Z0) hZ w_7 w_3 (by decide) (by decide)) (g := (mkF m 9 #[.val (.ref x0), .val (.int (1 : Int32)), .val (.long x2), nS, .val (.long x3), nS, .val (.long x4), nS, .val (.long (own_co x2 (0 : Int32))), nS, nU, nU, nU, nU, nU, nU, nU, nU, nU, nU, nU, nU, nU, nU, nU, nU] [(.int (1 : Int32)), (.long x2)])) rfl (by rw [hml]; rfl) (argsL := [(.long x2), (.int (1 : Int32))]) (rest := []) (lenOf pd_1 rfl) rfl (by show 2 * 0 + _ ≤ _; exact Nat.le_of_eq rfl) (hb hby d10_9) (fun _ _ => ⟨rfl, eh1, (by decide : 0 + 0 ≤ _), (by decide : 0 + 0 ≤ _)⟩)
  dsimp only [Pt.U, Pt.locs, Pt.cells, Pt.slots] at X2 l2 y2 z2 st2 hQ2
  rw [l2, y2, z2] at X2
  obtain ⟨N2, eh2, hR2⟩ := hQ2
  have NA2 := Fr.app NA1 N2
  obtain rfl := hR2
  refine G1 st2 ?_
  show Goes _ _ _ _ _ _ _ (T2.setTop (mkF m 12 _ [(.long (own_co x2 (1 : Int32)))]))
  refine G1 (fun _ k => XS.lstore X2.here hx rfl (hb hby d10_12) rfl (l' := #[.val (.ref x0), .val (.int (1 : Int32)), .val (.long x2), nS, .val (.long x3), nS, .val (.long x4), nS, .val (.long (own_co x2 (0 : Int32))), nS, .val (.long (own_co x2 (1 : Int32))), nS, nU, nU, nU, nU, nU, nU, nU, nU, nU, nU, nU, nU, nU, nU]) rfl k) ?_
  show Goes _ _ _ _ _ _ _ (T2.setTop (mkF m 14 _ []))
  refine G1 (fun _ k => XS.lloadN X2.here hx rfl (hb hby d10_14) rfl  k) ?_
  refine G1 (fun _ k => XS.iconst X2.here hx rfl (hb hby d10_15) k) ?_
  obtain ⟨_, _, ⟨T3, L3, k3, n3⟩, -, X3, ⟨Lc3, hQ3, l3, y3, z3⟩, st3⟩ := Jvm.LawKit.callS X2 hx (y := (⟨"com/example/orbitloom/orbitloom/orbits/TrackAtPinLaw", "co", "(JI)J"⟩ : MethodName)) hown (mvT hZ w_5) (mvT hZ w_6) (mvT hZ w_3) (mvT hZ w_7) (by decide) (backOf (W := 0) (rm2 l Z a0 hw [] x2 (2 : Int32) h0 n0 Z0) hZ w_7 w_3 (by decide) (by decide)) (g := (mkF m 16 #[.val (.ref x0), .val (.int (1 : Int32)), .val (.long x2), nS, .val (.long x3), nS, .val (.long x4), nS, .val (.long (own_co x2 (0 : Int32))), nS, .val (.long (own_co x2 (1 : Int32))), nS, nU, nU, nU, nU, nU, nU, nU, nU, nU, nU, nU, nU, nU, nU] [(.int (2 : Int32)), (.long x2)])) rfl (by rw [hml]; rfl) (argsL := [(.long x2), (.int (2 : Int32))]) (rest := []) (lenOf pd_1 rfl) rfl (by show 2 * 0 + _ ≤ _; exact Nat.le_of_eq rfl) (hb hby d10_16) (fun _ _ => ⟨rfl, eh2, (by decide : 0 + 0 ≤ _), (by decide : 0 + 0 ≤ _)⟩)
  dsimp only [Pt.U, Pt.locs, Pt.cells, Pt.slots] at X3 l3 y3 z3 st3 hQ3
  rw [l3, y3, z3] at X3
  obtain ⟨N3, eh3, hR3⟩ := hQ3
  have NA3 := Fr.app NA2 N3
  obtain rfl := hR3
  refine G1 st3 ?_
  show Goes _ _ _ _ _ _ _ (T3.setTop (mkF m 19 _ [(.long (own_co x2 (2 : Int32)))]))
  refine G1 (fun _ k => XS.lstore X3.here hx rfl (hb hby d10_19) rfl (l' := #[.val (.ref x0), .val (.int (1 : Int32)), .val (.long x2), nS, .val (.long x3), nS, .val (.long x4), nS, .val (.long (own_co x2 (0 : Int32))), nS, .val (.long (own_co x2 (1 : Int32))), nS, .val (.long (own_co x2 (2 : Int32))), nS, nU, nU, nU, nU, nU, nU, nU, nU, nU, nU, nU, nU]) rfl k) ?_
  show Goes _ _ _ _ _ _ _ (T3.setTop (mkF m 21 _ []))
  refine G1 (fun _ k => XS.lloadN X3.here hx rfl (hb hby d10_21) rfl  k) ?_
  refine G1 (fun _ k => XS.iconst X3.here hx rfl (hb hby d10_22) k) ?_
  obtain ⟨_, _, ⟨T4, L4, k4, n4⟩, -, X4, ⟨Lc4, hQ4, l4, y4, z4⟩, st4⟩ := Jvm.LawKit.callS X3 hx (y := (⟨"com/example/orbitloom/orbitloom/orbits/TrackAtPinLaw", "co", "(JI)J"⟩ : MethodName)) hown (mvT hZ w_5) (mvT hZ w_6) (mvT hZ w_3) (mvT hZ w_7) (by decide) (backOf (W := 0) (rm2 l Z a0 hw [] x2 (3 : Int32) h0 n0 Z0) hZ w_7 w_3 (by decide) (by decide)) (g := (mkF m 23 #[.val (.ref x0), .val (.int (1 : Int32)), .val (.long x2), nS, .val (.long x3), nS, .val (.long x4), nS, .val (.long (own_co x2 (0 : Int32))), nS, .val (.long (own_co x2 (1 : Int32))), nS, .val (.long (own_co x2 (2 : Int32))), nS, nU, nU, nU, nU, nU, nU, nU, nU, nU, nU, nU, nU] [(.int (3 : Int32)), (.long x2)])) rfl (by rw [hml]; rfl) (argsL := [(.long x2), (.int (3 : Int32))]) (rest := []) (lenOf pd_1 rfl) rfl (by show 2 * 0 + _ ≤ _; exact Nat.le_of_eq rfl) (hb hby d10_23) (fun _ _ => ⟨rfl, eh3, (by decide : 0 + 0 ≤ _), (by decide : 0 + 0 ≤ _)⟩)
  dsimp only [Pt.U, Pt.locs, Pt.cells, Pt.slots] at X4 l4 y4 z4 st4 hQ4
  rw [l4, y4, z4] at X4
  obtain ⟨N4, eh4, hR4⟩ := hQ4
  have NA4 := Fr.app NA3 N4
  obtain rfl := hR4
  refine G1 st4 ?_
  show Goes _ _ _ _ _ _ _ (T4.setTop (mkF m 26 #[.val (.ref x0), .val (.int (1 : Int32)), .val (.long x2), nS, .val (.long x3), nS, .val (.long x4), nS, .val (.long (own_co x2 (0 : Int32))), nS, .val (.long (own_co x2 (1 : Int32))), nS, .val (.long (own_co x2 (2 : Int32))), nS, nU, nU, nU, nU, nU, nU, nU, nU, nU, nU, nU, nU] [(.long (own_co x2 (3 : Int32)))]))
  refine G1 (fun _ k => XS.lstore X4.here hx rfl (hb hby d10_26) rfl (l' := #[.val (.ref x0), .val (.int (1 : Int32)), .val (.long x2), nS, .val (.long x3), nS, .val (.long x4), nS, .val (.long (own_co x2 (0 : Int32))), nS, .val (.long (own_co x2 (1 : Int32))), nS, .val (.long (own_co x2 (2 : Int32))), nS, .val (.long (own_co x2 (3 : Int32))), nS, nU, nU, nU, nU, nU, nU, nU, nU, nU, nU]) rfl k) ?_
  show Goes _ _ _ _ _ _ _ (T4.setTop (mkF m 28 _ []))
  refine G1 (fun _ k => XS.lloadN X4.here hx rfl (hb hby d10_28) rfl  k) ?_
  refine G1 (fun _ k => XS.iconst X4.here hx rfl (hb hby d10_29) k) ?_
  obtain ⟨_, _, ⟨T5, L5, k5, n5⟩, -, X5, ⟨Lc5, hQ5, l5, y5, z5⟩, st5⟩ := Jvm.LawKit.callS X4 hx (y := (⟨"com/example/orbitloom/orbitloom/orbits/TrackAtPinLaw", "co", "(JI)J"⟩ : MethodName)) hown (mvT hZ w_5) (mvT hZ w_6) (mvT hZ w_3) (mvT hZ w_7) (by decide) (backOf (W := 0) (rm2 l Z a0 hw [] x2 (4 : Int32) h0 n0 Z0) hZ w_7 w_3 (by decide) (by decide)) (g := (mkF m 30 #[.val (.ref x0), .val (.int (1 : Int32)), .val (.long x2), nS, .val (.long x3), nS, .val (.long x4), nS, .val (.long (own_co x2 (0 : Int32))), nS, .val (.long (own_co x2 (1 : Int32))), nS, .val (.long (own_co x2 (2 : Int32))), nS, .val (.long (own_co x2 (3 : Int32))), nS, nU, nU, nU, nU, nU, nU, nU, nU, nU, nU] [(.int (4 : Int32)), (.long x2)])) rfl (by rw [hml]; rfl) (argsL := [(.long x2), (.int (4 : Int32))]) (rest := []) (lenOf pd_1 rfl) rfl (by show 2 * 0 + _ ≤ _; exact Nat.le_of_eq rfl) (hb hby d10_30) (fun _ _ => ⟨rfl, eh4, (by decide : 0 + 0 ≤ _), (by decide : 0 + 0 ≤ _)⟩)
  dsimp only [Pt.U, Pt.locs, Pt.cells, Pt.slots] at X5 l5 y5 z5 st5 hQ5
  rw [l5, y5, z5] at X5
  obtain ⟨N5, eh5, hR5⟩ := hQ5
  have NA5 := Fr.app NA4 N5
  obtain rfl := hR5
  refine G1 st5 ?_
  show Goes _ _ _ _ _ _ _ (T5.setTop (mkF m 33 _ [(.long (own_co x2 (4 : Int32)))]))
  refine G1 (fun _ k => XS.lstore X5.here hx rfl (hb hby d10_33) rfl (l' := #[.val (.ref x0), .val (.int (1 : Int32)), .val (.long x2), nS, .val (.long x3), nS, .val (.long x4), nS, .val (.long (own_co x2 (0 : Int32))), nS, .val (.long (own_co x2 (1 : Int32))), nS, .val (.long (own_co x2 (2 : Int32))), nS, .val (.long (own_co x2 (3 : Int32))), nS, .val (.long (own_co x2 (4 : Int32))), nS, nU, nU, nU, nU, nU, nU, nU, nU]) rfl k) ?_
  show Goes _ _ _ _ _ _ _ (T5.setTop (mkF m 35 _ []))
  refine G1 (fun _ k => XS.lloadN X5.here hx rfl (hb hby d10_35) rfl  k) ?_
  refine G1 (fun _ k => XS.iconst X5.here hx rfl (hb hby d10_36) k) ?_
  obtain ⟨_, _, ⟨T6, L6, k6, n6⟩, -, X6, ⟨Lc6, hQ6, l6, y6, z6⟩, st6⟩ := Jvm.LawKit.callS X5 hx (y := (⟨"com/example/orbitloom/orbitloom/orbits/TrackAtPinLaw", "co", "(JI)J"⟩ : MethodName)) hown (mvT hZ w_5) (mvT hZ w_6) (mvT hZ w_3) (mvT hZ w_7) (by decide) (backOf (W := 0) (rm2 l Z a0 hw [] x2 (5 : Int32) h0 n0 Z0) hZ w_7 w_3 (by decide) (by decide)) (g := (mkF m 37 #[.val (.ref x0), .val (.int (1 : Int32)), .val (.long x2), nS, .val (.long x3), nS, .val (.long x4), nS, .val (.long (own_co x2 (0 : Int32))), nS, .val (.long (own_co x2 (1 : Int32))), nS, .val (.long (own_co x2 (2 : Int32))), nS, .val (.long (own_co x2 (3 : Int32))), nS, .val (.long (own_co x2 (4 : Int32))), nS, nU, nU, nU, nU, nU, nU, nU, nU] [(.int (5 : Int32)), (.long x2)])) rfl (by rw [hml]; rfl) (argsL := [(.long x2), (.int (5 : Int32))]) (rest := []) (lenOf pd_1 rfl) rfl (by show 2 * 0 + _ ≤ _; exact Nat.le_of_eq rfl) (hb hby d10_37) (fun _ _ => ⟨rfl, eh5, (by decide : 0 + 0 ≤ _), (by decide : 0 + 0 ≤ _)⟩)
  dsimp only [Pt.U, Pt.locs, Pt.cells, Pt.slots] at X6 l6 y6 z6 st6 hQ6
  rw [l6, y6, z6] at X6
  obtain ⟨N6, eh6, hR6⟩ := hQ6
  have NA6 := Fr.app NA5 N6
  obtain rfl := hR6
  refine G1 st6 ?_
  show Goes _ _ _ _ _ _ _ (T6.setTop (mkF m 40 _ [(.long (own_co x2 (5 : Int32)))]))
  refine G1 (fun _ k => XS.lstore X6.here hx rfl (hb hby d10_40) rfl (l' := #[.val (.ref x0), .val (.int (1 : Int32)), .val (.long x2), nS, .val (.long x3), nS, .val (.long x4), nS, .val (.long (own_co x2 (0 : Int32))), nS, .val (.long (own_co x2 (1 : Int32))), nS, .val (.long (own_co x2 (2 : Int32))), nS, .val (.long (own_co x2 (3 : Int32))), nS, .val (.long (own_co x2 (4 : Int32))), nS, .val (.long (own_co x2 (5 : Int32))), nS, nU, nU, nU, nU, nU, nU]) rfl k) ?_
  show Goes _ _ _ _ _ _ _ (T6.setTop (mkF m 42 _ []))
  refine G1 (fun _ k => X6.ldc2Long hx hown (mvT hZ w_57) (g := (mkF m 42 #[.val (.ref x0), .val (.int (1 : Int32)), .val (.long x2), nS, .val (.long x3), nS, .val (.long x4), nS, .val (.long (own_co x2 (0 : Int32))), nS, .val (.long (own_co x2 (1 : Int32))), nS, .val (.long (own_co x2 (2 : Int32))), nS, .val (.long (own_co x2 (3 : Int32))), nS, .val (.long (own_co x2 (4 : Int32))), nS, .val (.long (own_co x2 (5 : Int32))), nS, nU, nU, nU, nU, nU, nU] [])) rfl (hb hby d10_42) _ k) ?_
  refine G1 (fun _ k => XS.lload X6.here hx rfl (hb hby d10_45) rfl  k) ?_
  refine G1 (fun _ k => XS.lmul X6.here hx rfl (hb hby d10_47) rfl k) ?_
  show Goes _ _ _ _ _ _ _ (T6.setTop (mkF m 48 _ [(.long ((512 : Int64) * (own_co x2 (0 : Int32))))]))
  refine G1 (fun _ k => X6.ldc2Long hx hown (mvT hZ w_58) (g := (mkF m 48 #[.val (.ref x0), .val (.int (1 : Int32)), .val (.long x2), nS, .val (.long x3), nS, .val (.long x4), nS, .val (.long (own_co x2 (0 : Int32))), nS, .val (.long (own_co x2 (1 : Int32))), nS, .val (.long (own_co x2 (2 : Int32))), nS, .val (.long (own_co x2 (3 : Int32))), nS, .val (.long (own_co x2 (4 : Int32))), nS, .val (.long (own_co x2 (5 : Int32))), nS, nU, nU, nU, nU, nU, nU] [(.long ((512 : Int64) * (own_co x2 (0 : Int32))))])) rfl (hb hby d10_48) _ k) ?_
  refine G1 (fun _ k => XS.lload X6.here hx rfl (hb hby d10_51) rfl  k) ?_
  refine G1 (fun _ k => XS.lmul X6.here hx rfl (hb hby d10_53) rfl k) ?_
  show Goes _ _ _ _ _ _ _ (T6.setTop (mkF m 54 #[.val (.ref x0), .val (.int (1 : Int32)), .val (.long x2), nS, .val (.long x3), nS, .val (.long x4), nS, .val (.long (own_co x2 (0 : Int32))), nS, .val (.long (own_co x2 (1 : Int32))), nS, .val (.long (own_co x2 (2 : Int32))), nS, .val (.long (own_co x2 (3 : Int32))), nS, .val (.long (own_co x2 (4 : Int32))), nS, .val (.long (own_co x2 (5 : Int32))), nS, nU, nU, nU, nU, nU, nU] [(.long ((64 : Int64) * (own_co x2 (1 : Int32)))), (.long ((512 : Int64) * (own_co x2 (0 : Int32))))]))
  refine G1 (fun _ k => XS.lload X6.here hx rfl (hb hby d10_54) rfl  k) ?_
  refine G1 (fun _ k => XS.lmul X6.here hx rfl (hb hby d10_56) rfl k) ?_
  show Goes _ _ _ _ _ _ _ (T6.setTop (mkF m 57 _ [(.long (((64 : Int64) * (own_co x2 (1 : Int32))) * x4)), (.long ((512 : Int64) * (own_co x2 (0 : Int32))))]))
  refine G1 (fun _ k => XS.ladd X6.here hx rfl (hb hby d10_57) rfl k) ?_
  show Goes _ _ _ _ _ _ _ (T6.setTop (mkF m 58 _ [(.long (((512 : Int64) * (own_co x2 (0 : Int32))) + (((64 : Int64) * (own_co x2 (1 : Int32))) * x4)))]))
  refine G1 (fun _ k => X6.ldc2Long hx hown (mvT hZ w_11) (g := (mkF m 58 #[.val (.ref x0), .val (.int (1 : Int32)), .val (.long x2), nS, .val (.long x3), nS, .val (.long x4), nS, .val (.long (own_co x2 (0 : Int32))), nS, .val (.long (own_co x2 (1 : Int32))), nS, .val (.long (own_co x2 (2 : Int32))), nS, .val (.long (own_co x2 (3 : Int32))), nS, .val (.long (own_co x2 (4 : Int32))), nS, .val (.long (own_co x2 (5 : Int32))), nS, nU, nU, nU, nU, nU, nU] [(.long (((512 : Int64) * (own_co x2 (0 : Int32))) + (((64 : Int64) * (own_co x2 (1 : Int32))) * x4)))])) rfl (hb hby d10_58) _ k) ?_
  refine G1 (fun _ k => XS.lload X6.here hx rfl (hb hby d10_61) rfl  k) ?_
  refine G1 (fun _ k => XS.lmul X6.here hx rfl (hb hby d10_63) rfl k) ?_
  show Goes _ _ _ _ _ _ _ (T6.setTop (mkF m 64 _ [(.long ((8 : Int64) * (own_co x2 (2 : Int32)))), (.long (((512 : Int64) * (own_co x2 (0 : Int32))) + (((64 : Int64) * (own_co x2 (1 : Int32))) * x4)))]))
  refine G1 (fun _ k => XS.lload X6.here hx rfl (hb hby d10_64) rfl  k) ?_
  refine G1 (fun _ k => XS.lmul X6.here hx rfl (hb hby d10_66) rfl k) ?_
  show Goes _ _ _ _ _ _ _ (T6.setTop (mkF m 67 _ [(.long (((8 : Int64) * (own_co x2 (2 : Int32))) * x4)), (.long (((512 : Int64) * (own_co x2 (0 : Int32))) + (((64 : Int64) * (own_co x2 (1 : Int32))) * x4)))]))
  refine G1 (fun _ k => XS.lload X6.here hx rfl (hb hby d10_67) rfl  k) ?_
  refine G1 (fun _ k => XS.lmul X6.here hx rfl (hb hby d10_69) rfl k) ?_
  show Goes _ _ _ _ _ _ _ (T6.setTop (mkF m 70 _ [(.long ((((8 : Int64) * (own_co x2 (2 : Int32))) * x4) * x4)), (.long (((512 : Int64) * (own_co x2 (0 : Int32))) + (((64 : Int64) * (own_co x2 (1 : Int32))) * x4)))]))
  refine G1 (fun _ k => XS.ladd X6.here hx rfl (hb hby d10_70) rfl k) ?_
  show Goes _ _ _ _ _ _ _ (T6.setTop (mkF m 71 _ [(.long ((((512 : Int64) * (own_co x2 (0 : Int32))) + (((64 : Int64) * (own_co x2 (1 : Int32))) * x4)) + ((((8 : Int64) * (own_co x2 (2 : Int32))) * x4) * x4)))]))
  refine G1 (fun _ k => XS.lload X6.here hx rfl (hb hby d10_71) rfl  k) ?_
  refine G1 (fun _ k => XS.lload X6.here hx rfl (hb hby d10_73) rfl  k) ?_
  refine G1 (fun _ k => XS.lmul X6.here hx rfl (hb hby d10_75) rfl k) ?_
  show Goes _ _ _ _ _ _ _ (T6.setTop (mkF m 76 #[.val (.ref x0), .val (.int (1 : Int32)), .val (.long x2), nS, .val (.long x3), nS, .val (.long x4), nS, .val (.long (own_co x2 (0 : Int32))), nS, .val (.long (own_co x2 (1 : Int32))), nS, .val (.long (own_co x2 (2 : Int32))), nS, .val (.long (own_co x2 (3 : Int32))), nS, .val (.long (own_co x2 (4 : Int32))), nS, .val (.long (own_co x2 (5 : Int32))), nS, nU, nU, nU, nU, nU, nU] [(.long ((own_co x2 (3 : Int32)) * x4)), (.long ((((512 : Int64) * (own_co x2 (0 : Int32))) + (((64 : Int64) * (own_co x2 (1 : Int32))) * x4)) + ((((8 : Int64) * (own_co x2 (2 : Int32))) * x4) * x4)))]))
  refine G1 (fun _ k => XS.lload X6.here hx rfl (hb hby d10_76) rfl  k) ?_
  refine G1 (fun _ k => XS.lmul X6.here hx rfl (hb hby d10_78) rfl k) ?_
  show Goes _ _ _ _ _ _ _ (T6.setTop (mkF m 79 _ [(.long (((own_co x2 (3 : Int32)) * x4) * x4)), (.long ((((512 : Int64) * (own_co x2 (0 : Int32))) + (((64 : Int64) * (own_co x2 (1 : Int32))) * x4)) + ((((8 : Int64) * (own_co x2 (2 : Int32))) * x4) * x4)))]))
  refine G1 (fun _ k => XS.lload X6.here hx rfl (hb hby d10_79) rfl  k) ?_
  refine G1 (fun _ k => XS.lmul X6.here hx rfl (hb hby d10_81) rfl k) ?_
  show Goes _ _ _ _ _ _ _ (T6.setTop (mkF m 82 _ [(.long ((((own_co x2 (3 : Int32)) * x4) * x4) * x4)), (.long ((((512 : Int64) * (own_co x2 (0 : Int32))) + (((64 : Int64) * (own_co x2 (1 : Int32))) * x4)) + ((((8 : Int64) * (own_co x2 (2 : Int32))) * x4) * x4)))]))
  refine G1 (fun _ k => XS.ladd X6.here hx rfl (hb hby d10_82) rfl k) ?_
  show Goes _ _ _ _ _ _ _ (T6.setTop (mkF m 83 _ [(.long (((((512 : Int64) * (own_co x2 (0 : Int32))) + (((64 : Int64) * (own_co x2 (1 : Int32))) * x4)) + ((((8 : Int64) * (own_co x2 (2 : Int32))) * x4) * x4)) + ((((own_co x2 (3 : Int32)) * x4) * x4) * x4)))]))
  refine G1 (fun _ k => XS.lstore X6.here hx rfl (hb hby d10_83) rfl (l' := #[.val (.ref x0), .val (.int (1 : Int32)), .val (.long x2), nS, .val (.long x3), nS, .val (.long x4), nS, .val (.long (own_co x2 (0 : Int32))), nS, .val (.long (own_co x2 (1 : Int32))), nS, .val (.long (own_co x2 (2 : Int32))), nS, .val (.long (own_co x2 (3 : Int32))), nS, .val (.long (own_co x2 (4 : Int32))), nS, .val (.long (own_co x2 (5 : Int32))), nS, .val (.long (((((512 : Int64) * (own_co x2 (0 : Int32))) + (((64 : Int64) * (own_co x2 (1 : Int32))) * x4)) + ((((8 : Int64) * (own_co x2 (2 : Int32))) * x4) * x4)) + ((((own_co x2 (3 : Int32)) * x4) * x4) * x4))), nS, nU, nU, nU, nU]) rfl k) ?_
  show Goes _ _ _ _ _ _ _ (T6.setTop (mkF m 85 _ []))
  show Goes _ _ _ _ _ _ _ (T6.setTop (mkF m 85 #[.val (.ref x0), .val (.int (1 : Int32)), .val (.long x2), nS, .val (.long x3), nS, .val (.long x4), nS, .val (.long (own_co x2 (0 : Int32))), nS, .val (.long (own_co x2 (1 : Int32))), nS, .val (.long (own_co x2 (2 : Int32))), nS, .val (.long (own_co x2 (3 : Int32))), nS, .val (.long (own_co x2 (4 : Int32))), nS, .val (.long (own_co x2 (5 : Int32))), nS, .val (.long (((((512 : Int64) * (own_co x2 (0 : Int32))) + (((64 : Int64) * (own_co x2 (1 : Int32))) * x4)) + ((((8 : Int64) * (own_co x2 (2 : Int32))) * x4) * x4)) + ((((own_co x2 (3 : Int32)) * x4) * x4) * x4))), nS, nU, nU, nU, nU] []))
  generalize hg_lv7 : (((((512 : Int64) * (own_co x2 (0 : Int32))) + (((64 : Int64) * (own_co x2 (1 : Int32))) * x4)) + ((((8 : Int64) * (own_co x2 (2 : Int32))) * x4) * x4)) + ((((own_co x2 (3 : Int32)) * x4) * x4) * x4)) = lv7
  show Goes _ _ _ _ _ _ _ (T6.setTop (mkF m 85 #[.val (.ref x0), .val (.int (1 : Int32)), .val (.long x2), nS, .val (.long x3), nS, .val (.long x4), nS, .val (.long (own_co x2 (0 : Int32))), nS, .val (.long (own_co x2 (1 : Int32))), nS, .val (.long (own_co x2 (2 : Int32))), nS, .val (.long (own_co x2 (3 : Int32))), nS, .val (.long (own_co x2 (4 : Int32))), nS, .val (.long (own_co x2 (5 : Int32))), nS, .val (.long lv7), nS, nU, nU, nU, nU] []))
  have Llv7 : own_L lv7 (((((512 : Int) * (own_co x2 (0 : Int32)).toInt) + (((64 : Int) * (own_co x2 (1 : Int32)).toInt) * x4.toInt)) + ((((8 : Int) * (own_co x2 (2 : Int32)).toInt) * x4.toInt) * x4.toInt)) + ((((own_co x2 (3 : Int32)).toInt * x4.toInt) * x4.toInt) * x4.toInt)) 8867020800 := hg_lv7 ▸ (own_L.add (own_L.add (own_L.add (own_L.mul (⟨by decide, by decide⟩ : own_L (512 : Int64) 512 512) (own_coL x2 (0 : Int32)) (by decide)) (own_L.mul (own_L.mul (⟨by decide, by decide⟩ : own_L (64 : Int64) 64 64) (own_coL x2 (1 : Int32)) (by decide)) ht (by decide)) (by decide)) (own_L.mul (own_L.mul (own_L.mul (⟨by decide, by decide⟩ : own_L (8 : Int64) 8 8) (own_coL x2 (2 : Int32)) (by decide)) ht (by decide)) ht (by decide)) (by decide)) (own_L.mul (own_L.mul (own_L.mul (own_coL x2 (3 : Int32)) ht (by decide)) ht (by decide)) ht (by decide)) (by decide))
  refine G1 (fun _ k => X6.ldc2Long hx hown (mvT hZ w_58) (g := (mkF m 85 #[.val (.ref x0), .val (.int (1 : Int32)), .val (.long x2), nS, .val (.long x3), nS, .val (.long x4), nS, .val (.long (own_co x2 (0 : Int32))), nS, .val (.long (own_co x2 (1 : Int32))), nS, .val (.long (own_co x2 (2 : Int32))), nS, .val (.long (own_co x2 (3 : Int32))), nS, .val (.long (own_co x2 (4 : Int32))), nS, .val (.long (own_co x2 (5 : Int32))), nS, .val (.long lv7), nS, nU, nU, nU, nU] [])) rfl (hb hby d10_85) _ k) ?_
  refine G1 (fun _ k => XS.lload X6.here hx rfl (hb hby d10_88) rfl  k) ?_
  refine G1 (fun _ k => XS.lmul X6.here hx rfl (hb hby d10_90) rfl k) ?_
  show Goes _ _ _ _ _ _ _ (T6.setTop (mkF m 91 _ [(.long ((64 : Int64) * (own_co x2 (1 : Int32))))]))
  refine G1 (fun _ k => X6.ldc2Long hx hown (mvT hZ w_59) (g := (mkF m 91 #[.val (.ref x0), .val (.int (1 : Int32)), .val (.long x2), nS, .val (.long x3), nS, .val (.long x4), nS, .val (.long (own_co x2 (0 : Int32))), nS, .val (.long (own_co x2 (1 : Int32))), nS, .val (.long (own_co x2 (2 : Int32))), nS, .val (.long (own_co x2 (3 : Int32))), nS, .val (.long (own_co x2 (4 : Int32))), nS, .val (.long (own_co x2 (5 : Int32))), nS, .val (.long lv7), nS, nU, nU, nU, nU] [(.long ((64 : Int64) * (own_co x2 (1 : Int32))))])) rfl (hb hby d10_91) _ k) ?_
  refine G1 (fun _ k => XS.lload X6.here hx rfl (hb hby d10_94) rfl  k) ?_
  refine G1 (fun _ k => XS.lmul X6.here hx rfl (hb hby d10_96) rfl k) ?_
  show Goes _ _ _ _ _ _ _ (T6.setTop (mkF m 97 _ [(.long ((16 : Int64) * (own_co x2 (2 : Int32)))), (.long ((64 : Int64) * (own_co x2 (1 : Int32))))]))
  refine G1 (fun _ k => XS.lload X6.here hx rfl (hb hby d10_97) rfl  k) ?_
  refine G1 (fun _ k => XS.lmul X6.here hx rfl (hb hby d10_99) rfl k) ?_
  show Goes _ _ _ _ _ _ _ (T6.setTop (mkF m 100 _ [(.long (((16 : Int64) * (own_co x2 (2 : Int32))) * x4)), (.long ((64 : Int64) * (own_co x2 (1 : Int32))))]))
  refine G1 (fun _ k => XS.ladd X6.here hx rfl (hb hby d10_100) rfl k) ?_
  show Goes _ _ _ _ _ _ _ (T6.setTop (mkF m 101 _ [(.long (((64 : Int64) * (own_co x2 (1 : Int32))) + (((16 : Int64) * (own_co x2 (2 : Int32))) * x4)))]))
  refine G1 (fun _ k => X6.ldc2Long hx hown (mvT hZ w_9) (g := (mkF m 101 #[.val (.ref x0), .val (.int (1 : Int32)), .val (.long x2), nS, .val (.long x3), nS, .val (.long x4), nS, .val (.long (own_co x2 (0 : Int32))), nS, .val (.long (own_co x2 (1 : Int32))), nS, .val (.long (own_co x2 (2 : Int32))), nS, .val (.long (own_co x2 (3 : Int32))), nS, .val (.long (own_co x2 (4 : Int32))), nS, .val (.long (own_co x2 (5 : Int32))), nS, .val (.long lv7), nS, nU, nU, nU, nU] [(.long (((64 : Int64) * (own_co x2 (1 : Int32))) + (((16 : Int64) * (own_co x2 (2 : Int32))) * x4)))])) rfl (hb hby d10_101) _ k) ?_
  refine G1 (fun _ k => XS.lload X6.here hx rfl (hb hby d10_104) rfl  k) ?_
  refine G1 (fun _ k => XS.lmul X6.here hx rfl (hb hby d10_106) rfl k) ?_
  show Goes _ _ _ _ _ _ _ (T6.setTop (mkF m 107 _ [(.long ((3 : Int64) * (own_co x2 (3 : Int32)))), (.long (((64 : Int64) * (own_co x2 (1 : Int32))) + (((16 : Int64) * (own_co x2 (2 : Int32))) * x4)))]))
  refine G1 (fun _ k => XS.lload X6.here hx rfl (hb hby d10_107) rfl  k) ?_
  refine G1 (fun _ k => XS.lmul X6.here hx rfl (hb hby d10_109) rfl k) ?_
  show Goes _ _ _ _ _ _ _ (T6.setTop (mkF m 110 _ [(.long (((3 : Int64) * (own_co x2 (3 : Int32))) * x4)), (.long (((64 : Int64) * (own_co x2 (1 : Int32))) + (((16 : Int64) * (own_co x2 (2 : Int32))) * x4)))]))
  refine G1 (fun _ k => XS.lload X6.here hx rfl (hb hby d10_110) rfl  k) ?_
  refine G1 (fun _ k => XS.lmul X6.here hx rfl (hb hby d10_112) rfl k) ?_
  show Goes _ _ _ _ _ _ _ (T6.setTop (mkF m 113 #[.val (.ref x0), .val (.int (1 : Int32)), .val (.long x2), nS, .val (.long x3), nS, .val (.long x4), nS, .val (.long (own_co x2 (0 : Int32))), nS, .val (.long (own_co x2 (1 : Int32))), nS, .val (.long (own_co x2 (2 : Int32))), nS, .val (.long (own_co x2 (3 : Int32))), nS, .val (.long (own_co x2 (4 : Int32))), nS, .val (.long (own_co x2 (5 : Int32))), nS, .val (.long lv7), nS, nU, nU, nU, nU] [(.long ((((3 : Int64) * (own_co x2 (3 : Int32))) * x4) * x4)), (.long (((64 : Int64) * (own_co x2 (1 : Int32))) + (((16 : Int64) * (own_co x2 (2 : Int32))) * x4)))]))
  refine G1 (fun _ k => XS.ladd X6.here hx rfl (hb hby d10_113) rfl k) ?_
  show Goes _ _ _ _ _ _ _ (T6.setTop (mkF m 114 _ [(.long ((((64 : Int64) * (own_co x2 (1 : Int32))) + (((16 : Int64) * (own_co x2 (2 : Int32))) * x4)) + ((((3 : Int64) * (own_co x2 (3 : Int32))) * x4) * x4)))]))
  refine G1 (fun _ k => XS.lstore X6.here hx rfl (hb hby d10_114) rfl (l' := #[.val (.ref x0), .val (.int (1 : Int32)), .val (.long x2), nS, .val (.long x3), nS, .val (.long x4), nS, .val (.long (own_co x2 (0 : Int32))), nS, .val (.long (own_co x2 (1 : Int32))), nS, .val (.long (own_co x2 (2 : Int32))), nS, .val (.long (own_co x2 (3 : Int32))), nS, .val (.long (own_co x2 (4 : Int32))), nS, .val (.long (own_co x2 (5 : Int32))), nS, .val (.long lv7), nS, .val (.long ((((64 : Int64) * (own_co x2 (1 : Int32))) + (((16 : Int64) * (own_co x2 (2 : Int32))) * x4)) + ((((3 : Int64) * (own_co x2 (3 : Int32))) * x4) * x4))), nS, nU, nU]) rfl k) ?_
  show Goes _ _ _ _ _ _ _ (T6.setTop (mkF m 116 _ []))
  show Goes _ _ _ _ _ _ _ (T6.setTop (mkF m 116 #[.val (.ref x0), .val (.int (1 : Int32)), .val (.long x2), nS, .val (.long x3), nS, .val (.long x4), nS, .val (.long (own_co x2 (0 : Int32))), nS, .val (.long (own_co x2 (1 : Int32))), nS, .val (.long (own_co x2 (2 : Int32))), nS, .val (.long (own_co x2 (3 : Int32))), nS, .val (.long (own_co x2 (4 : Int32))), nS, .val (.long (own_co x2 (5 : Int32))), nS, .val (.long lv7), nS, .val (.long ((((64 : Int64) * (own_co x2 (1 : Int32))) + (((16 : Int64) * (own_co x2 (2 : Int32))) * x4)) + ((((3 : Int64) * (own_co x2 (3 : Int32))) * x4) * x4))), nS, nU, nU] []))
  generalize hg_lv8 : ((((64 : Int64) * (own_co x2 (1 : Int32))) + (((16 : Int64) * (own_co x2 (2 : Int32))) * x4)) + ((((3 : Int64) * (own_co x2 (3 : Int32))) * x4) * x4)) = lv8
  show Goes _ _ _ _ _ _ _ (T6.setTop (mkF m 116 #[.val (.ref x0), .val (.int (1 : Int32)), .val (.long x2), nS, .val (.long x3), nS, .val (.long x4), nS, .val (.long (own_co x2 (0 : Int32))), nS, .val (.long (own_co x2 (1 : Int32))), nS, .val (.long (own_co x2 (2 : Int32))), nS, .val (.long (own_co x2 (3 : Int32))), nS, .val (.long (own_co x2 (4 : Int32))), nS, .val (.long (own_co x2 (5 : Int32))), nS, .val (.long lv7), nS, .val (.long lv8), nS, nU, nU] []))
  have Llv8 : own_L lv8 ((((64 : Int) * (own_co x2 (1 : Int32)).toInt) + (((16 : Int) * (own_co x2 (2 : Int32)).toInt) * x4.toInt)) + ((((3 : Int) * (own_co x2 (3 : Int32)).toInt) * x4.toInt) * x4.toInt)) 102793216 := hg_lv8 ▸ (own_L.add (own_L.add (own_L.mul (⟨by decide, by decide⟩ : own_L (64 : Int64) 64 64) (own_coL x2 (1 : Int32)) (by decide)) (own_L.mul (own_L.mul (⟨by decide, by decide⟩ : own_L (16 : Int64) 16 16) (own_coL x2 (2 : Int32)) (by decide)) ht (by decide)) (by decide)) (own_L.mul (own_L.mul (own_L.mul (⟨by decide, by decide⟩ : own_L (3 : Int64) 3 3) (own_coL x2 (3 : Int32)) (by decide)) ht (by decide)) ht (by decide)) (by decide))
  refine G1 (fun _ k => XS.lload X6.here hx rfl (hb hby d10_116) rfl  k) ?_
  refine G1 (fun _ k => X6.ldc2Long hx hown (mvT hZ w_11) (g := (mkF m 118 #[.val (.ref x0), .val (.int (1 : Int32)), .val (.long x2), nS, .val (.long x3), nS, .val (.long x4), nS, .val (.long (own_co x2 (0 : Int32))), nS, .val (.long (own_co x2 (1 : Int32))), nS, .val (.long (own_co x2 (2 : Int32))), nS, .val (.long (own_co x2 (3 : Int32))), nS, .val (.long (own_co x2 (4 : Int32))), nS, .val (.long (own_co x2 (5 : Int32))), nS, .val (.long lv7), nS, .val (.long lv8), nS, nU, nU] [(.long x4)])) rfl (hb hby d10_118) _ k) ?_
  refine G1 (fun _ k => XS.lload X6.here hx rfl (hb hby d10_121) rfl  k) ?_
  refine G1 (fun _ k => XS.lmul X6.here hx rfl (hb hby d10_123) rfl k) ?_
  show Goes _ _ _ _ _ _ _ (T6.setTop (mkF m 124 _ [(.long ((8 : Int64) * x3)), (.long x4)]))
  refine G1 (fun _ k => XS.lcmp X6.here hx rfl (hb hby d10_124) rfl k) ?_
  show Goes _ _ _ _ _ _ _ (T6.setTop (mkF m 125 _ [(.int (lcmpW x4 ((8 : Int64) * x3)))]))
  by_cases c125_9 : ((8 : Int64) * x3) < x4
  · refine G1 (fun _ k => XS.ifNo X6.here hx rfl (hb hby d10_125) rfl ((if0 _ _).trans (tlt ((lw_gt _ _).mpr c125_9)).2.2.2) k) ?_
    show Goes _ _ _ _ _ _ _ (T6.setTop (mkF m 128 _ []))
    refine G1 (fun _ k => XS.lload X6.here hx rfl (hb hby d10_128) rfl  k) ?_
    refine G1 (fun _ k => X6.ldc2Long hx hown (mvT hZ w_11) (g := (mkF m 130 #[.val (.ref x0), .val (.int (1 : Int32)), .val (.long x2), nS, .val (.long x3), nS, .val (.long x4), nS, .val (.long (own_co x2 (0 : Int32))), nS, .val (.long (own_co x2 (1 : Int32))), nS, .val (.long (own_co x2 (2 : Int32))), nS, .val (.long (own_co x2 (3 : Int32))), nS, .val (.long (own_co x2 (4 : Int32))), nS, .val (.long (own_co x2 (5 : Int32))), nS, .val (.long lv7), nS, .val (.long lv8), nS, nU, nU] [(.long x4)])) rfl (hb hby d10_130) _ k) ?_
    refine G1 (fun _ k => XS.lload X6.here hx rfl (hb hby d10_133) rfl  k) ?_
    refine G1 (fun _ k => XS.lmul X6.here hx rfl (hb hby d10_135) rfl k) ?_
    show Goes _ _ _ _ _ _ _ (T6.setTop (mkF m 136 _ [(.long ((8 : Int64) * x3)), (.long x4)]))
    refine G1 (fun _ k => XS.lsub X6.here hx rfl (hb hby d10_136) rfl k) ?_
    show Goes _ _ _ _ _ _ _ (T6.setTop (mkF m 137 _ [(.long (x4 - ((8 : Int64) * x3)))]))
    refine G1 (fun _ k => XS.lstore X6.here hx rfl (hb hby d10_137) rfl (l' := #[.val (.ref x0), .val (.int (1 : Int32)), .val (.long x2), nS, .val (.long x3), nS, .val (.long x4), nS, .val (.long (own_co x2 (0 : Int32))), nS, .val (.long (own_co x2 (1 : Int32))), nS, .val (.long (own_co x2 (2 : Int32))), nS, .val (.long (own_co x2 (3 : Int32))), nS, .val (.long (own_co x2 (4 : Int32))), nS, .val (.long (own_co x2 (5 : Int32))), nS, .val (.long lv7), nS, .val (.long lv8), nS, .val (.long (x4 - ((8 : Int64) * x3))), nS]) rfl k) ?_
    show Goes _ _ _ _ _ _ _ (T6.setTop (mkF m 139 _ []))
    show Goes _ _ _ _ _ _ _ (T6.setTop (mkF m 139 #[.val (.ref x0), .val (.int (1 : Int32)), .val (.long x2), nS, .val (.long x3), nS, .val (.long x4), nS, .val (.long (own_co x2 (0 : Int32))), nS, .val (.long (own_co x2 (1 : Int32))), nS, .val (.long (own_co x2 (2 : Int32))), nS, .val (.long (own_co x2 (3 : Int32))), nS, .val (.long (own_co x2 (4 : Int32))), nS, .val (.long (own_co x2 (5 : Int32))), nS, .val (.long lv7), nS, .val (.long lv8), nS, .val (.long (x4 - ((8 : Int64) * x3))), nS] []))
    generalize hg_lv10 : (x4 - ((8 : Int64) * x3)) = lv10
    show Goes _ _ _ _ _ _ _ (T6.setTop (mkF m 139 #[.val (.ref x0), .val (.int (1 : Int32)), .val (.long x2), nS, .val (.long x3), nS, .val (.long x4), nS, .val (.long (own_co x2 (0 : Int32))), nS, .val (.long (own_co x2 (1 : Int32))), nS, .val (.long (own_co x2 (2 : Int32))), nS, .val (.long (own_co x2 (3 : Int32))), nS, .val (.long (own_co x2 (4 : Int32))), nS, .val (.long (own_co x2 (5 : Int32))), nS, .val (.long lv7), nS, .val (.long lv8), nS, .val (.long lv10), nS] []))
    have Llv10 : own_L lv10 (x4.toInt - ((8 : Int) * x3.toInt)) 384 := hg_lv10 ▸ (own_L.sub ht (own_L.mul (⟨by decide, by decide⟩ : own_L (8 : Int64) 8 8) hs (by decide)) (by decide))
    refine G1 (fun _ k => XS.lload X6.here hx rfl (hb hby d10_139) rfl  k) ?_
    refine G1 (fun _ k => X6.ldc2Long hx hown (mvT hZ w_11) (g := (mkF m 141 #[.val (.ref x0), .val (.int (1 : Int32)), .val (.long x2), nS, .val (.long x3), nS, .val (.long x4), nS, .val (.long (own_co x2 (0 : Int32))), nS, .val (.long (own_co x2 (1 : Int32))), nS, .val (.long (own_co x2 (2 : Int32))), nS, .val (.long (own_co x2 (3 : Int32))), nS, .val (.long (own_co x2 (4 : Int32))), nS, .val (.long (own_co x2 (5 : Int32))), nS, .val (.long lv7), nS, .val (.long lv8), nS, .val (.long lv10), nS] [(.long lv7)])) rfl (hb hby d10_141) _ k) ?_
    refine G1 (fun _ k => XS.lload X6.here hx rfl (hb hby d10_144) rfl  k) ?_
    refine G1 (fun _ k => XS.lmul X6.here hx rfl (hb hby d10_146) rfl k) ?_
    show Goes _ _ _ _ _ _ _ (T6.setTop (mkF m 147 _ [(.long ((8 : Int64) * (own_co x2 (4 : Int32)))), (.long lv7)]))
    refine G1 (fun _ k => XS.lload X6.here hx rfl (hb hby d10_147) rfl  k) ?_
    refine G1 (fun _ k => XS.lmul X6.here hx rfl (hb hby d10_149) rfl k) ?_
    show Goes _ _ _ _ _ _ _ (T6.setTop (mkF m 150 _ [(.long (((8 : Int64) * (own_co x2 (4 : Int32))) * lv10)), (.long lv7)]))
    refine G1 (fun _ k => XS.lload X6.here hx rfl (hb hby d10_150) rfl  k) ?_
    refine G1 (fun _ k => XS.lmul X6.here hx rfl (hb hby d10_152) rfl k) ?_
    show Goes _ _ _ _ _ _ _ (T6.setTop (mkF m 153 _ [(.long ((((8 : Int64) * (own_co x2 (4 : Int32))) * lv10) * lv10)), (.long lv7)]))
    refine G1 (fun _ k => XS.ladd X6.here hx rfl (hb hby d10_153) rfl k) ?_
    show Goes _ _ _ _ _ _ _ (T6.setTop (mkF m 154 _ [(.long (lv7 + ((((8 : Int64) * (own_co x2 (4 : Int32))) * lv10) * lv10)))]))
    refine G1 (fun _ k => XS.lload X6.here hx rfl (hb hby d10_154) rfl  k) ?_
    refine G1 (fun _ k => XS.lload X6.here hx rfl (hb hby d10_156) rfl  k) ?_
    refine G1 (fun _ k => XS.lmul X6.here hx rfl (hb hby d10_158) rfl k) ?_
    show Goes _ _ _ _ _ _ _ (T6.setTop (mkF m 159 _ [(.long ((own_co x2 (5 : Int32)) * lv10)), (.long (lv7 + ((((8 : Int64) * (own_co x2 (4 : Int32))) * lv10) * lv10)))]))
    refine G1 (fun _ k => XS.lload X6.here hx rfl (hb hby d10_159) rfl  k) ?_
    refine G1 (fun _ k => XS.lmul X6.here hx rfl (hb hby d10_161) rfl k) ?_
    show Goes _ _ _ _ _ _ _ (T6.setTop (mkF m 162 _ [(.long (((own_co x2 (5 : Int32)) * lv10) * lv10)), (.long (lv7 + ((((8 : Int64) * (own_co x2 (4 : Int32))) * lv10) * lv10)))]))
    refine G1 (fun _ k => XS.lload X6.here hx rfl (hb hby d10_162) rfl  k) ?_
    refine G1 (fun _ k => XS.lmul X6.here hx rfl (hb hby d10_164) rfl k) ?_
    show Goes _ _ _ _ _ _ _ (T6.setTop (mkF m 165 #[.val (.ref x0), .val (.int (1 : Int32)), .val (.long x2), nS, .val (.long x3), nS, .val (.long x4), nS, .val (.long (own_co x2 (0 : Int32))), nS, .val (.long (own_co x2 (1 : Int32))), nS, .val (.long (own_co x2 (2 : Int32))), nS, .val (.long (own_co x2 (3 : Int32))), nS, .val (.long (own_co x2 (4 : Int32))), nS, .val (.long (own_co x2 (5 : Int32))), nS, .val (.long lv7), nS, .val (.long lv8), nS, .val (.long lv10), nS] [(.long ((((own_co x2 (5 : Int32)) * lv10) * lv10) * lv10)), (.long (lv7 + ((((8 : Int64) * (own_co x2 (4 : Int32))) * lv10) * lv10)))]))
    refine G1 (fun _ k => XS.ladd X6.here hx rfl (hb hby d10_165) rfl k) ?_
    show Goes _ _ _ _ _ _ _ (T6.setTop (mkF m 166 _ [(.long ((lv7 + ((((8 : Int64) * (own_co x2 (4 : Int32))) * lv10) * lv10)) + ((((own_co x2 (5 : Int32)) * lv10) * lv10) * lv10)))]))
    refine G1 (fun _ k => XS.lstore X6.here hx rfl (hb hby d10_166) rfl (l' := #[.val (.ref x0), .val (.int (1 : Int32)), .val (.long x2), nS, .val (.long x3), nS, .val (.long x4), nS, .val (.long (own_co x2 (0 : Int32))), nS, .val (.long (own_co x2 (1 : Int32))), nS, .val (.long (own_co x2 (2 : Int32))), nS, .val (.long (own_co x2 (3 : Int32))), nS, .val (.long (own_co x2 (4 : Int32))), nS, .val (.long (own_co x2 (5 : Int32))), nS, .val (.long ((lv7 + ((((8 : Int64) * (own_co x2 (4 : Int32))) * lv10) * lv10)) + ((((own_co x2 (5 : Int32)) * lv10) * lv10) * lv10))), nS, .val (.long lv8), nS, .val (.long lv10), nS]) rfl k) ?_
    show Goes _ _ _ _ _ _ _ (T6.setTop (mkF m 168 _ []))
    show Goes _ _ _ _ _ _ _ (T6.setTop (mkF m 168 #[.val (.ref x0), .val (.int (1 : Int32)), .val (.long x2), nS, .val (.long x3), nS, .val (.long x4), nS, .val (.long (own_co x2 (0 : Int32))), nS, .val (.long (own_co x2 (1 : Int32))), nS, .val (.long (own_co x2 (2 : Int32))), nS, .val (.long (own_co x2 (3 : Int32))), nS, .val (.long (own_co x2 (4 : Int32))), nS, .val (.long (own_co x2 (5 : Int32))), nS, .val (.long ((lv7 + ((((8 : Int64) * (own_co x2 (4 : Int32))) * lv10) * lv10)) + ((((own_co x2 (5 : Int32)) * lv10) * lv10) * lv10))), nS, .val (.long lv8), nS, .val (.long lv10), nS] []))
    generalize hg_lv11 : ((lv7 + ((((8 : Int64) * (own_co x2 (4 : Int32))) * lv10) * lv10)) + ((((own_co x2 (5 : Int32)) * lv10) * lv10) * lv10)) = lv11
    show Goes _ _ _ _ _ _ _ (T6.setTop (mkF m 168 #[.val (.ref x0), .val (.int (1 : Int32)), .val (.long x2), nS, .val (.long x3), nS, .val (.long x4), nS, .val (.long (own_co x2 (0 : Int32))), nS, .val (.long (own_co x2 (1 : Int32))), nS, .val (.long (own_co x2 (2 : Int32))), nS, .val (.long (own_co x2 (3 : Int32))), nS, .val (.long (own_co x2 (4 : Int32))), nS, .val (.long (own_co x2 (5 : Int32))), nS, .val (.long lv11), nS, .val (.long lv8), nS, .val (.long lv10), nS] []))
    have Llv11 : own_L lv11 (((((((512 : Int) * (own_co x2 (0 : Int32)).toInt) + (((64 : Int) * (own_co x2 (1 : Int32)).toInt) * x4.toInt)) + ((((8 : Int) * (own_co x2 (2 : Int32)).toInt) * x4.toInt) * x4.toInt)) + ((((own_co x2 (3 : Int32)).toInt * x4.toInt) * x4.toInt) * x4.toInt)) + ((((8 : Int) * (own_co x2 (4 : Int32)).toInt) * (x4.toInt - ((8 : Int) * x3.toInt))) * (x4.toInt - ((8 : Int) * x3.toInt)))) + ((((own_co x2 (5 : Int32)).toInt * (x4.toInt - ((8 : Int) * x3.toInt))) * (x4.toInt - ((8 : Int) * x3.toInt))) * (x4.toInt - ((8 : Int) * x3.toInt)))) 38462029824 := hg_lv11 ▸ (own_L.add (own_L.add Llv7 (own_L.mul (own_L.mul (own_L.mul (⟨by decide, by decide⟩ : own_L (8 : Int64) 8 8) (own_coL x2 (4 : Int32)) (by decide)) Llv10 (by decide)) Llv10 (by decide)) (by decide)) (own_L.mul (own_L.mul (own_L.mul (own_coL x2 (5 : Int32)) Llv10 (by decide)) Llv10 (by decide)) Llv10 (by decide)) (by decide))
    refine G1 (fun _ k => XS.lload X6.here hx rfl (hb hby d10_168) rfl  k) ?_
    refine G1 (fun _ k => X6.ldc2Long hx hown (mvT hZ w_59) (g := (mkF m 170 #[.val (.ref x0), .val (.int (1 : Int32)), .val (.long x2), nS, .val (.long x3), nS, .val (.long x4), nS, .val (.long (own_co x2 (0 : Int32))), nS, .val (.long (own_co x2 (1 : Int32))), nS, .val (.long (own_co x2 (2 : Int32))), nS, .val (.long (own_co x2 (3 : Int32))), nS, .val (.long (own_co x2 (4 : Int32))), nS, .val (.long (own_co x2 (5 : Int32))), nS, .val (.long lv11), nS, .val (.long lv8), nS, .val (.long lv10), nS] [(.long lv8)])) rfl (hb hby d10_170) _ k) ?_
    refine G1 (fun _ k => XS.lload X6.here hx rfl (hb hby d10_173) rfl  k) ?_
    refine G1 (fun _ k => XS.lmul X6.here hx rfl (hb hby d10_175) rfl k) ?_
    show Goes _ _ _ _ _ _ _ (T6.setTop (mkF m 176 _ [(.long ((16 : Int64) * (own_co x2 (4 : Int32)))), (.long lv8)]))
    refine G1 (fun _ k => XS.lload X6.here hx rfl (hb hby d10_176) rfl  k) ?_
    refine G1 (fun _ k => XS.lmul X6.here hx rfl (hb hby d10_178) rfl k) ?_
    show Goes _ _ _ _ _ _ _ (T6.setTop (mkF m 179 _ [(.long (((16 : Int64) * (own_co x2 (4 : Int32))) * lv10)), (.long lv8)]))
    refine G1 (fun _ k => XS.ladd X6.here hx rfl (hb hby d10_179) rfl k) ?_
    show Goes _ _ _ _ _ _ _ (T6.setTop (mkF m 180 _ [(.long (lv8 + (((16 : Int64) * (own_co x2 (4 : Int32))) * lv10)))]))
    refine G1 (fun _ k => X6.ldc2Long hx hown (mvT hZ w_9) (g := (mkF m 180 #[.val (.ref x0), .val (.int (1 : Int32)), .val (.long x2), nS, .val (.long x3), nS, .val (.long x4), nS, .val (.long (own_co x2 (0 : Int32))), nS, .val (.long (own_co x2 (1 : Int32))), nS, .val (.long (own_co x2 (2 : Int32))), nS, .val (.long (own_co x2 (3 : Int32))), nS, .val (.long (own_co x2 (4 : Int32))), nS, .val (.long (own_co x2 (5 : Int32))), nS, .val (.long lv11), nS, .val (.long lv8), nS, .val (.long lv10), nS] [(.long (lv8 + (((16 : Int64) * (own_co x2 (4 : Int32))) * lv10)))])) rfl (hb hby d10_180) _ k) ?_
    refine G1 (fun _ k => XS.lload X6.here hx rfl (hb hby d10_183) rfl  k) ?_
    refine G1 (fun _ k => XS.lmul X6.here hx rfl (hb hby d10_185) rfl k) ?_
    show Goes _ _ _ _ _ _ _ (T6.setTop (mkF m 186 _ [(.long ((3 : Int64) * (own_co x2 (5 : Int32)))), (.long (lv8 + (((16 : Int64) * (own_co x2 (4 : Int32))) * lv10)))]))
    refine G1 (fun _ k => XS.lload X6.here hx rfl (hb hby d10_186) rfl  k) ?_
    refine G1 (fun _ k => XS.lmul X6.here hx rfl (hb hby d10_188) rfl k) ?_
    show Goes _ _ _ _ _ _ _ (T6.setTop (mkF m 189 _ [(.long (((3 : Int64) * (own_co x2 (5 : Int32))) * lv10)), (.long (lv8 + (((16 : Int64) * (own_co x2 (4 : Int32))) * lv10)))]))
    refine G1 (fun _ k => XS.lload X6.here hx rfl (hb hby d10_189) rfl  k) ?_
    refine G1 (fun _ k => XS.lmul X6.here hx rfl (hb hby d10_191) rfl k) ?_
    show Goes _ _ _ _ _ _ _ (T6.setTop (mkF m 192 _ [(.long ((((3 : Int64) * (own_co x2 (5 : Int32))) * lv10) * lv10)), (.long (lv8 + (((16 : Int64) * (own_co x2 (4 : Int32))) * lv10)))]))
    refine G1 (fun _ k => XS.ladd X6.here hx rfl (hb hby d10_192) rfl k) ?_
    show Goes _ _ _ _ _ _ _ (T6.setTop (mkF m 193 #[.val (.ref x0), .val (.int (1 : Int32)), .val (.long x2), nS, .val (.long x3), nS, .val (.long x4), nS, .val (.long (own_co x2 (0 : Int32))), nS, .val (.long (own_co x2 (1 : Int32))), nS, .val (.long (own_co x2 (2 : Int32))), nS, .val (.long (own_co x2 (3 : Int32))), nS, .val (.long (own_co x2 (4 : Int32))), nS, .val (.long (own_co x2 (5 : Int32))), nS, .val (.long lv11), nS, .val (.long lv8), nS, .val (.long lv10), nS] [(.long ((lv8 + (((16 : Int64) * (own_co x2 (4 : Int32))) * lv10)) + ((((3 : Int64) * (own_co x2 (5 : Int32))) * lv10) * lv10)))]))
    refine G1 (fun _ k => XS.lstore X6.here hx rfl (hb hby d10_193) rfl (l' := #[.val (.ref x0), .val (.int (1 : Int32)), .val (.long x2), nS, .val (.long x3), nS, .val (.long x4), nS, .val (.long (own_co x2 (0 : Int32))), nS, .val (.long (own_co x2 (1 : Int32))), nS, .val (.long (own_co x2 (2 : Int32))), nS, .val (.long (own_co x2 (3 : Int32))), nS, .val (.long (own_co x2 (4 : Int32))), nS, .val (.long (own_co x2 (5 : Int32))), nS, .val (.long lv11), nS, .val (.long ((lv8 + (((16 : Int64) * (own_co x2 (4 : Int32))) * lv10)) + ((((3 : Int64) * (own_co x2 (5 : Int32))) * lv10) * lv10))), nS, .val (.long lv10), nS]) rfl k) ?_
    show Goes _ _ _ _ _ _ _ (T6.setTop (mkF m 195 _ []))
    show Goes _ _ _ _ _ _ _ (T6.setTop (mkF m 195 #[.val (.ref x0), .val (.int (1 : Int32)), .val (.long x2), nS, .val (.long x3), nS, .val (.long x4), nS, .val (.long (own_co x2 (0 : Int32))), nS, .val (.long (own_co x2 (1 : Int32))), nS, .val (.long (own_co x2 (2 : Int32))), nS, .val (.long (own_co x2 (3 : Int32))), nS, .val (.long (own_co x2 (4 : Int32))), nS, .val (.long (own_co x2 (5 : Int32))), nS, .val (.long lv11), nS, .val (.long ((lv8 + (((16 : Int64) * (own_co x2 (4 : Int32))) * lv10)) + ((((3 : Int64) * (own_co x2 (5 : Int32))) * lv10) * lv10))), nS, .val (.long lv10), nS] []))
    generalize hg_lv12 : ((lv8 + (((16 : Int64) * (own_co x2 (4 : Int32))) * lv10)) + ((((3 : Int64) * (own_co x2 (5 : Int32))) * lv10) * lv10)) = lv12
    show Goes _ _ _ _ _ _ _ (T6.setTop (mkF m 195 #[.val (.ref x0), .val (.int (1 : Int32)), .val (.long x2), nS, .val (.long x3), nS, .val (.long x4), nS, .val (.long (own_co x2 (0 : Int32))), nS, .val (.long (own_co x2 (1 : Int32))), nS, .val (.long (own_co x2 (2 : Int32))), nS, .val (.long (own_co x2 (3 : Int32))), nS, .val (.long (own_co x2 (4 : Int32))), nS, .val (.long (own_co x2 (5 : Int32))), nS, .val (.long lv11), nS, .val (.long lv12), nS, .val (.long lv10), nS] []))
    have Llv12 : own_L lv12 ((((((64 : Int) * (own_co x2 (1 : Int32)).toInt) + (((16 : Int) * (own_co x2 (2 : Int32)).toInt) * x4.toInt)) + ((((3 : Int) * (own_co x2 (3 : Int32)).toInt) * x4.toInt) * x4.toInt)) + (((16 : Int) * (own_co x2 (4 : Int32)).toInt) * (x4.toInt - ((8 : Int) * x3.toInt)))) + ((((3 : Int) * (own_co x2 (5 : Int32)).toInt) * (x4.toInt - ((8 : Int) * x3.toInt))) * (x4.toInt - ((8 : Int) * x3.toInt)))) 332431360 := hg_lv12 ▸ (own_L.add (own_L.add Llv8 (own_L.mul (own_L.mul (⟨by decide, by decide⟩ : own_L (16 : Int64) 16 16) (own_coL x2 (4 : Int32)) (by decide)) Llv10 (by decide)) (by decide)) (own_L.mul (own_L.mul (own_L.mul (⟨by decide, by decide⟩ : own_L (3 : Int64) 3 3) (own_coL x2 (5 : Int32)) (by decide)) Llv10 (by decide)) Llv10 (by decide)) (by decide))
    refine G1 (fun _ k => XS.aloadN X6.here hx rfl (hb hby d10_195) rfl rfl k) ?_
    refine G1 (fun _ k => XS.iloadN X6.here hx rfl (hb hby d10_196) rfl  k) ?_
    obtain ⟨cl13, Ar13, q13, S13, P13, H13, G13⟩ := id V_x0
    have hin13 : ¬ ((1 : Int32) < 0 ∨ cl13.slots.size ≤ ((1 : Int32)).toNatClampNeg) := inb_of S13 ⟨by decide, by decide⟩
    have hat13 : cl13.slots[((1 : Int32)).toNatClampNeg]? = some (.double vu1) := H13 _ (by rw [S13]; decide)
    refine G1 (fun _ k => X6.daload hx (j := (1 : Int32)) (v := (.double vu1)) (by rw [eh6]; exact Ar13.1) (State.isArrayOf_alike hZ.alike Ar13.2.1) Ar13.2.2 hin13 hat13 (g := (mkF m 197 #[.val (.ref x0), .val (.int (1 : Int32)), .val (.long x2), nS, .val (.long x3), nS, .val (.long x4), nS, .val (.long (own_co x2 (0 : Int32))), nS, .val (.long (own_co x2 (1 : Int32))), nS, .val (.long (own_co x2 (2 : Int32))), nS, .val (.long (own_co x2 (3 : Int32))), nS, .val (.long (own_co x2 (4 : Int32))), nS, .val (.long (own_co x2 (5 : Int32))), nS, .val (.long lv11), nS, .val (.long lv12), nS, .val (.long lv10), nS] [(.int (1 : Int32)), (.ref x0)])) rfl rfl (hb hby d10_197) _ k) ?_
    show Goes _ _ _ _ _ _ _ (T6.setTop (mkF m 198 _ [(.double vu1)]))
    refine G1 (fun _ k => X6.ldc2DoubleC hx hown (mvT hZ w_60) (g := (mkF m 198 #[.val (.ref x0), .val (.int (1 : Int32)), .val (.long x2), nS, .val (.long x3), nS, .val (.long x4), nS, .val (.long (own_co x2 (0 : Int32))), nS, .val (.long (own_co x2 (1 : Int32))), nS, .val (.long (own_co x2 (2 : Int32))), nS, .val (.long (own_co x2 (3 : Int32))), nS, .val (.long (own_co x2 (4 : Int32))), nS, .val (.long (own_co x2 (5 : Int32))), nS, .val (.long lv11), nS, .val (.long lv12), nS, .val (.long lv10), nS] [(.double vu1)])) rfl (hb hby d10_198) _ k) ?_
    show Goes _ _ _ _ _ _ _ (T6.setTop (mkF m 201 _ [(.double (4647714815446351872 : UInt64)), (.double vu1)]))
    obtain ⟨d14, hd14⟩ : ∃ z, FP.dmul vu1 (4647714815446351872 : UInt64) = z := ⟨_, rfl⟩
    have fr14 : OwnF.Fr 9 (Iv * (512 : Int)) 765260092932096 d14 := by rw [← hd14]; exact OwnF.Fr.dmul fI own_k4647714815446351872 (by decide)
    refine G1 (fun _ k => XS.dmulS X6.here hx rfl (hb hby d10_201) rfl (by rw [hd14]; exact own_nn fr14) hd14 k) ?_
    show Goes _ _ _ _ _ _ _ (T6.setTop (mkF m 202 _ [(.double d14)]))
    refine G1 (fun _ k => XS.lload X6.here hx rfl (hb hby d10_202) rfl  k) ?_
    obtain ⟨d15, hd15⟩ : ∃ z, FP.l2d lv11 = z := ⟨_, rfl⟩
    have fr15 : OwnF.Fr 0 (((((((512 : Int) * (own_co x2 (0 : Int32)).toInt) + (((64 : Int) * (own_co x2 (1 : Int32)).toInt) * x4.toInt)) + ((((8 : Int) * (own_co x2 (2 : Int32)).toInt) * x4.toInt) * x4.toInt)) + ((((own_co x2 (3 : Int32)).toInt * x4.toInt) * x4.toInt) * x4.toInt)) + ((((8 : Int) * (own_co x2 (4 : Int32)).toInt) * (x4.toInt - ((8 : Int) * x3.toInt))) * (x4.toInt - ((8 : Int) * x3.toInt)))) + ((((own_co x2 (5 : Int32)).toInt * (x4.toInt - ((8 : Int) * x3.toInt))) * (x4.toInt - ((8 : Int) * x3.toInt))) * (x4.toInt - ((8 : Int) * x3.toInt)))) 38462029824 d15 := by rw [← hd15]; exact own_frL Llv11 (by decide)
    refine G1 (fun _ k => XS.l2dS X6.here hx rfl (hb hby d10_204) rfl hd15 k) ?_
    show Goes _ _ _ _ _ _ _ (T6.setTop (mkF m 205 _ [(.double d15), (.double d14)]))
    refine G1 (fun _ k => XS.dcmpS X6.here hx rfl (hb hby d10_205) rfl rfl k) ?_
    show Goes _ _ _ _ _ _ _ (T6.setTop (mkF m 206 _ [(.int (cmpValue (FP.dcmp d14 d15) .l))]))
    refine G1 (fun _ k => XS.ifNo X6.here hx rfl (hb hby d10_206) rfl ((if0 _ _).trans (teq (own_eq0 fr14 (OwnF.Fr.up 9 fr15) (by decide) (by rw [(h2 (by have q := Int64.lt_iff_toInt_lt.mp c125_9; rw [(own_L.mul (⟨by decide, by decide⟩ : own_L (8 : Int64) 8 8) hs (by decide)).1] at q; exact q)).1]; rfl) .l)).2) k) ?_
    show Goes _ _ _ _ _ _ _ (T6.setTop (mkF m 209 _ []))
    refine G1 (fun _ k => XS.aloadN X6.here hx rfl (hb hby d10_209) rfl rfl k) ?_
    refine G1 (fun _ k => XS.iconst X6.here hx rfl (hb hby d10_210) k) ?_
    refine G1 (fun _ k => XS.iloadN X6.here hx rfl (hb hby d10_211) rfl  k) ?_
    refine G1 (fun _ k => XS.iadd X6.here hx rfl (hb hby d10_212) rfl k) ?_
    show Goes _ _ _ _ _ _ _ (T6.setTop (mkF m 213 #[.val (.ref x0), .val (.int (1 : Int32)), .val (.long x2), nS, .val (.long x3), nS, .val (.long x4), nS, .val (.long (own_co x2 (0 : Int32))), nS, .val (.long (own_co x2 (1 : Int32))), nS, .val (.long (own_co x2 (2 : Int32))), nS, .val (.long (own_co x2 (3 : Int32))), nS, .val (.long (own_co x2 (4 : Int32))), nS, .val (.long (own_co x2 (5 : Int32))), nS, .val (.long lv11), nS, .val (.long lv12), nS, .val (.long lv10), nS] [(.int (4 : Int32)), (.ref x0)]))
    obtain ⟨cl16, Ar16, q16, S16, P16, H16, G16⟩ := id V_x0
    have hin16 : ¬ ((4 : Int32) < 0 ∨ cl16.slots.size ≤ ((4 : Int32)).toNatClampNeg) := inb_of S16 ⟨by decide, by decide⟩
    have hat16 : cl16.slots[((4 : Int32)).toNatClampNeg]? = some (.double vu4) := H16 _ (by rw [S16]; decide)
    refine G1 (fun _ k => X6.daload hx (j := (4 : Int32)) (v := (.double vu4)) (by rw [eh6]; exact Ar16.1) (State.isArrayOf_alike hZ.alike Ar16.2.1) Ar16.2.2 hin16 hat16 (g := (mkF m 213 #[.val (.ref x0), .val (.int (1 : Int32)), .val (.long x2), nS, .val (.long x3), nS, .val (.long x4), nS, .val (.long (own_co x2 (0 : Int32))), nS, .val (.long (own_co x2 (1 : Int32))), nS, .val (.long (own_co x2 (2 : Int32))), nS, .val (.long (own_co x2 (3 : Int32))), nS, .val (.long (own_co x2 (4 : Int32))), nS, .val (.long (own_co x2 (5 : Int32))), nS, .val (.long lv11), nS, .val (.long lv12), nS, .val (.long lv10), nS] [(.int (4 : Int32)), (.ref x0)])) rfl rfl (hb hby d10_213) _ k) ?_
    show Goes _ _ _ _ _ _ _ (T6.setTop (mkF m 214 _ [(.double vu4)]))
    refine G1 (fun _ k => X6.ldc2DoubleC hx hown (mvT hZ w_61) (g := (mkF m 214 #[.val (.ref x0), .val (.int (1 : Int32)), .val (.long x2), nS, .val (.long x3), nS, .val (.long x4), nS, .val (.long (own_co x2 (0 : Int32))), nS, .val (.long (own_co x2 (1 : Int32))), nS, .val (.long (own_co x2 (2 : Int32))), nS, .val (.long (own_co x2 (3 : Int32))), nS, .val (.long (own_co x2 (4 : Int32))), nS, .val (.long (own_co x2 (5 : Int32))), nS, .val (.long lv11), nS, .val (.long lv12), nS, .val (.long lv10), nS] [(.double vu4)])) rfl (hb hby d10_214) _ k) ?_
    show Goes _ _ _ _ _ _ _ (T6.setTop (mkF m 217 _ [(.double (4634204016564240384 : UInt64)), (.double vu4)]))
    obtain ⟨d17, hd17⟩ : ∃ z, FP.dmul vu4 (4634204016564240384 : UInt64) = z := ⟨_, rfl⟩
    have fr17 : OwnF.Fr 6 (Jv * (64 : Int)) 2791728742400 d17 := by rw [← hd17]; exact OwnF.Fr.dmul fJ own_k4634204016564240384 (by decide)
    refine G1 (fun _ k => XS.dmulS X6.here hx rfl (hb hby d10_217) rfl (by rw [hd17]; exact own_nn fr17) hd17 k) ?_
    show Goes _ _ _ _ _ _ _ (T6.setTop (mkF m 218 _ [(.double d17)]))
    refine G1 (fun _ k => XS.lload X6.here hx rfl (hb hby d10_218) rfl  k) ?_
    obtain ⟨d18, hd18⟩ : ∃ z, FP.l2d lv12 = z := ⟨_, rfl⟩
    have fr18 : OwnF.Fr 0 ((((((64 : Int) * (own_co x2 (1 : Int32)).toInt) + (((16 : Int) * (own_co x2 (2 : Int32)).toInt) * x4.toInt)) + ((((3 : Int) * (own_co x2 (3 : Int32)).toInt) * x4.toInt) * x4.toInt)) + (((16 : Int) * (own_co x2 (4 : Int32)).toInt) * (x4.toInt - ((8 : Int) * x3.toInt)))) + ((((3 : Int) * (own_co x2 (5 : Int32)).toInt) * (x4.toInt - ((8 : Int) * x3.toInt))) * (x4.toInt - ((8 : Int) * x3.toInt)))) 332431360 d18 := by rw [← hd18]; exact own_frL Llv12 (by decide)
    refine G1 (fun _ k => XS.l2dS X6.here hx rfl (hb hby d10_220) rfl hd18 k) ?_
    show Goes _ _ _ _ _ _ _ (T6.setTop (mkF m 221 _ [(.double d18), (.double d17)]))
    refine G1 (fun _ k => XS.dcmpS X6.here hx rfl (hb hby d10_221) rfl rfl k) ?_
    show Goes _ _ _ _ _ _ _ (T6.setTop (mkF m 222 _ [(.int (cmpValue (FP.dcmp d17 d18) .l))]))
    refine G1 (fun _ k => XS.ifNo X6.here hx rfl (hb hby d10_222) rfl ((if0 _ _).trans (teq (own_eq0 fr17 (OwnF.Fr.up 6 fr18) (by decide) (by rw [(h2 (by have q := Int64.lt_iff_toInt_lt.mp c125_9; rw [(own_L.mul (⟨by decide, by decide⟩ : own_L (8 : Int64) 8 8) hs (by decide)).1] at q; exact q)).2]; rfl) .l)).2) k) ?_
    show Goes _ _ _ _ _ _ _ (T6.setTop (mkF m 225 _ []))
    refine G1 (fun _ k => XS.iconst X6.here hx rfl (hb hby d10_225) k) ?_
    refine G1 (fun _ k => XS.goto X6.here hx rfl (pc0 := 226) (pc' := 230) rfl (hb hby d10_226) (by decide) (by decide) k) ?_
    show Goes _ _ _ _ _ _ _ (T6.setTop (mkF m 230 #[.val (.ref x0), .val (.int (1 : Int32)), .val (.long x2), nS, .val (.long x3), nS, .val (.long x4), nS, .val (.long (own_co x2 (0 : Int32))), nS, .val (.long (own_co x2 (1 : Int32))), nS, .val (.long (own_co x2 (2 : Int32))), nS, .val (.long (own_co x2 (3 : Int32))), nS, .val (.long (own_co x2 (4 : Int32))), nS, .val (.long (own_co x2 (5 : Int32))), nS, .val (.long lv11), nS, .val (.long lv12), nS, .val (.long lv10), nS] [(.int (1 : Int32))]))
    exact Goes.ret X6 hx (BodyLoose.notSynchronized Bd) Bd.returns rfl (Or.inl ⟨rfl, by simp, _, rfl⟩) (hb hby d10_230) (by show Q10_1 Z x0 x2 x3 x4 ka vu0 vu1 vu2 vu3 vu4 vu5 Iv Jv h0 n0 (some (.int (1 : Int32))) T6.heap _; rw [eh6]; exact ⟨NA6, rfl, rfl⟩) (by decide) (by decide)
  · refine G1 (fun _ k => XS.ifYes X6.here hx rfl (pc0 := 125) (pc' := 195) rfl (hb hby d10_125) rfl ((if0 _ _).trans (flt (fun q => c125_9 ((lw_gt _ _).mp q))).2.2.2) (by decide) (by decide) k) ?_
    show Goes _ _ _ _ _ _ _ (T6.setTop (mkF m 195 _ []))
    show Goes _ _ _ _ _ _ _ (T6.setTop (mkF m 195 #[.val (.ref x0), .val (.int (1 : Int32)), .val (.long x2), nS, .val (.long x3), nS, .val (.long x4), nS, .val (.long (own_co x2 (0 : Int32))), nS, .val (.long (own_co x2 (1 : Int32))), nS, .val (.long (own_co x2 (2 : Int32))), nS, .val (.long (own_co x2 (3 : Int32))), nS, .val (.long (own_co x2 (4 : Int32))), nS, .val (.long (own_co x2 (5 : Int32))), nS, .val (.long lv7), nS, .val (.long lv8), nS, nU, nU] []))
    refine G1 (fun _ k => XS.aloadN X6.here hx rfl (hb hby d10_195) rfl rfl k) ?_
    refine G1 (fun _ k => XS.iloadN X6.here hx rfl (hb hby d10_196) rfl  k) ?_
    obtain ⟨cl19, Ar19, q19, S19, P19, H19, G19⟩ := id V_x0
    have hin19 : ¬ ((1 : Int32) < 0 ∨ cl19.slots.size ≤ ((1 : Int32)).toNatClampNeg) := inb_of S19 ⟨by decide, by decide⟩
    have hat19 : cl19.slots[((1 : Int32)).toNatClampNeg]? = some (.double vu1) := H19 _ (by rw [S19]; decide)
    refine G1 (fun _ k => X6.daload hx (j := (1 : Int32)) (v := (.double vu1)) (by rw [eh6]; exact Ar19.1) (State.isArrayOf_alike hZ.alike Ar19.2.1) Ar19.2.2 hin19 hat19 (g := (mkF m 197 #[.val (.ref x0), .val (.int (1 : Int32)), .val (.long x2), nS, .val (.long x3), nS, .val (.long x4), nS, .val (.long (own_co x2 (0 : Int32))), nS, .val (.long (own_co x2 (1 : Int32))), nS, .val (.long (own_co x2 (2 : Int32))), nS, .val (.long (own_co x2 (3 : Int32))), nS, .val (.long (own_co x2 (4 : Int32))), nS, .val (.long (own_co x2 (5 : Int32))), nS, .val (.long lv7), nS, .val (.long lv8), nS, nU, nU] [(.int (1 : Int32)), (.ref x0)])) rfl rfl (hb hby d10_197) _ k) ?_
    show Goes _ _ _ _ _ _ _ (T6.setTop (mkF m 198 _ [(.double vu1)]))
    refine G1 (fun _ k => X6.ldc2DoubleC hx hown (mvT hZ w_60) (g := (mkF m 198 #[.val (.ref x0), .val (.int (1 : Int32)), .val (.long x2), nS, .val (.long x3), nS, .val (.long x4), nS, .val (.long (own_co x2 (0 : Int32))), nS, .val (.long (own_co x2 (1 : Int32))), nS, .val (.long (own_co x2 (2 : Int32))), nS, .val (.long (own_co x2 (3 : Int32))), nS, .val (.long (own_co x2 (4 : Int32))), nS, .val (.long (own_co x2 (5 : Int32))), nS, .val (.long lv7), nS, .val (.long lv8), nS, nU, nU] [(.double vu1)])) rfl (hb hby d10_198) _ k) ?_
    show Goes _ _ _ _ _ _ _ (T6.setTop (mkF m 201 _ [(.double (4647714815446351872 : UInt64)), (.double vu1)]))
    obtain ⟨d20, hd20⟩ : ∃ z, FP.dmul vu1 (4647714815446351872 : UInt64) = z := ⟨_, rfl⟩
    have fr20 : OwnF.Fr 9 (Iv * (512 : Int)) 765260092932096 d20 := by rw [← hd20]; exact OwnF.Fr.dmul fI own_k4647714815446351872 (by decide)
    refine G1 (fun _ k => XS.dmulS X6.here hx rfl (hb hby d10_201) rfl (by rw [hd20]; exact own_nn fr20) hd20 k) ?_
    show Goes _ _ _ _ _ _ _ (T6.setTop (mkF m 202 _ [(.double d20)]))
    refine G1 (fun _ k => XS.lload X6.here hx rfl (hb hby d10_202) rfl  k) ?_
    obtain ⟨d21, hd21⟩ : ∃ z, FP.l2d lv7 = z := ⟨_, rfl⟩
    have fr21 : OwnF.Fr 0 (((((512 : Int) * (own_co x2 (0 : Int32)).toInt) + (((64 : Int) * (own_co x2 (1 : Int32)).toInt) * x4.toInt)) + ((((8 : Int) * (own_co x2 (2 : Int32)).toInt) * x4.toInt) * x4.toInt)) + ((((own_co x2 (3 : Int32)).toInt * x4.toInt) * x4.toInt) * x4.toInt)) 8867020800 d21 := by rw [← hd21]; exact own_frL Llv7 (by decide)
    refine G1 (fun _ k => XS.l2dS X6.here hx rfl (hb hby d10_204) rfl hd21 k) ?_
    show Goes _ _ _ _ _ _ _ (T6.setTop (mkF m 205 _ [(.double d21), (.double d20)]))
    refine G1 (fun _ k => XS.dcmpS X6.here hx rfl (hb hby d10_205) rfl rfl k) ?_
    show Goes _ _ _ _ _ _ _ (T6.setTop (mkF m 206 _ [(.int (cmpValue (FP.dcmp d20 d21) .l))]))
    refine G1 (fun _ k => XS.ifNo X6.here hx rfl (hb hby d10_206) rfl ((if0 _ _).trans (teq (own_eq0 fr20 (OwnF.Fr.up 9 fr21) (by decide) (by rw [(h1 (fun z => c125_9 (Int64.lt_iff_toInt_lt.mpr (by rw [(own_L.mul (⟨by decide, by decide⟩ : own_L (8 : Int64) 8 8) hs (by decide)).1]; exact z)))).1]; rfl) .l)).2) k) ?_
    show Goes _ _ _ _ _ _ _ (T6.setTop (mkF m 209 _ []))
    refine G1 (fun _ k => XS.aloadN X6.here hx rfl (hb hby d10_209) rfl rfl k) ?_
    refine G1 (fun _ k => XS.iconst X6.here hx rfl (hb hby d10_210) k) ?_
    refine G1 (fun _ k => XS.iloadN X6.here hx rfl (hb hby d10_211) rfl  k) ?_
    refine G1 (fun _ k => XS.iadd X6.here hx rfl (hb hby d10_212) rfl k) ?_
    show Goes _ _ _ _ _ _ _ (T6.setTop (mkF m 213 #[.val (.ref x0), .val (.int (1 : Int32)), .val (.long x2), nS, .val (.long x3), nS, .val (.long x4), nS, .val (.long (own_co x2 (0 : Int32))), nS, .val (.long (own_co x2 (1 : Int32))), nS, .val (.long (own_co x2 (2 : Int32))), nS, .val (.long (own_co x2 (3 : Int32))), nS, .val (.long (own_co x2 (4 : Int32))), nS, .val (.long (own_co x2 (5 : Int32))), nS, .val (.long lv7), nS, .val (.long lv8), nS, nU, nU] [(.int (4 : Int32)), (.ref x0)]))
    obtain ⟨cl22, Ar22, q22, S22, P22, H22, G22⟩ := id V_x0
    have hin22 : ¬ ((4 : Int32) < 0 ∨ cl22.slots.size ≤ ((4 : Int32)).toNatClampNeg) := inb_of S22 ⟨by decide, by decide⟩
    have hat22 : cl22.slots[((4 : Int32)).toNatClampNeg]? = some (.double vu4) := H22 _ (by rw [S22]; decide)
    refine G1 (fun _ k => X6.daload hx (j := (4 : Int32)) (v := (.double vu4)) (by rw [eh6]; exact Ar22.1) (State.isArrayOf_alike hZ.alike Ar22.2.1) Ar22.2.2 hin22 hat22 (g := (mkF m 213 #[.val (.ref x0), .val (.int (1 : Int32)), .val (.long x2), nS, .val (.long x3), nS, .val (.long x4), nS, .val (.long (own_co x2 (0 : Int32))), nS, .val (.long (own_co x2 (1 : Int32))), nS, .val (.long (own_co x2 (2 : Int32))), nS, .val (.long (own_co x2 (3 : Int32))), nS, .val (.long (own_co x2 (4 : Int32))), nS, .val (.long (own_co x2 (5 : Int32))), nS, .val (.long lv7), nS, .val (.long lv8), nS, nU, nU] [(.int (4 : Int32)), (.ref x0)])) rfl rfl (hb hby d10_213) _ k) ?_
    show Goes _ _ _ _ _ _ _ (T6.setTop (mkF m 214 _ [(.double vu4)]))
    refine G1 (fun _ k => X6.ldc2DoubleC hx hown (mvT hZ w_61) (g := (mkF m 214 #[.val (.ref x0), .val (.int (1 : Int32)), .val (.long x2), nS, .val (.long x3), nS, .val (.long x4), nS, .val (.long (own_co x2 (0 : Int32))), nS, .val (.long (own_co x2 (1 : Int32))), nS, .val (.long (own_co x2 (2 : Int32))), nS, .val (.long (own_co x2 (3 : Int32))), nS, .val (.long (own_co x2 (4 : Int32))), nS, .val (.long (own_co x2 (5 : Int32))), nS, .val (.long lv7), nS, .val (.long lv8), nS, nU, nU] [(.double vu4)])) rfl (hb hby d10_214) _ k) ?_
    show Goes _ _ _ _ _ _ _ (T6.setTop (mkF m 217 _ [(.double (4634204016564240384 : UInt64)), (.double vu4)]))
    obtain ⟨d23, hd23⟩ : ∃ z, FP.dmul vu4 (4634204016564240384 : UInt64) = z := ⟨_, rfl⟩
    have fr23 : OwnF.Fr 6 (Jv * (64 : Int)) 2791728742400 d23 := by rw [← hd23]; exact OwnF.Fr.dmul fJ own_k4634204016564240384 (by decide)
    refine G1 (fun _ k => XS.dmulS X6.here hx rfl (hb hby d10_217) rfl (by rw [hd23]; exact own_nn fr23) hd23 k) ?_
    show Goes _ _ _ _ _ _ _ (T6.setTop (mkF m 218 _ [(.double d23)]))
    refine G1 (fun _ k => XS.lload X6.here hx rfl (hb hby d10_218) rfl  k) ?_
    obtain ⟨d24, hd24⟩ : ∃ z, FP.l2d lv8 = z := ⟨_, rfl⟩
    have fr24 : OwnF.Fr 0 ((((64 : Int) * (own_co x2 (1 : Int32)).toInt) + (((16 : Int) * (own_co x2 (2 : Int32)).toInt) * x4.toInt)) + ((((3 : Int) * (own_co x2 (3 : Int32)).toInt) * x4.toInt) * x4.toInt)) 102793216 d24 := by rw [← hd24]; exact own_frL Llv8 (by decide)
    refine G1 (fun _ k => XS.l2dS X6.here hx rfl (hb hby d10_220) rfl hd24 k) ?_
    show Goes _ _ _ _ _ _ _ (T6.setTop (mkF m 221 _ [(.double d24), (.double d23)]))
    refine G1 (fun _ k => XS.dcmpS X6.here hx rfl (hb hby d10_221) rfl rfl k) ?_
    show Goes _ _ _ _ _ _ _ (T6.setTop (mkF m 222 _ [(.int (cmpValue (FP.dcmp d23 d24) .l))]))
    refine G1 (fun _ k => XS.ifNo X6.here hx rfl (hb hby d10_222) rfl ((if0 _ _).trans (teq (own_eq0 fr23 (OwnF.Fr.up 6 fr24) (by decide) (by rw [(h1 (fun z => c125_9 (Int64.lt_iff_toInt_lt.mpr (by rw [(own_L.mul (⟨by decide, by decide⟩ : own_L (8 : Int64) 8 8) hs (by decide)).1]; exact z)))).2]; rfl) .l)).2) k) ?_
    show Goes _ _ _ _ _ _ _ (T6.setTop (mkF m 225 _ []))
    refine G1 (fun _ k => XS.iconst X6.here hx rfl (hb hby d10_225) k) ?_
    refine G1 (fun _ k => XS.goto X6.here hx rfl (pc0 := 226) (pc' := 230) rfl (hb hby d10_226) (by decide) (by decide) k) ?_
    show Goes _ _ _ _ _ _ _ (T6.setTop (mkF m 230 #[.val (.ref x0), .val (.int (1 : Int32)), .val (.long x2), nS, .val (.long x3), nS, .val (.long x4), nS, .val (.long (own_co x2 (0 : Int32))), nS, .val (.long (own_co x2 (1 : Int32))), nS, .val (.long (own_co x2 (2 : Int32))), nS, .val (.long (own_co x2 (3 : Int32))), nS, .val (.long (own_co x2 (4 : Int32))), nS, .val (.long (own_co x2 (5 : Int32))), nS, .val (.long lv7), nS, .val (.long lv8), nS, nU, nU] [(.int (1 : Int32))]))
    exact Goes.ret X6 hx (BodyLoose.notSynchronized Bd) Bd.returns rfl (Or.inl ⟨rfl, by simp, _, rfl⟩) (hb hby d10_230) (by show Q10_1 Z x0 x2 x3 x4 ka vu0 vu1 vu2 vu3 vu4 vu5 Iv Jv h0 n0 (some (.int (1 : Int32))) T6.heap _; rw [eh6]; exact ⟨NA6, rfl, rfl⟩) (by decide) (by decide)
theorem ef_10_2 (m : MethodId) (x0 : Addr) (x2 : Int64) (x3 : Int64) (x4 : Int64) (ka : ClassId) (vu0 : UInt64) (vu1 : UInt64) (vu2 : UInt64) (vu3 : UInt64) (vu4 : UInt64) (vu5 : UInt64) (Iv : Int) (Jv : Int)  : entryFrame m #[(.ref x0), (.int (2 : Int32)), (.long x2), (.long x3), (.long x4)] 26 = mkF m 0 #[.val (.ref x0), .val (.int (2 : Int32)), .val (.long x2), .second, .val (.long x3), .second, .val (.long x4), .second, .unset, .unset, .unset, .unset, .unset, .unset, .unset, .unset, .unset, .unset, .unset, .unset, .unset, .unset, .unset, .unset, .unset, .unset] [] := by first | (simp [entryFrame, mkF, argsToLocals, Value.category]; done) | rfl
def Q10_2 (Z : State) (x0 : Addr) (x2 : Int64) (x3 : Int64) (x4 : Int64) (ka : ClassId) (vu0 : UInt64) (vu1 : UInt64) (vu2 : UInt64) (vu3 : UInt64) (vu4 : UInt64) (vu5 : UInt64) (Iv : Int) (Jv : Int) (h0 : Heap) (n0 : Nat) (v : Option Value) (h : Heap) (L : List Loc) : Prop := Fr n0 L ∧ h = h0 ∧ v = some (.int (1 : Int32))
set_option maxRecDepth 65536 in
set_option maxHeartbeats 40000000 in
theorem rm10_2 (l : Launch) (Z : State) (a0 : Array Value) (hw : ∀ d ∈ tables_1, d.before a0 Z = true) (ws : List Jvm.Cond) (x0 : Addr) (x2 : Int64) (x3 : Int64) (x4 : Int64) (ka : ClassId) (vu0 : UInt64) (vu1 : UInt64) (vu2 : UInt64) (vu3 : UInt64) (vu4 : UInt64) (vu5 : UInt64) (Iv : Int) (Jv : Int) (h0 : Heap) (n0 : Nat) (Z0 : n0 ≤ h0.size) (V_x0 : Arv Z h0 x0 ka .double (6 : Int32) [(.double vu0), (.double vu1), (.double vu2), (.double vu3), (.double vu4), (.double vu5)] (.double (0 : UInt64))) (hs : own_L x3 x3.toInt 16) (ht : own_L x4 x4.toInt 256) (fI : OwnF.Fr 9 Iv 1494648619008 vu2) (fJ : OwnF.Fr 6 Jv 43620761600 vu5) (h1 : ¬ ((8 : Int) * x3.toInt < x4.toInt) → Iv = (((((512 : Int) * (own_co x2 (0 : Int32)).toInt) + (((64 : Int) * (own_co x2 (1 : Int32)).toInt) * x4.toInt)) + ((((8 : Int) * (own_co x2 (2 : Int32)).toInt) * x4.toInt) * x4.toInt)) + ((((own_co x2 (3 : Int32)).toInt * x4.toInt) * x4.toInt) * x4.toInt)) ∧ Jv = ((((64 : Int) * (own_co x2 (1 : Int32)).toInt) + (((16 : Int) * (own_co x2 (2 : Int32)).toInt) * x4.toInt)) + ((((3 : Int) * (own_co x2 (3 : Int32)).toInt) * x4.toInt) * x4.toInt))) (h2 : (8 : Int) * x3.toInt < x4.toInt → Iv = (((((((512 : Int) * (own_co x2 (0 : Int32)).toInt) + (((64 : Int) * (own_co x2 (1 : Int32)).toInt) * x4.toInt)) + ((((8 : Int) * (own_co x2 (2 : Int32)).toInt) * x4.toInt) * x4.toInt)) + ((((own_co x2 (3 : Int32)).toInt * x4.toInt) * x4.toInt) * x4.toInt)) + ((((8 : Int) * (own_co x2 (4 : Int32)).toInt) * (x4.toInt - ((8 : Int) * x3.toInt))) * (x4.toInt - ((8 : Int) * x3.toInt)))) + ((((own_co x2 (5 : Int32)).toInt * (x4.toInt - ((8 : Int) * x3.toInt))) * (x4.toInt - ((8 : Int) * x3.toInt))) * (x4.toInt - ((8 : Int) * x3.toInt)))) ∧ Jv = ((((((64 : Int) * (own_co x2 (1 : Int32)).toInt) + (((16 : Int) * (own_co x2 (2 : Int32)).toInt) * x4.toInt)) + ((((3 : Int) * (own_co x2 (3 : Int32)).toInt) * x4.toInt) * x4.toInt)) + (((16 : Int) * (own_co x2 (4 : Int32)).toInt) * (x4.toInt - ((8 : Int) * x3.toInt)))) + ((((3 : Int) * (own_co x2 (5 : Int32)).toInt) * (x4.toInt - ((8 : Int) * x3.toInt))) * (x4.toInt - ((8 : Int) * x3.toInt))))) :
    MetFree l (⟨"com/example/orbitloom/orbitloom/orbits/TrackAtPinLaw", "check", "([DIJJJ)Z"⟩ : MethodName) (head1 (Jvm.Cond.code (⟨"com/example/orbitloom/orbitloom/orbits/TrackAtPinLaw", "check", "([DIJJJ)Z"⟩ : MethodName) method_5_code 26 (some .boolean) :: ws) ({ frames := 1, cells := 0, slots := 0, locals := 14 } : Room)) (fun a U => a = #[(.ref x0), (.int (2 : Int32)), (.long x2), (.long x3), (.long x4)] ∧ Z.Warmed39 U.vm ∧ U.heap = h0) (fun _ _ _ _ _ => True) (fun _ U o U' => ∃ v L, o = .returned v ∧ Q10_2 Z x0 x2 x3 x4 ka vu0 vu1 vu2 vu3 vu4 vu5 Iv Jv h0 n0 v U'.heap L ∧ FrameEnd U o U' L ({ frames := 1, cells := 0, slots := 0, locals := 14 } : Room).cells ({ frames := 1, cells := 0, slots := 0, locals := 14 } : Room).slots) := by
  refine MetFree.of_bodySF (plainFor_of_name pn_10) hisR ?_
  intro p e s m args below meth c s₁ Bd hml0 hP hK
  obtain ⟨rfl, hZ, hh⟩ := hP
  have w_3 := hw _ (List.mem_of_getElem? (i := 3) rfl)
  have w_5 := hw _ (List.mem_of_getElem? (i := 5) rfl)
  have w_6 := hw _ (List.mem_of_getElem? (i := 6) rfl)
  have w_7 := hw _ (List.mem_of_getElem? (i := 7) rfl)
  have w_9 := hw _ (List.mem_of_getElem? (i := 9) rfl)
  have w_11 := hw _ (List.mem_of_getElem? (i := 11) rfl)
  have w_57 := hw _ (List.mem_of_getElem? (i := 57) rfl)
  have w_58 := hw _ (List.mem_of_getElem? (i := 58) rfl)
  have w_59 := hw _ (List.mem_of_getElem? (i := 59) rfl)
  have w_60 := hw _ (List.mem_of_getElem? (i := 60) rfl)
  have w_61 := hw _ (List.mem_of_getElem? (i := 61) rfl)
  have hx := Bd.exec
  have hby := Bd.bytes
  have hml : c.maxLocals = 26 := hml0
  have hown : s.vm.findClass "com/example/orbitloom/orbitloom/orbits/TrackAtPinLaw" = some m.cls := findClass_of_methodNamed Bd.named
  have hnm := (name_of_methodNamed Bd.named Bd.method).1
  have X0 : Stand p l e ({ frames := 1, cells := 0, slots := 0, locals := 14 } : Room) s m #[(.ref x0), (.int (2 : Int32)), (.long x2), (.long x3), (.long x4)] below meth c s₁ [] 0 0 := Stand.of_body Bd
  have e0 : s₁.heap = h0 := by rw [← hh, Bd.state]; rfl
  have N0 := Fr.nil n0
  have K0 : Keep h0 h0 [] := Keep.refl h0 _
  refine (?_ : Goes p e below s ({ frames := 1, cells := 0, slots := 0, locals := 14 } : Room).cells ({ frames := 1, cells := 0, slots := 0, locals := 14 } : Room).slots (fun v h L => Q10_2 Z x0 x2 x3 x4 ka vu0 vu1 vu2 vu3 vu4 vu5 Iv Jv h0 n0 v h L) (s₁.setTop (entryFrame m #[(.ref x0), (.int (2 : Int32)), (.long x2), (.long x3), (.long x4)] 26)))
  rw [ef_10_2 m x0 x2 x3 x4 ka vu0 vu1 vu2 vu3 vu4 vu5 Iv Jv ]
  show Goes _ _ _ _ _ _ _ (s₁.setTop (mkF m 0 #[.val (.ref x0), .val (.int (2 : Int32)), .val (.long x2), nS, .val (.long x3), nS, .val (.long x4), nS, nU, nU, nU, nU, nU, nU, nU, nU, nU, nU, nU, nU, nU, nU, nU, nU, nU, nU] []))
  refine G1 (fun _ k => XS.lloadN X0.here hx rfl (hb hby d10_0) rfl  k) ?_
  refine G1 (fun _ k => XS.iconst X0.here hx rfl (hb hby d10_1) k) ?_
  obtain ⟨_, _, ⟨T1, L1, k1, n1⟩, -, X1, ⟨Lc1, hQ1, l1, y1, z1⟩, st1⟩ := Jvm.LawKit.callS X0 hx (y := (⟨"com/example/orbitloom/orbitloom/orbits/TrackAtPinLaw", "co", "(JI)J"⟩ : MethodName)) hown (mvT hZ w_5) (mvT hZ w_6) (mvT hZ w_3) (mvT hZ w_7) (by decide) (backOf (W := 0) (rm2 l Z a0 hw [] x2 (0 : Int32) h0 n0 Z0) hZ w_7 w_3 (by decide) (by decide)) (g := (mkF m 2 #[.val (.ref x0), .val (.int (2 : Int32)), .val (.long x2), nS, .val (.long x3), nS, .val (.long x4), nS, nU, nU, nU, nU, nU, nU, nU, nU, nU, nU, nU, nU, nU, nU, nU, nU, nU, nU] [(.int (0 : Int32)), (.long x2)])) rfl (by rw [hml]; rfl) (argsL := [(.long x2), (.int (0 : Int32))]) (rest := []) (lenOf pd_1 rfl) rfl (by show 2 * 0 + _ ≤ _; exact Nat.le_of_eq rfl) (hb hby d10_2) (fun _ _ => ⟨rfl, e0, (by decide : 0 + 0 ≤ _), (by decide : 0 + 0 ≤ _)⟩)
  dsimp only [Pt.U, Pt.locs, Pt.cells, Pt.slots] at X1 l1 y1 z1 st1 hQ1
  rw [l1, y1, z1] at X1
  obtain ⟨N1, eh1, hR1⟩ := hQ1
  have NA1 := Fr.app N0 N1
  obtain rfl := hR1
  refine G1 st1 ?_
  show Goes _ _ _ _ _ _ _ (T1.setTop (mkF m 5 _ [(.long (own_co x2 (0 : Int32)))]))
  refine G1 (fun _ k => XS.lstore X1.here hx rfl (hb hby d10_5) rfl (l' := #[.val (.ref x0), .val (.int (2 : Int32)), .val (.long x2), nS, .val (.long x3), nS, .val (.long x4), nS, .val (.long (own_co x2 (0 : Int32))), nS, nU, nU, nU, nU, nU, nU, nU, nU, nU, nU, nU, nU, nU, nU, nU, nU]) rfl k) ?_
  show Goes _ _ _ _ _ _ _ (T1.setTop (mkF m 7 _ []))
  refine G1 (fun _ k => XS.lloadN X1.here hx rfl (hb hby d10_7) rfl  k) ?_
  refine G1 (fun _ k => XS.iconst X1.here hx rfl (hb hby d10_8) k) ?_
  obtain ⟨_, _, ⟨T2, L2, k2, n2⟩, -, X2, ⟨Lc2, hQ2, l2, y2, z2⟩, st2⟩ := Jvm.LawKit.callS X1 hx (y := (⟨"com/example/orbitloom/orbitloom/orbits/TrackAtPinLaw", "co", "(JI)J"⟩ : MethodName)) hown (mvT hZ w_5) (mvT hZ w_6) (mvT hZ w_3) (mvT hZ w_7) (by decide) (backOf (W := 0) (rm2 l Z a0 hw [] x2 (1 : Int32) h0 n0 Z0) hZ w_7 w_3 (by decide) (by decide)) (g := (mkF m 9 #[.val (.ref x0), .val (.int (2 : Int32)), .val (.long x2), nS, .val (.long x3), nS, .val (.long x4), nS, .val (.long (own_co x2 (0 : Int32))), nS, nU, nU, nU, nU, nU, nU, nU, nU, nU, nU, nU, nU, nU, nU, nU, nU] [(.int (1 : Int32)), (.long x2)])) rfl (by rw [hml]; rfl) (argsL := [(.long x2), (.int (1 : Int32))]) (rest := []) (lenOf pd_1 rfl) rfl (by show 2 * 0 + _ ≤ _; exact Nat.le_of_eq rfl) (hb hby d10_9) (fun _ _ => ⟨rfl, eh1, (by decide : 0 + 0 ≤ _), (by decide : 0 + 0 ≤ _)⟩)
  dsimp only [Pt.U, Pt.locs, Pt.cells, Pt.slots] at X2 l2 y2 z2 st2 hQ2
  rw [l2, y2, z2] at X2
  obtain ⟨N2, eh2, hR2⟩ := hQ2
  have NA2 := Fr.app NA1 N2
  obtain rfl := hR2
  refine G1 st2 ?_
  show Goes _ _ _ _ _ _ _ (T2.setTop (mkF m 12 _ [(.long (own_co x2 (1 : Int32)))]))
  refine G1 (fun _ k => XS.lstore X2.here hx rfl (hb hby d10_12) rfl (l' := #[.val (.ref x0), .val (.int (2 : Int32)), .val (.long x2), nS, .val (.long x3), nS, .val (.long x4), nS, .val (.long (own_co x2 (0 : Int32))), nS, .val (.long (own_co x2 (1 : Int32))), nS, nU, nU, nU, nU, nU, nU, nU, nU, nU, nU, nU, nU, nU, nU]) rfl k) ?_
  show Goes _ _ _ _ _ _ _ (T2.setTop (mkF m 14 _ []))
  refine G1 (fun _ k => XS.lloadN X2.here hx rfl (hb hby d10_14) rfl  k) ?_
  refine G1 (fun _ k => XS.iconst X2.here hx rfl (hb hby d10_15) k) ?_
  obtain ⟨_, _, ⟨T3, L3, k3, n3⟩, -, X3, ⟨Lc3, hQ3, l3, y3, z3⟩, st3⟩ := Jvm.LawKit.callS X2 hx (y := (⟨"com/example/orbitloom/orbitloom/orbits/TrackAtPinLaw", "co", "(JI)J"⟩ : MethodName)) hown (mvT hZ w_5) (mvT hZ w_6) (mvT hZ w_3) (mvT hZ w_7) (by decide) (backOf (W := 0) (rm2 l Z a0 hw [] x2 (2 : Int32) h0 n0 Z0) hZ w_7 w_3 (by decide) (by decide)) (g := (mkF m 16 #[.val (.ref x0), .val (.int (2 : Int32)), .val (.long x2), nS, .val (.long x3), nS, .val (.long x4), nS, .val (.long (own_co x2 (0 : Int32))), nS, .val (.long (own_co x2 (1 : Int32))), nS, nU, nU, nU, nU, nU, nU, nU, nU, nU, nU, nU, nU, nU, nU] [(.int (2 : Int32)), (.long x2)])) rfl (by rw [hml]; rfl) (argsL := [(.long x2), (.int (2 : Int32))]) (rest := []) (lenOf pd_1 rfl) rfl (by show 2 * 0 + _ ≤ _; exact Nat.le_of_eq rfl) (hb hby d10_16) (fun _ _ => ⟨rfl, eh2, (by decide : 0 + 0 ≤ _), (by decide : 0 + 0 ≤ _)⟩)
  dsimp only [Pt.U, Pt.locs, Pt.cells, Pt.slots] at X3 l3 y3 z3 st3 hQ3
  rw [l3, y3, z3] at X3
  obtain ⟨N3, eh3, hR3⟩ := hQ3
  have NA3 := Fr.app NA2 N3
  obtain rfl := hR3
  refine G1 st3 ?_
  show Goes _ _ _ _ _ _ _ (T3.setTop (mkF m 19 _ [(.long (own_co x2 (2 : Int32)))]))
  refine G1 (fun _ k => XS.lstore X3.here hx rfl (hb hby d10_19) rfl (l' := #[.val (.ref x0), .val (.int (2 : Int32)), .val (.long x2), nS, .val (.long x3), nS, .val (.long x4), nS, .val (.long (own_co x2 (0 : Int32))), nS, .val (.long (own_co x2 (1 : Int32))), nS, .val (.long (own_co x2 (2 : Int32))), nS, nU, nU, nU, nU, nU, nU, nU, nU, nU, nU, nU, nU]) rfl k) ?_
  show Goes _ _ _ _ _ _ _ (T3.setTop (mkF m 21 _ []))
  refine G1 (fun _ k => XS.lloadN X3.here hx rfl (hb hby d10_21) rfl  k) ?_
  refine G1 (fun _ k => XS.iconst X3.here hx rfl (hb hby d10_22) k) ?_
  obtain ⟨_, _, ⟨T4, L4, k4, n4⟩, -, X4, ⟨Lc4, hQ4, l4, y4, z4⟩, st4⟩ := Jvm.LawKit.callS X3 hx (y := (⟨"com/example/orbitloom/orbitloom/orbits/TrackAtPinLaw", "co", "(JI)J"⟩ : MethodName)) hown (mvT hZ w_5) (mvT hZ w_6) (mvT hZ w_3) (mvT hZ w_7) (by decide) (backOf (W := 0) (rm2 l Z a0 hw [] x2 (3 : Int32) h0 n0 Z0) hZ w_7 w_3 (by decide) (by decide)) (g := (mkF m 23 #[.val (.ref x0), .val (.int (2 : Int32)), .val (.long x2), nS, .val (.long x3), nS, .val (.long x4), nS, .val (.long (own_co x2 (0 : Int32))), nS, .val (.long (own_co x2 (1 : Int32))), nS, .val (.long (own_co x2 (2 : Int32))), nS, nU, nU, nU, nU, nU, nU, nU, nU, nU, nU, nU, nU] [(.int (3 : Int32)), (.long x2)])) rfl (by rw [hml]; rfl) (argsL := [(.long x2), (.int (3 : Int32))]) (rest := []) (lenOf pd_1 rfl) rfl (by show 2 * 0 + _ ≤ _; exact Nat.le_of_eq rfl) (hb hby d10_23) (fun _ _ => ⟨rfl, eh3, (by decide : 0 + 0 ≤ _), (by decide : 0 + 0 ≤ _)⟩)
  dsimp only [Pt.U, Pt.locs, Pt.cells, Pt.slots] at X4 l4 y4 z4 st4 hQ4
  rw [l4, y4, z4] at X4
  obtain ⟨N4, eh4, hR4⟩ := hQ4
  have NA4 := Fr.app NA3 N4
  obtain rfl := hR4
  refine G1 st4 ?_
  show Goes _ _ _ _ _ _ _ (T4.setTop (mkF m 26 #[.val (.ref x0), .val (.int (2 : Int32)), .val (.long x2), nS, .val (.long x3), nS, .val (.long x4), nS, .val (.long (own_co x2 (0 : Int32))), nS, .val (.long (own_co x2 (1 : Int32))), nS, .val (.long (own_co x2 (2 : Int32))), nS, nU, nU, nU, nU, nU, nU, nU, nU, nU, nU, nU, nU] [(.long (own_co x2 (3 : Int32)))]))
  refine G1 (fun _ k => XS.lstore X4.here hx rfl (hb hby d10_26) rfl (l' := #[.val (.ref x0), .val (.int (2 : Int32)), .val (.long x2), nS, .val (.long x3), nS, .val (.long x4), nS, .val (.long (own_co x2 (0 : Int32))), nS, .val (.long (own_co x2 (1 : Int32))), nS, .val (.long (own_co x2 (2 : Int32))), nS, .val (.long (own_co x2 (3 : Int32))), nS, nU, nU, nU, nU, nU, nU, nU, nU, nU, nU]) rfl k) ?_
  show Goes _ _ _ _ _ _ _ (T4.setTop (mkF m 28 _ []))
  refine G1 (fun _ k => XS.lloadN X4.here hx rfl (hb hby d10_28) rfl  k) ?_
  refine G1 (fun _ k => XS.iconst X4.here hx rfl (hb hby d10_29) k) ?_
  obtain ⟨_, _, ⟨T5, L5, k5, n5⟩, -, X5, ⟨Lc5, hQ5, l5, y5, z5⟩, st5⟩ := Jvm.LawKit.callS X4 hx (y := (⟨"com/example/orbitloom/orbitloom/orbits/TrackAtPinLaw", "co", "(JI)J"⟩ : MethodName)) hown (mvT hZ w_5) (mvT hZ w_6) (mvT hZ w_3) (mvT hZ w_7) (by decide) (backOf (W := 0) (rm2 l Z a0 hw [] x2 (4 : Int32) h0 n0 Z0) hZ w_7 w_3 (by decide) (by decide)) (g := (mkF m 30 #[.val (.ref x0), .val (.int (2 : Int32)), .val (.long x2), nS, .val (.long x3), nS, .val (.long x4), nS, .val (.long (own_co x2 (0 : Int32))), nS, .val (.long (own_co x2 (1 : Int32))), nS, .val (.long (own_co x2 (2 : Int32))), nS, .val (.long (own_co x2 (3 : Int32))), nS, nU, nU, nU, nU, nU, nU, nU, nU, nU, nU] [(.int (4 : Int32)), (.long x2)])) rfl (by rw [hml]; rfl) (argsL := [(.long x2), (.int (4 : Int32))]) (rest := []) (lenOf pd_1 rfl) rfl (by show 2 * 0 + _ ≤ _; exact Nat.le_of_eq rfl) (hb hby d10_30) (fun _ _ => ⟨rfl, eh4, (by decide : 0 + 0 ≤ _), (by decide : 0 + 0 ≤ _)⟩)
  dsimp only [Pt.U, Pt.locs, Pt.cells, Pt.slots] at X5 l5 y5 z5 st5 hQ5
  rw [l5, y5, z5] at X5
  obtain ⟨N5, eh5, hR5⟩ := hQ5
  have NA5 := Fr.app NA4 N5
  obtain rfl := hR5
  refine G1 st5 ?_
  show Goes _ _ _ _ _ _ _ (T5.setTop (mkF m 33 _ [(.long (own_co x2 (4 : Int32)))]))
  refine G1 (fun _ k => XS.lstore X5.here hx rfl (hb hby d10_33) rfl (l' := #[.val (.ref x0), .val (.int (2 : Int32)), .val (.long x2), nS, .val (.long x3), nS, .val (.long x4), nS, .val (.long (own_co x2 (0 : Int32))), nS, .val (.long (own_co x2 (1 : Int32))), nS, .val (.long (own_co x2 (2 : Int32))), nS, .val (.long (own_co x2 (3 : Int32))), nS, .val (.long (own_co x2 (4 : Int32))), nS, nU, nU, nU, nU, nU, nU, nU, nU]) rfl k) ?_
  show Goes _ _ _ _ _ _ _ (T5.setTop (mkF m 35 _ []))
  refine G1 (fun _ k => XS.lloadN X5.here hx rfl (hb hby d10_35) rfl  k) ?_
  refine G1 (fun _ k => XS.iconst X5.here hx rfl (hb hby d10_36) k) ?_
  obtain ⟨_, _, ⟨T6, L6, k6, n6⟩, -, X6, ⟨Lc6, hQ6, l6, y6, z6⟩, st6⟩ := Jvm.LawKit.callS X5 hx (y := (⟨"com/example/orbitloom/orbitloom/orbits/TrackAtPinLaw", "co", "(JI)J"⟩ : MethodName)) hown (mvT hZ w_5) (mvT hZ w_6) (mvT hZ w_3) (mvT hZ w_7) (by decide) (backOf (W := 0) (rm2 l Z a0 hw [] x2 (5 : Int32) h0 n0 Z0) hZ w_7 w_3 (by decide) (by decide)) (g := (mkF m 37 #[.val (.ref x0), .val (.int (2 : Int32)), .val (.long x2), nS, .val (.long x3), nS, .val (.long x4), nS, .val (.long (own_co x2 (0 : Int32))), nS, .val (.long (own_co x2 (1 : Int32))), nS, .val (.long (own_co x2 (2 : Int32))), nS, .val (.long (own_co x2 (3 : Int32))), nS, .val (.long (own_co x2 (4 : Int32))), nS, nU, nU, nU, nU, nU, nU, nU, nU] [(.int (5 : Int32)), (.long x2)])) rfl (by rw [hml]; rfl) (argsL := [(.long x2), (.int (5 : Int32))]) (rest := []) (lenOf pd_1 rfl) rfl (by show 2 * 0 + _ ≤ _; exact Nat.le_of_eq rfl) (hb hby d10_37) (fun _ _ => ⟨rfl, eh5, (by decide : 0 + 0 ≤ _), (by decide : 0 + 0 ≤ _)⟩)
  dsimp only [Pt.U, Pt.locs, Pt.cells, Pt.slots] at X6 l6 y6 z6 st6 hQ6
  rw [l6, y6, z6] at X6
  obtain ⟨N6, eh6, hR6⟩ := hQ6
  have NA6 := Fr.app NA5 N6
  obtain rfl := hR6
  refine G1 st6 ?_
  show Goes _ _ _ _ _ _ _ (T6.setTop (mkF m 40 _ [(.long (own_co x2 (5 : Int32)))]))
  refine G1 (fun _ k => XS.lstore X6.here hx rfl (hb hby d10_40) rfl (l' := #[.val (.ref x0), .val (.int (2 : Int32)), .val (.long x2), nS, .val (.long x3), nS, .val (.long x4), nS, .val (.long (own_co x2 (0 : Int32))), nS, .val (.long (own_co x2 (1 : Int32))), nS, .val (.long (own_co x2 (2 : Int32))), nS, .val (.long (own_co x2 (3 : Int32))), nS, .val (.long (own_co x2 (4 : Int32))), nS, .val (.long (own_co x2 (5 : Int32))), nS, nU, nU, nU, nU, nU, nU]) rfl k) ?_
  show Goes _ _ _ _ _ _ _ (T6.setTop (mkF m 42 _ []))
  refine G1 (fun _ k => X6.ldc2Long hx hown (mvT hZ w_57) (g := (mkF m 42 #[.val (.ref x0), .val (.int (2 : Int32)), .val (.long x2), nS, .val (.long x3), nS, .val (.long x4), nS, .val (.long (own_co x2 (0 : Int32))), nS, .val (.long (own_co x2 (1 : Int32))), nS, .val (.long (own_co x2 (2 : Int32))), nS, .val (.long (own_co x2 (3 : Int32))), nS, .val (.long (own_co x2 (4 : Int32))), nS, .val (.long (own_co x2 (5 : Int32))), nS, nU, nU, nU, nU, nU, nU] [])) rfl (hb hby d10_42) _ k) ?_
  refine G1 (fun _ k => XS.lload X6.here hx rfl (hb hby d10_45) rfl  k) ?_
  refine G1 (fun _ k => XS.lmul X6.here hx rfl (hb hby d10_47) rfl k) ?_
  show Goes _ _ _ _ _ _ _ (T6.setTop (mkF m 48 _ [(.long ((512 : Int64) * (own_co x2 (0 : Int32))))]))
  refine G1 (fun _ k => X6.ldc2Long hx hown (mvT hZ w_58) (g := (mkF m 48 #[.val (.ref x0), .val (.int (2 : Int32)), .val (.long x2), nS, .val (.long x3), nS, .val (.long x4), nS, .val (.long (own_co x2 (0 : Int32))), nS, .val (.long (own_co x2 (1 : Int32))), nS, .val (.long (own_co x2 (2 : Int32))), nS, .val (.long (own_co x2 (3 : Int32))), nS, .val (.long (own_co x2 (4 : Int32))), nS, .val (.long (own_co x2 (5 : Int32))), nS, nU, nU, nU, nU, nU, nU] [(.long ((512 : Int64) * (own_co x2 (0 : Int32))))])) rfl (hb hby d10_48) _ k) ?_
  refine G1 (fun _ k => XS.lload X6.here hx rfl (hb hby d10_51) rfl  k) ?_
  refine G1 (fun _ k => XS.lmul X6.here hx rfl (hb hby d10_53) rfl k) ?_
  show Goes _ _ _ _ _ _ _ (T6.setTop (mkF m 54 #[.val (.ref x0), .val (.int (2 : Int32)), .val (.long x2), nS, .val (.long x3), nS, .val (.long x4), nS, .val (.long (own_co x2 (0 : Int32))), nS, .val (.long (own_co x2 (1 : Int32))), nS, .val (.long (own_co x2 (2 : Int32))), nS, .val (.long (own_co x2 (3 : Int32))), nS, .val (.long (own_co x2 (4 : Int32))), nS, .val (.long (own_co x2 (5 : Int32))), nS, nU, nU, nU, nU, nU, nU] [(.long ((64 : Int64) * (own_co x2 (1 : Int32)))), (.long ((512 : Int64) * (own_co x2 (0 : Int32))))]))
  refine G1 (fun _ k => XS.lload X6.here hx rfl (hb hby d10_54) rfl  k) ?_
  refine G1 (fun _ k => XS.lmul X6.here hx rfl (hb hby d10_56) rfl k) ?_
  show Goes _ _ _ _ _ _ _ (T6.setTop (mkF m 57 _ [(.long (((64 : Int64) * (own_co x2 (1 : Int32))) * x4)), (.long ((512 : Int64) * (own_co x2 (0 : Int32))))]))
  refine G1 (fun _ k => XS.ladd X6.here hx rfl (hb hby d10_57) rfl k) ?_
  show Goes _ _ _ _ _ _ _ (T6.setTop (mkF m 58 _ [(.long (((512 : Int64) * (own_co x2 (0 : Int32))) + (((64 : Int64) * (own_co x2 (1 : Int32))) * x4)))]))
  refine G1 (fun _ k => X6.ldc2Long hx hown (mvT hZ w_11) (g := (mkF m 58 #[.val (.ref x0), .val (.int (2 : Int32)), .val (.long x2), nS, .val (.long x3), nS, .val (.long x4), nS, .val (.long (own_co x2 (0 : Int32))), nS, .val (.long (own_co x2 (1 : Int32))), nS, .val (.long (own_co x2 (2 : Int32))), nS, .val (.long (own_co x2 (3 : Int32))), nS, .val (.long (own_co x2 (4 : Int32))), nS, .val (.long (own_co x2 (5 : Int32))), nS, nU, nU, nU, nU, nU, nU] [(.long (((512 : Int64) * (own_co x2 (0 : Int32))) + (((64 : Int64) * (own_co x2 (1 : Int32))) * x4)))])) rfl (hb hby d10_58) _ k) ?_
  refine G1 (fun _ k => XS.lload X6.here hx rfl (hb hby d10_61) rfl  k) ?_
  refine G1 (fun _ k => XS.lmul X6.here hx rfl (hb hby d10_63) rfl k) ?_
  show Goes _ _ _ _ _ _ _ (T6.setTop (mkF m 64 _ [(.long ((8 : Int64) * (own_co x2 (2 : Int32)))), (.long (((512 : Int64) * (own_co x2 (0 : Int32))) + (((64 : Int64) * (own_co x2 (1 : Int32))) * x4)))]))
  refine G1 (fun _ k => XS.lload X6.here hx rfl (hb hby d10_64) rfl  k) ?_
  refine G1 (fun _ k => XS.lmul X6.here hx rfl (hb hby d10_66) rfl k) ?_
  show Goes _ _ _ _ _ _ _ (T6.setTop (mkF m 67 _ [(.long (((8 : Int64) * (own_co x2 (2 : Int32))) * x4)), (.long (((512 : Int64) * (own_co x2 (0 : Int32))) + (((64 : Int64) * (own_co x2 (1 : Int32))) * x4)))]))
  refine G1 (fun _ k => XS.lload X6.here hx rfl (hb hby d10_67) rfl  k) ?_
  refine G1 (fun _ k => XS.lmul X6.here hx rfl (hb hby d10_69) rfl k) ?_
  show Goes _ _ _ _ _ _ _ (T6.setTop (mkF m 70 _ [(.long ((((8 : Int64) * (own_co x2 (2 : Int32))) * x4) * x4)), (.long (((512 : Int64) * (own_co x2 (0 : Int32))) + (((64 : Int64) * (own_co x2 (1 : Int32))) * x4)))]))
  refine G1 (fun _ k => XS.ladd X6.here hx rfl (hb hby d10_70) rfl k) ?_
  show Goes _ _ _ _ _ _ _ (T6.setTop (mkF m 71 _ [(.long ((((512 : Int64) * (own_co x2 (0 : Int32))) + (((64 : Int64) * (own_co x2 (1 : Int32))) * x4)) + ((((8 : Int64) * (own_co x2 (2 : Int32))) * x4) * x4)))]))
  refine G1 (fun _ k => XS.lload X6.here hx rfl (hb hby d10_71) rfl  k) ?_
  refine G1 (fun _ k => XS.lload X6.here hx rfl (hb hby d10_73) rfl  k) ?_
  refine G1 (fun _ k => XS.lmul X6.here hx rfl (hb hby d10_75) rfl k) ?_
  show Goes _ _ _ _ _ _ _ (T6.setTop (mkF m 76 #[.val (.ref x0), .val (.int (2 : Int32)), .val (.long x2), nS, .val (.long x3), nS, .val (.long x4), nS, .val (.long (own_co x2 (0 : Int32))), nS, .val (.long (own_co x2 (1 : Int32))), nS, .val (.long (own_co x2 (2 : Int32))), nS, .val (.long (own_co x2 (3 : Int32))), nS, .val (.long (own_co x2 (4 : Int32))), nS, .val (.long (own_co x2 (5 : Int32))), nS, nU, nU, nU, nU, nU, nU] [(.long ((own_co x2 (3 : Int32)) * x4)), (.long ((((512 : Int64) * (own_co x2 (0 : Int32))) + (((64 : Int64) * (own_co x2 (1 : Int32))) * x4)) + ((((8 : Int64) * (own_co x2 (2 : Int32))) * x4) * x4)))]))
  refine G1 (fun _ k => XS.lload X6.here hx rfl (hb hby d10_76) rfl  k) ?_
  refine G1 (fun _ k => XS.lmul X6.here hx rfl (hb hby d10_78) rfl k) ?_
  show Goes _ _ _ _ _ _ _ (T6.setTop (mkF m 79 _ [(.long (((own_co x2 (3 : Int32)) * x4) * x4)), (.long ((((512 : Int64) * (own_co x2 (0 : Int32))) + (((64 : Int64) * (own_co x2 (1 : Int32))) * x4)) + ((((8 : Int64) * (own_co x2 (2 : Int32))) * x4) * x4)))]))
  refine G1 (fun _ k => XS.lload X6.here hx rfl (hb hby d10_79) rfl  k) ?_
  refine G1 (fun _ k => XS.lmul X6.here hx rfl (hb hby d10_81) rfl k) ?_
  show Goes _ _ _ _ _ _ _ (T6.setTop (mkF m 82 _ [(.long ((((own_co x2 (3 : Int32)) * x4) * x4) * x4)), (.long ((((512 : Int64) * (own_co x2 (0 : Int32))) + (((64 : Int64) * (own_co x2 (1 : Int32))) * x4)) + ((((8 : Int64) * (own_co x2 (2 : Int32))) * x4) * x4)))]))
  refine G1 (fun _ k => XS.ladd X6.here hx rfl (hb hby d10_82) rfl k) ?_
  show Goes _ _ _ _ _ _ _ (T6.setTop (mkF m 83 _ [(.long (((((512 : Int64) * (own_co x2 (0 : Int32))) + (((64 : Int64) * (own_co x2 (1 : Int32))) * x4)) + ((((8 : Int64) * (own_co x2 (2 : Int32))) * x4) * x4)) + ((((own_co x2 (3 : Int32)) * x4) * x4) * x4)))]))
  refine G1 (fun _ k => XS.lstore X6.here hx rfl (hb hby d10_83) rfl (l' := #[.val (.ref x0), .val (.int (2 : Int32)), .val (.long x2), nS, .val (.long x3), nS, .val (.long x4), nS, .val (.long (own_co x2 (0 : Int32))), nS, .val (.long (own_co x2 (1 : Int32))), nS, .val (.long (own_co x2 (2 : Int32))), nS, .val (.long (own_co x2 (3 : Int32))), nS, .val (.long (own_co x2 (4 : Int32))), nS, .val (.long (own_co x2 (5 : Int32))), nS, .val (.long (((((512 : Int64) * (own_co x2 (0 : Int32))) + (((64 : Int64) * (own_co x2 (1 : Int32))) * x4)) + ((((8 : Int64) * (own_co x2 (2 : Int32))) * x4) * x4)) + ((((own_co x2 (3 : Int32)) * x4) * x4) * x4))), nS, nU, nU, nU, nU]) rfl k) ?_
  show Goes _ _ _ _ _ _ _ (T6.setTop (mkF m 85 _ []))
  show Goes _ _ _ _ _ _ _ (T6.setTop (mkF m 85 #[.val (.ref x0), .val (.int (2 : Int32)), .val (.long x2), nS, .val (.long x3), nS, .val (.long x4), nS, .val (.long (own_co x2 (0 : Int32))), nS, .val (.long (own_co x2 (1 : Int32))), nS, .val (.long (own_co x2 (2 : Int32))), nS, .val (.long (own_co x2 (3 : Int32))), nS, .val (.long (own_co x2 (4 : Int32))), nS, .val (.long (own_co x2 (5 : Int32))), nS, .val (.long (((((512 : Int64) * (own_co x2 (0 : Int32))) + (((64 : Int64) * (own_co x2 (1 : Int32))) * x4)) + ((((8 : Int64) * (own_co x2 (2 : Int32))) * x4) * x4)) + ((((own_co x2 (3 : Int32)) * x4) * x4) * x4))), nS, nU, nU, nU, nU] []))
  generalize hg_lv7 : (((((512 : Int64) * (own_co x2 (0 : Int32))) + (((64 : Int64) * (own_co x2 (1 : Int32))) * x4)) + ((((8 : Int64) * (own_co x2 (2 : Int32))) * x4) * x4)) + ((((own_co x2 (3 : Int32)) * x4) * x4) * x4)) = lv7
  show Goes _ _ _ _ _ _ _ (T6.setTop (mkF m 85 #[.val (.ref x0), .val (.int (2 : Int32)), .val (.long x2), nS, .val (.long x3), nS, .val (.long x4), nS, .val (.long (own_co x2 (0 : Int32))), nS, .val (.long (own_co x2 (1 : Int32))), nS, .val (.long (own_co x2 (2 : Int32))), nS, .val (.long (own_co x2 (3 : Int32))), nS, .val (.long (own_co x2 (4 : Int32))), nS, .val (.long (own_co x2 (5 : Int32))), nS, .val (.long lv7), nS, nU, nU, nU, nU] []))
  have Llv7 : own_L lv7 (((((512 : Int) * (own_co x2 (0 : Int32)).toInt) + (((64 : Int) * (own_co x2 (1 : Int32)).toInt) * x4.toInt)) + ((((8 : Int) * (own_co x2 (2 : Int32)).toInt) * x4.toInt) * x4.toInt)) + ((((own_co x2 (3 : Int32)).toInt * x4.toInt) * x4.toInt) * x4.toInt)) 8867020800 := hg_lv7 ▸ (own_L.add (own_L.add (own_L.add (own_L.mul (⟨by decide, by decide⟩ : own_L (512 : Int64) 512 512) (own_coL x2 (0 : Int32)) (by decide)) (own_L.mul (own_L.mul (⟨by decide, by decide⟩ : own_L (64 : Int64) 64 64) (own_coL x2 (1 : Int32)) (by decide)) ht (by decide)) (by decide)) (own_L.mul (own_L.mul (own_L.mul (⟨by decide, by decide⟩ : own_L (8 : Int64) 8 8) (own_coL x2 (2 : Int32)) (by decide)) ht (by decide)) ht (by decide)) (by decide)) (own_L.mul (own_L.mul (own_L.mul (own_coL x2 (3 : Int32)) ht (by decide)) ht (by decide)) ht (by decide)) (by decide))
  refine G1 (fun _ k => X6.ldc2Long hx hown (mvT hZ w_58) (g := (mkF m 85 #[.val (.ref x0), .val (.int (2 : Int32)), .val (.long x2), nS, .val (.long x3), nS, .val (.long x4), nS, .val (.long (own_co x2 (0 : Int32))), nS, .val (.long (own_co x2 (1 : Int32))), nS, .val (.long (own_co x2 (2 : Int32))), nS, .val (.long (own_co x2 (3 : Int32))), nS, .val (.long (own_co x2 (4 : Int32))), nS, .val (.long (own_co x2 (5 : Int32))), nS, .val (.long lv7), nS, nU, nU, nU, nU] [])) rfl (hb hby d10_85) _ k) ?_
  refine G1 (fun _ k => XS.lload X6.here hx rfl (hb hby d10_88) rfl  k) ?_
  refine G1 (fun _ k => XS.lmul X6.here hx rfl (hb hby d10_90) rfl k) ?_
  show Goes _ _ _ _ _ _ _ (T6.setTop (mkF m 91 _ [(.long ((64 : Int64) * (own_co x2 (1 : Int32))))]))
  refine G1 (fun _ k => X6.ldc2Long hx hown (mvT hZ w_59) (g := (mkF m 91 #[.val (.ref x0), .val (.int (2 : Int32)), .val (.long x2), nS, .val (.long x3), nS, .val (.long x4), nS, .val (.long (own_co x2 (0 : Int32))), nS, .val (.long (own_co x2 (1 : Int32))), nS, .val (.long (own_co x2 (2 : Int32))), nS, .val (.long (own_co x2 (3 : Int32))), nS, .val (.long (own_co x2 (4 : Int32))), nS, .val (.long (own_co x2 (5 : Int32))), nS, .val (.long lv7), nS, nU, nU, nU, nU] [(.long ((64 : Int64) * (own_co x2 (1 : Int32))))])) rfl (hb hby d10_91) _ k) ?_
  refine G1 (fun _ k => XS.lload X6.here hx rfl (hb hby d10_94) rfl  k) ?_
  refine G1 (fun _ k => XS.lmul X6.here hx rfl (hb hby d10_96) rfl k) ?_
  show Goes _ _ _ _ _ _ _ (T6.setTop (mkF m 97 _ [(.long ((16 : Int64) * (own_co x2 (2 : Int32)))), (.long ((64 : Int64) * (own_co x2 (1 : Int32))))]))
  refine G1 (fun _ k => XS.lload X6.here hx rfl (hb hby d10_97) rfl  k) ?_
  refine G1 (fun _ k => XS.lmul X6.here hx rfl (hb hby d10_99) rfl k) ?_
  show Goes _ _ _ _ _ _ _ (T6.setTop (mkF m 100 _ [(.long (((16 : Int64) * (own_co x2 (2 : Int32))) * x4)), (.long ((64 : Int64) * (own_co x2 (1 : Int32))))]))
  refine G1 (fun _ k => XS.ladd X6.here hx rfl (hb hby d10_100) rfl k) ?_
  show Goes _ _ _ _ _ _ _ (T6.setTop (mkF m 101 _ [(.long (((64 : Int64) * (own_co x2 (1 : Int32))) + (((16 : Int64) * (own_co x2 (2 : Int32))) * x4)))]))
  refine G1 (fun _ k => X6.ldc2Long hx hown (mvT hZ w_9) (g := (mkF m 101 #[.val (.ref x0), .val (.int (2 : Int32)), .val (.long x2), nS, .val (.long x3), nS, .val (.long x4), nS, .val (.long (own_co x2 (0 : Int32))), nS, .val (.long (own_co x2 (1 : Int32))), nS, .val (.long (own_co x2 (2 : Int32))), nS, .val (.long (own_co x2 (3 : Int32))), nS, .val (.long (own_co x2 (4 : Int32))), nS, .val (.long (own_co x2 (5 : Int32))), nS, .val (.long lv7), nS, nU, nU, nU, nU] [(.long (((64 : Int64) * (own_co x2 (1 : Int32))) + (((16 : Int64) * (own_co x2 (2 : Int32))) * x4)))])) rfl (hb hby d10_101) _ k) ?_
  refine G1 (fun _ k => XS.lload X6.here hx rfl (hb hby d10_104) rfl  k) ?_
  refine G1 (fun _ k => XS.lmul X6.here hx rfl (hb hby d10_106) rfl k) ?_
  show Goes _ _ _ _ _ _ _ (T6.setTop (mkF m 107 _ [(.long ((3 : Int64) * (own_co x2 (3 : Int32)))), (.long (((64 : Int64) * (own_co x2 (1 : Int32))) + (((16 : Int64) * (own_co x2 (2 : Int32))) * x4)))]))
  refine G1 (fun _ k => XS.lload X6.here hx rfl (hb hby d10_107) rfl  k) ?_
  refine G1 (fun _ k => XS.lmul X6.here hx rfl (hb hby d10_109) rfl k) ?_
  show Goes _ _ _ _ _ _ _ (T6.setTop (mkF m 110 _ [(.long (((3 : Int64) * (own_co x2 (3 : Int32))) * x4)), (.long (((64 : Int64) * (own_co x2 (1 : Int32))) + (((16 : Int64) * (own_co x2 (2 : Int32))) * x4)))]))
  refine G1 (fun _ k => XS.lload X6.here hx rfl (hb hby d10_110) rfl  k) ?_
  refine G1 (fun _ k => XS.lmul X6.here hx rfl (hb hby d10_112) rfl k) ?_
  show Goes _ _ _ _ _ _ _ (T6.setTop (mkF m 113 #[.val (.ref x0), .val (.int (2 : Int32)), .val (.long x2), nS, .val (.long x3), nS, .val (.long x4), nS, .val (.long (own_co x2 (0 : Int32))), nS, .val (.long (own_co x2 (1 : Int32))), nS, .val (.long (own_co x2 (2 : Int32))), nS, .val (.long (own_co x2 (3 : Int32))), nS, .val (.long (own_co x2 (4 : Int32))), nS, .val (.long (own_co x2 (5 : Int32))), nS, .val (.long lv7), nS, nU, nU, nU, nU] [(.long ((((3 : Int64) * (own_co x2 (3 : Int32))) * x4) * x4)), (.long (((64 : Int64) * (own_co x2 (1 : Int32))) + (((16 : Int64) * (own_co x2 (2 : Int32))) * x4)))]))
  refine G1 (fun _ k => XS.ladd X6.here hx rfl (hb hby d10_113) rfl k) ?_
  show Goes _ _ _ _ _ _ _ (T6.setTop (mkF m 114 _ [(.long ((((64 : Int64) * (own_co x2 (1 : Int32))) + (((16 : Int64) * (own_co x2 (2 : Int32))) * x4)) + ((((3 : Int64) * (own_co x2 (3 : Int32))) * x4) * x4)))]))
  refine G1 (fun _ k => XS.lstore X6.here hx rfl (hb hby d10_114) rfl (l' := #[.val (.ref x0), .val (.int (2 : Int32)), .val (.long x2), nS, .val (.long x3), nS, .val (.long x4), nS, .val (.long (own_co x2 (0 : Int32))), nS, .val (.long (own_co x2 (1 : Int32))), nS, .val (.long (own_co x2 (2 : Int32))), nS, .val (.long (own_co x2 (3 : Int32))), nS, .val (.long (own_co x2 (4 : Int32))), nS, .val (.long (own_co x2 (5 : Int32))), nS, .val (.long lv7), nS, .val (.long ((((64 : Int64) * (own_co x2 (1 : Int32))) + (((16 : Int64) * (own_co x2 (2 : Int32))) * x4)) + ((((3 : Int64) * (own_co x2 (3 : Int32))) * x4) * x4))), nS, nU, nU]) rfl k) ?_
  show Goes _ _ _ _ _ _ _ (T6.setTop (mkF m 116 _ []))
  show Goes _ _ _ _ _ _ _ (T6.setTop (mkF m 116 #[.val (.ref x0), .val (.int (2 : Int32)), .val (.long x2), nS, .val (.long x3), nS, .val (.long x4), nS, .val (.long (own_co x2 (0 : Int32))), nS, .val (.long (own_co x2 (1 : Int32))), nS, .val (.long (own_co x2 (2 : Int32))), nS, .val (.long (own_co x2 (3 : Int32))), nS, .val (.long (own_co x2 (4 : Int32))), nS, .val (.long (own_co x2 (5 : Int32))), nS, .val (.long lv7), nS, .val (.long ((((64 : Int64) * (own_co x2 (1 : Int32))) + (((16 : Int64) * (own_co x2 (2 : Int32))) * x4)) + ((((3 : Int64) * (own_co x2 (3 : Int32))) * x4) * x4))), nS, nU, nU] []))
  generalize hg_lv8 : ((((64 : Int64) * (own_co x2 (1 : Int32))) + (((16 : Int64) * (own_co x2 (2 : Int32))) * x4)) + ((((3 : Int64) * (own_co x2 (3 : Int32))) * x4) * x4)) = lv8
  show Goes _ _ _ _ _ _ _ (T6.setTop (mkF m 116 #[.val (.ref x0), .val (.int (2 : Int32)), .val (.long x2), nS, .val (.long x3), nS, .val (.long x4), nS, .val (.long (own_co x2 (0 : Int32))), nS, .val (.long (own_co x2 (1 : Int32))), nS, .val (.long (own_co x2 (2 : Int32))), nS, .val (.long (own_co x2 (3 : Int32))), nS, .val (.long (own_co x2 (4 : Int32))), nS, .val (.long (own_co x2 (5 : Int32))), nS, .val (.long lv7), nS, .val (.long lv8), nS, nU, nU] []))
  have Llv8 : own_L lv8 ((((64 : Int) * (own_co x2 (1 : Int32)).toInt) + (((16 : Int) * (own_co x2 (2 : Int32)).toInt) * x4.toInt)) + ((((3 : Int) * (own_co x2 (3 : Int32)).toInt) * x4.toInt) * x4.toInt)) 102793216 := hg_lv8 ▸ (own_L.add (own_L.add (own_L.mul (⟨by decide, by decide⟩ : own_L (64 : Int64) 64 64) (own_coL x2 (1 : Int32)) (by decide)) (own_L.mul (own_L.mul (⟨by decide, by decide⟩ : own_L (16 : Int64) 16 16) (own_coL x2 (2 : Int32)) (by decide)) ht (by decide)) (by decide)) (own_L.mul (own_L.mul (own_L.mul (⟨by decide, by decide⟩ : own_L (3 : Int64) 3 3) (own_coL x2 (3 : Int32)) (by decide)) ht (by decide)) ht (by decide)) (by decide))
  refine G1 (fun _ k => XS.lload X6.here hx rfl (hb hby d10_116) rfl  k) ?_
  refine G1 (fun _ k => X6.ldc2Long hx hown (mvT hZ w_11) (g := (mkF m 118 #[.val (.ref x0), .val (.int (2 : Int32)), .val (.long x2), nS, .val (.long x3), nS, .val (.long x4), nS, .val (.long (own_co x2 (0 : Int32))), nS, .val (.long (own_co x2 (1 : Int32))), nS, .val (.long (own_co x2 (2 : Int32))), nS, .val (.long (own_co x2 (3 : Int32))), nS, .val (.long (own_co x2 (4 : Int32))), nS, .val (.long (own_co x2 (5 : Int32))), nS, .val (.long lv7), nS, .val (.long lv8), nS, nU, nU] [(.long x4)])) rfl (hb hby d10_118) _ k) ?_
  refine G1 (fun _ k => XS.lload X6.here hx rfl (hb hby d10_121) rfl  k) ?_
  refine G1 (fun _ k => XS.lmul X6.here hx rfl (hb hby d10_123) rfl k) ?_
  show Goes _ _ _ _ _ _ _ (T6.setTop (mkF m 124 _ [(.long ((8 : Int64) * x3)), (.long x4)]))
  refine G1 (fun _ k => XS.lcmp X6.here hx rfl (hb hby d10_124) rfl k) ?_
  show Goes _ _ _ _ _ _ _ (T6.setTop (mkF m 125 _ [(.int (lcmpW x4 ((8 : Int64) * x3)))]))
  by_cases c125_9 : ((8 : Int64) * x3) < x4
  · refine G1 (fun _ k => XS.ifNo X6.here hx rfl (hb hby d10_125) rfl ((if0 _ _).trans (tlt ((lw_gt _ _).mpr c125_9)).2.2.2) k) ?_
    show Goes _ _ _ _ _ _ _ (T6.setTop (mkF m 128 _ []))
    refine G1 (fun _ k => XS.lload X6.here hx rfl (hb hby d10_128) rfl  k) ?_
    refine G1 (fun _ k => X6.ldc2Long hx hown (mvT hZ w_11) (g := (mkF m 130 #[.val (.ref x0), .val (.int (2 : Int32)), .val (.long x2), nS, .val (.long x3), nS, .val (.long x4), nS, .val (.long (own_co x2 (0 : Int32))), nS, .val (.long (own_co x2 (1 : Int32))), nS, .val (.long (own_co x2 (2 : Int32))), nS, .val (.long (own_co x2 (3 : Int32))), nS, .val (.long (own_co x2 (4 : Int32))), nS, .val (.long (own_co x2 (5 : Int32))), nS, .val (.long lv7), nS, .val (.long lv8), nS, nU, nU] [(.long x4)])) rfl (hb hby d10_130) _ k) ?_
    refine G1 (fun _ k => XS.lload X6.here hx rfl (hb hby d10_133) rfl  k) ?_
    refine G1 (fun _ k => XS.lmul X6.here hx rfl (hb hby d10_135) rfl k) ?_
    show Goes _ _ _ _ _ _ _ (T6.setTop (mkF m 136 _ [(.long ((8 : Int64) * x3)), (.long x4)]))
    refine G1 (fun _ k => XS.lsub X6.here hx rfl (hb hby d10_136) rfl k) ?_
    show Goes _ _ _ _ _ _ _ (T6.setTop (mkF m 137 _ [(.long (x4 - ((8 : Int64) * x3)))]))
    refine G1 (fun _ k => XS.lstore X6.here hx rfl (hb hby d10_137) rfl (l' := #[.val (.ref x0), .val (.int (2 : Int32)), .val (.long x2), nS, .val (.long x3), nS, .val (.long x4), nS, .val (.long (own_co x2 (0 : Int32))), nS, .val (.long (own_co x2 (1 : Int32))), nS, .val (.long (own_co x2 (2 : Int32))), nS, .val (.long (own_co x2 (3 : Int32))), nS, .val (.long (own_co x2 (4 : Int32))), nS, .val (.long (own_co x2 (5 : Int32))), nS, .val (.long lv7), nS, .val (.long lv8), nS, .val (.long (x4 - ((8 : Int64) * x3))), nS]) rfl k) ?_
    show Goes _ _ _ _ _ _ _ (T6.setTop (mkF m 139 _ []))
    show Goes _ _ _ _ _ _ _ (T6.setTop (mkF m 139 #[.val (.ref x0), .val (.int (2 : Int32)), .val (.long x2), nS, .val (.long x3), nS, .val (.long x4), nS, .val (.long (own_co x2 (0 : Int32))), nS, .val (.long (own_co x2 (1 : Int32))), nS, .val (.long (own_co x2 (2 : Int32))), nS, .val (.long (own_co x2 (3 : Int32))), nS, .val (.long (own_co x2 (4 : Int32))), nS, .val (.long (own_co x2 (5 : Int32))), nS, .val (.long lv7), nS, .val (.long lv8), nS, .val (.long (x4 - ((8 : Int64) * x3))), nS] []))
    generalize hg_lv10 : (x4 - ((8 : Int64) * x3)) = lv10
    show Goes _ _ _ _ _ _ _ (T6.setTop (mkF m 139 #[.val (.ref x0), .val (.int (2 : Int32)), .val (.long x2), nS, .val (.long x3), nS, .val (.long x4), nS, .val (.long (own_co x2 (0 : Int32))), nS, .val (.long (own_co x2 (1 : Int32))), nS, .val (.long (own_co x2 (2 : Int32))), nS, .val (.long (own_co x2 (3 : Int32))), nS, .val (.long (own_co x2 (4 : Int32))), nS, .val (.long (own_co x2 (5 : Int32))), nS, .val (.long lv7), nS, .val (.long lv8), nS, .val (.long lv10), nS] []))
    have Llv10 : own_L lv10 (x4.toInt - ((8 : Int) * x3.toInt)) 384 := hg_lv10 ▸ (own_L.sub ht (own_L.mul (⟨by decide, by decide⟩ : own_L (8 : Int64) 8 8) hs (by decide)) (by decide))
    refine G1 (fun _ k => XS.lload X6.here hx rfl (hb hby d10_139) rfl  k) ?_
    refine G1 (fun _ k => X6.ldc2Long hx hown (mvT hZ w_11) (g := (mkF m 141 #[.val (.ref x0), .val (.int (2 : Int32)), .val (.long x2), nS, .val (.long x3), nS, .val (.long x4), nS, .val (.long (own_co x2 (0 : Int32))), nS, .val (.long (own_co x2 (1 : Int32))), nS, .val (.long (own_co x2 (2 : Int32))), nS, .val (.long (own_co x2 (3 : Int32))), nS, .val (.long (own_co x2 (4 : Int32))), nS, .val (.long (own_co x2 (5 : Int32))), nS, .val (.long lv7), nS, .val (.long lv8), nS, .val (.long lv10), nS] [(.long lv7)])) rfl (hb hby d10_141) _ k) ?_
    refine G1 (fun _ k => XS.lload X6.here hx rfl (hb hby d10_144) rfl  k) ?_
    refine G1 (fun _ k => XS.lmul X6.here hx rfl (hb hby d10_146) rfl k) ?_
    show Goes _ _ _ _ _ _ _ (T6.setTop (mkF m 147 _ [(.long ((8 : Int64) * (own_co x2 (4 : Int32)))), (.long lv7)]))
    refine G1 (fun _ k => XS.lload X6.here hx rfl (hb hby d10_147) rfl  k) ?_
    refine G1 (fun _ k => XS.lmul X6.here hx rfl (hb hby d10_149) rfl k) ?_
    show Goes _ _ _ _ _ _ _ (T6.setTop (mkF m 150 _ [(.long (((8 : Int64) * (own_co x2 (4 : Int32))) * lv10)), (.long lv7)]))
    refine G1 (fun _ k => XS.lload X6.here hx rfl (hb hby d10_150) rfl  k) ?_
    refine G1 (fun _ k => XS.lmul X6.here hx rfl (hb hby d10_152) rfl k) ?_
    show Goes _ _ _ _ _ _ _ (T6.setTop (mkF m 153 _ [(.long ((((8 : Int64) * (own_co x2 (4 : Int32))) * lv10) * lv10)), (.long lv7)]))
    refine G1 (fun _ k => XS.ladd X6.here hx rfl (hb hby d10_153) rfl k) ?_
    show Goes _ _ _ _ _ _ _ (T6.setTop (mkF m 154 _ [(.long (lv7 + ((((8 : Int64) * (own_co x2 (4 : Int32))) * lv10) * lv10)))]))
    refine G1 (fun _ k => XS.lload X6.here hx rfl (hb hby d10_154) rfl  k) ?_
    refine G1 (fun _ k => XS.lload X6.here hx rfl (hb hby d10_156) rfl  k) ?_
    refine G1 (fun _ k => XS.lmul X6.here hx rfl (hb hby d10_158) rfl k) ?_
    show Goes _ _ _ _ _ _ _ (T6.setTop (mkF m 159 _ [(.long ((own_co x2 (5 : Int32)) * lv10)), (.long (lv7 + ((((8 : Int64) * (own_co x2 (4 : Int32))) * lv10) * lv10)))]))
    refine G1 (fun _ k => XS.lload X6.here hx rfl (hb hby d10_159) rfl  k) ?_
    refine G1 (fun _ k => XS.lmul X6.here hx rfl (hb hby d10_161) rfl k) ?_
    show Goes _ _ _ _ _ _ _ (T6.setTop (mkF m 162 _ [(.long (((own_co x2 (5 : Int32)) * lv10) * lv10)), (.long (lv7 + ((((8 : Int64) * (own_co x2 (4 : Int32))) * lv10) * lv10)))]))
    refine G1 (fun _ k => XS.lload X6.here hx rfl (hb hby d10_162) rfl  k) ?_
    refine G1 (fun _ k => XS.lmul X6.here hx rfl (hb hby d10_164) rfl k) ?_
    show Goes _ _ _ _ _ _ _ (T6.setTop (mkF m 165 #[.val (.ref x0), .val (.int (2 : Int32)), .val (.long x2), nS, .val (.long x3), nS, .val (.long x4), nS, .val (.long (own_co x2 (0 : Int32))), nS, .val (.long (own_co x2 (1 : Int32))), nS, .val (.long (own_co x2 (2 : Int32))), nS, .val (.long (own_co x2 (3 : Int32))), nS, .val (.long (own_co x2 (4 : Int32))), nS, .val (.long (own_co x2 (5 : Int32))), nS, .val (.long lv7), nS, .val (.long lv8), nS, .val (.long lv10), nS] [(.long ((((own_co x2 (5 : Int32)) * lv10) * lv10) * lv10)), (.long (lv7 + ((((8 : Int64) * (own_co x2 (4 : Int32))) * lv10) * lv10)))]))
    refine G1 (fun _ k => XS.ladd X6.here hx rfl (hb hby d10_165) rfl k) ?_
    show Goes _ _ _ _ _ _ _ (T6.setTop (mkF m 166 _ [(.long ((lv7 + ((((8 : Int64) * (own_co x2 (4 : Int32))) * lv10) * lv10)) + ((((own_co x2 (5 : Int32)) * lv10) * lv10) * lv10)))]))
    refine G1 (fun _ k => XS.lstore X6.here hx rfl (hb hby d10_166) rfl (l' := #[.val (.ref x0), .val (.int (2 : Int32)), .val (.long x2), nS, .val (.long x3), nS, .val (.long x4), nS, .val (.long (own_co x2 (0 : Int32))), nS, .val (.long (own_co x2 (1 : Int32))), nS, .val (.long (own_co x2 (2 : Int32))), nS, .val (.long (own_co x2 (3 : Int32))), nS, .val (.long (own_co x2 (4 : Int32))), nS, .val (.long (own_co x2 (5 : Int32))), nS, .val (.long ((lv7 + ((((8 : Int64) * (own_co x2 (4 : Int32))) * lv10) * lv10)) + ((((own_co x2 (5 : Int32)) * lv10) * lv10) * lv10))), nS, .val (.long lv8), nS, .val (.long lv10), nS]) rfl k) ?_
    show Goes _ _ _ _ _ _ _ (T6.setTop (mkF m 168 _ []))
    show Goes _ _ _ _ _ _ _ (T6.setTop (mkF m 168 #[.val (.ref x0), .val (.int (2 : Int32)), .val (.long x2), nS, .val (.long x3), nS, .val (.long x4), nS, .val (.long (own_co x2 (0 : Int32))), nS, .val (.long (own_co x2 (1 : Int32))), nS, .val (.long (own_co x2 (2 : Int32))), nS, .val (.long (own_co x2 (3 : Int32))), nS, .val (.long (own_co x2 (4 : Int32))), nS, .val (.long (own_co x2 (5 : Int32))), nS, .val (.long ((lv7 + ((((8 : Int64) * (own_co x2 (4 : Int32))) * lv10) * lv10)) + ((((own_co x2 (5 : Int32)) * lv10) * lv10) * lv10))), nS, .val (.long lv8), nS, .val (.long lv10), nS] []))
    generalize hg_lv11 : ((lv7 + ((((8 : Int64) * (own_co x2 (4 : Int32))) * lv10) * lv10)) + ((((own_co x2 (5 : Int32)) * lv10) * lv10) * lv10)) = lv11
    show Goes _ _ _ _ _ _ _ (T6.setTop (mkF m 168 #[.val (.ref x0), .val (.int (2 : Int32)), .val (.long x2), nS, .val (.long x3), nS, .val (.long x4), nS, .val (.long (own_co x2 (0 : Int32))), nS, .val (.long (own_co x2 (1 : Int32))), nS, .val (.long (own_co x2 (2 : Int32))), nS, .val (.long (own_co x2 (3 : Int32))), nS, .val (.long (own_co x2 (4 : Int32))), nS, .val (.long (own_co x2 (5 : Int32))), nS, .val (.long lv11), nS, .val (.long lv8), nS, .val (.long lv10), nS] []))
    have Llv11 : own_L lv11 (((((((512 : Int) * (own_co x2 (0 : Int32)).toInt) + (((64 : Int) * (own_co x2 (1 : Int32)).toInt) * x4.toInt)) + ((((8 : Int) * (own_co x2 (2 : Int32)).toInt) * x4.toInt) * x4.toInt)) + ((((own_co x2 (3 : Int32)).toInt * x4.toInt) * x4.toInt) * x4.toInt)) + ((((8 : Int) * (own_co x2 (4 : Int32)).toInt) * (x4.toInt - ((8 : Int) * x3.toInt))) * (x4.toInt - ((8 : Int) * x3.toInt)))) + ((((own_co x2 (5 : Int32)).toInt * (x4.toInt - ((8 : Int) * x3.toInt))) * (x4.toInt - ((8 : Int) * x3.toInt))) * (x4.toInt - ((8 : Int) * x3.toInt)))) 38462029824 := hg_lv11 ▸ (own_L.add (own_L.add Llv7 (own_L.mul (own_L.mul (own_L.mul (⟨by decide, by decide⟩ : own_L (8 : Int64) 8 8) (own_coL x2 (4 : Int32)) (by decide)) Llv10 (by decide)) Llv10 (by decide)) (by decide)) (own_L.mul (own_L.mul (own_L.mul (own_coL x2 (5 : Int32)) Llv10 (by decide)) Llv10 (by decide)) Llv10 (by decide)) (by decide))
    refine G1 (fun _ k => XS.lload X6.here hx rfl (hb hby d10_168) rfl  k) ?_
    refine G1 (fun _ k => X6.ldc2Long hx hown (mvT hZ w_59) (g := (mkF m 170 #[.val (.ref x0), .val (.int (2 : Int32)), .val (.long x2), nS, .val (.long x3), nS, .val (.long x4), nS, .val (.long (own_co x2 (0 : Int32))), nS, .val (.long (own_co x2 (1 : Int32))), nS, .val (.long (own_co x2 (2 : Int32))), nS, .val (.long (own_co x2 (3 : Int32))), nS, .val (.long (own_co x2 (4 : Int32))), nS, .val (.long (own_co x2 (5 : Int32))), nS, .val (.long lv11), nS, .val (.long lv8), nS, .val (.long lv10), nS] [(.long lv8)])) rfl (hb hby d10_170) _ k) ?_
    refine G1 (fun _ k => XS.lload X6.here hx rfl (hb hby d10_173) rfl  k) ?_
    refine G1 (fun _ k => XS.lmul X6.here hx rfl (hb hby d10_175) rfl k) ?_
    show Goes _ _ _ _ _ _ _ (T6.setTop (mkF m 176 _ [(.long ((16 : Int64) * (own_co x2 (4 : Int32)))), (.long lv8)]))
    refine G1 (fun _ k => XS.lload X6.here hx rfl (hb hby d10_176) rfl  k) ?_
    refine G1 (fun _ k => XS.lmul X6.here hx rfl (hb hby d10_178) rfl k) ?_
    show Goes _ _ _ _ _ _ _ (T6.setTop (mkF m 179 _ [(.long (((16 : Int64) * (own_co x2 (4 : Int32))) * lv10)), (.long lv8)]))
    refine G1 (fun _ k => XS.ladd X6.here hx rfl (hb hby d10_179) rfl k) ?_
    show Goes _ _ _ _ _ _ _ (T6.setTop (mkF m 180 _ [(.long (lv8 + (((16 : Int64) * (own_co x2 (4 : Int32))) * lv10)))]))
    refine G1 (fun _ k => X6.ldc2Long hx hown (mvT hZ w_9) (g := (mkF m 180 #[.val (.ref x0), .val (.int (2 : Int32)), .val (.long x2), nS, .val (.long x3), nS, .val (.long x4), nS, .val (.long (own_co x2 (0 : Int32))), nS, .val (.long (own_co x2 (1 : Int32))), nS, .val (.long (own_co x2 (2 : Int32))), nS, .val (.long (own_co x2 (3 : Int32))), nS, .val (.long (own_co x2 (4 : Int32))), nS, .val (.long (own_co x2 (5 : Int32))), nS, .val (.long lv11), nS, .val (.long lv8), nS, .val (.long lv10), nS] [(.long (lv8 + (((16 : Int64) * (own_co x2 (4 : Int32))) * lv10)))])) rfl (hb hby d10_180) _ k) ?_
    refine G1 (fun _ k => XS.lload X6.here hx rfl (hb hby d10_183) rfl  k) ?_
    refine G1 (fun _ k => XS.lmul X6.here hx rfl (hb hby d10_185) rfl k) ?_
    show Goes _ _ _ _ _ _ _ (T6.setTop (mkF m 186 _ [(.long ((3 : Int64) * (own_co x2 (5 : Int32)))), (.long (lv8 + (((16 : Int64) * (own_co x2 (4 : Int32))) * lv10)))]))
    refine G1 (fun _ k => XS.lload X6.here hx rfl (hb hby d10_186) rfl  k) ?_
    refine G1 (fun _ k => XS.lmul X6.here hx rfl (hb hby d10_188) rfl k) ?_
    show Goes _ _ _ _ _ _ _ (T6.setTop (mkF m 189 _ [(.long (((3 : Int64) * (own_co x2 (5 : Int32))) * lv10)), (.long (lv8 + (((16 : Int64) * (own_co x2 (4 : Int32))) * lv10)))]))
    refine G1 (fun _ k => XS.lload X6.here hx rfl (hb hby d10_189) rfl  k) ?_
    refine G1 (fun _ k => XS.lmul X6.here hx rfl (hb hby d10_191) rfl k) ?_
    show Goes _ _ _ _ _ _ _ (T6.setTop (mkF m 192 _ [(.long ((((3 : Int64) * (own_co x2 (5 : Int32))) * lv10) * lv10)), (.long (lv8 + (((16 : Int64) * (own_co x2 (4 : Int32))) * lv10)))]))
    refine G1 (fun _ k => XS.ladd X6.here hx rfl (hb hby d10_192) rfl k) ?_
    show Goes _ _ _ _ _ _ _ (T6.setTop (mkF m 193 #[.val (.ref x0), .val (.int (2 : Int32)), .val (.long x2), nS, .val (.long x3), nS, .val (.long x4), nS, .val (.long (own_co x2 (0 : Int32))), nS, .val (.long (own_co x2 (1 : Int32))), nS, .val (.long (own_co x2 (2 : Int32))), nS, .val (.long (own_co x2 (3 : Int32))), nS, .val (.long (own_co x2 (4 : Int32))), nS, .val (.long (own_co x2 (5 : Int32))), nS, .val (.long lv11), nS, .val (.long lv8), nS, .val (.long lv10), nS] [(.long ((lv8 + (((16 : Int64) * (own_co x2 (4 : Int32))) * lv10)) + ((((3 : Int64) * (own_co x2 (5 : Int32))) * lv10) * lv10)))]))
    refine G1 (fun _ k => XS.lstore X6.here hx rfl (hb hby d10_193) rfl (l' := #[.val (.ref x0), .val (.int (2 : Int32)), .val (.long x2), nS, .val (.long x3), nS, .val (.long x4), nS, .val (.long (own_co x2 (0 : Int32))), nS, .val (.long (own_co x2 (1 : Int32))), nS, .val (.long (own_co x2 (2 : Int32))), nS, .val (.long (own_co x2 (3 : Int32))), nS, .val (.long (own_co x2 (4 : Int32))), nS, .val (.long (own_co x2 (5 : Int32))), nS, .val (.long lv11), nS, .val (.long ((lv8 + (((16 : Int64) * (own_co x2 (4 : Int32))) * lv10)) + ((((3 : Int64) * (own_co x2 (5 : Int32))) * lv10) * lv10))), nS, .val (.long lv10), nS]) rfl k) ?_
    show Goes _ _ _ _ _ _ _ (T6.setTop (mkF m 195 _ []))
    show Goes _ _ _ _ _ _ _ (T6.setTop (mkF m 195 #[.val (.ref x0), .val (.int (2 : Int32)), .val (.long x2), nS, .val (.long x3), nS, .val (.long x4), nS, .val (.long (own_co x2 (0 : Int32))), nS, .val (.long (own_co x2 (1 : Int32))), nS, .val (.long (own_co x2 (2 : Int32))), nS, .val (.long (own_co x2 (3 : Int32))), nS, .val (.long (own_co x2 (4 : Int32))), nS, .val (.long (own_co x2 (5 : Int32))), nS, .val (.long lv11), nS, .val (.long ((lv8 + (((16 : Int64) * (own_co x2 (4 : Int32))) * lv10)) + ((((3 : Int64) * (own_co x2 (5 : Int32))) * lv10) * lv10))), nS, .val (.long lv10), nS] []))
    generalize hg_lv12 : ((lv8 + (((16 : Int64) * (own_co x2 (4 : Int32))) * lv10)) + ((((3 : Int64) * (own_co x2 (5 : Int32))) * lv10) * lv10)) = lv12
    show Goes _ _ _ _ _ _ _ (T6.setTop (mkF m 195 #[.val (.ref x0), .val (.int (2 : Int32)), .val (.long x2), nS, .val (.long x3), nS, .val (.long x4), nS, .val (.long (own_co x2 (0 : Int32))), nS, .val (.long (own_co x2 (1 : Int32))), nS, .val (.long (own_co x2 (2 : Int32))), nS, .val (.long (own_co x2 (3 : Int32))), nS, .val (.long (own_co x2 (4 : Int32))), nS, .val (.long (own_co x2 (5 : Int32))), nS, .val (.long lv11), nS, .val (.long lv12), nS, .val (.long lv10), nS] []))
    have Llv12 : own_L lv12 ((((((64 : Int) * (own_co x2 (1 : Int32)).toInt) + (((16 : Int) * (own_co x2 (2 : Int32)).toInt) * x4.toInt)) + ((((3 : Int) * (own_co x2 (3 : Int32)).toInt) * x4.toInt) * x4.toInt)) + (((16 : Int) * (own_co x2 (4 : Int32)).toInt) * (x4.toInt - ((8 : Int) * x3.toInt)))) + ((((3 : Int) * (own_co x2 (5 : Int32)).toInt) * (x4.toInt - ((8 : Int) * x3.toInt))) * (x4.toInt - ((8 : Int) * x3.toInt)))) 332431360 := hg_lv12 ▸ (own_L.add (own_L.add Llv8 (own_L.mul (own_L.mul (⟨by decide, by decide⟩ : own_L (16 : Int64) 16 16) (own_coL x2 (4 : Int32)) (by decide)) Llv10 (by decide)) (by decide)) (own_L.mul (own_L.mul (own_L.mul (⟨by decide, by decide⟩ : own_L (3 : Int64) 3 3) (own_coL x2 (5 : Int32)) (by decide)) Llv10 (by decide)) Llv10 (by decide)) (by decide))
    refine G1 (fun _ k => XS.aloadN X6.here hx rfl (hb hby d10_195) rfl rfl k) ?_
    refine G1 (fun _ k => XS.iloadN X6.here hx rfl (hb hby d10_196) rfl  k) ?_
    obtain ⟨cl13, Ar13, q13, S13, P13, H13, G13⟩ := id V_x0
    have hin13 : ¬ ((2 : Int32) < 0 ∨ cl13.slots.size ≤ ((2 : Int32)).toNatClampNeg) := inb_of S13 ⟨by decide, by decide⟩
    have hat13 : cl13.slots[((2 : Int32)).toNatClampNeg]? = some (.double vu2) := H13 _ (by rw [S13]; decide)
    refine G1 (fun _ k => X6.daload hx (j := (2 : Int32)) (v := (.double vu2)) (by rw [eh6]; exact Ar13.1) (State.isArrayOf_alike hZ.alike Ar13.2.1) Ar13.2.2 hin13 hat13 (g := (mkF m 197 #[.val (.ref x0), .val (.int (2 : Int32)), .val (.long x2), nS, .val (.long x3), nS, .val (.long x4), nS, .val (.long (own_co x2 (0 : Int32))), nS, .val (.long (own_co x2 (1 : Int32))), nS, .val (.long (own_co x2 (2 : Int32))), nS, .val (.long (own_co x2 (3 : Int32))), nS, .val (.long (own_co x2 (4 : Int32))), nS, .val (.long (own_co x2 (5 : Int32))), nS, .val (.long lv11), nS, .val (.long lv12), nS, .val (.long lv10), nS] [(.int (2 : Int32)), (.ref x0)])) rfl rfl (hb hby d10_197) _ k) ?_
    show Goes _ _ _ _ _ _ _ (T6.setTop (mkF m 198 _ [(.double vu2)]))
    refine G1 (fun _ k => X6.ldc2DoubleC hx hown (mvT hZ w_60) (g := (mkF m 198 #[.val (.ref x0), .val (.int (2 : Int32)), .val (.long x2), nS, .val (.long x3), nS, .val (.long x4), nS, .val (.long (own_co x2 (0 : Int32))), nS, .val (.long (own_co x2 (1 : Int32))), nS, .val (.long (own_co x2 (2 : Int32))), nS, .val (.long (own_co x2 (3 : Int32))), nS, .val (.long (own_co x2 (4 : Int32))), nS, .val (.long (own_co x2 (5 : Int32))), nS, .val (.long lv11), nS, .val (.long lv12), nS, .val (.long lv10), nS] [(.double vu2)])) rfl (hb hby d10_198) _ k) ?_
    show Goes _ _ _ _ _ _ _ (T6.setTop (mkF m 201 _ [(.double (4647714815446351872 : UInt64)), (.double vu2)]))
    obtain ⟨d14, hd14⟩ : ∃ z, FP.dmul vu2 (4647714815446351872 : UInt64) = z := ⟨_, rfl⟩
    have fr14 : OwnF.Fr 9 (Iv * (512 : Int)) 765260092932096 d14 := by rw [← hd14]; exact OwnF.Fr.dmul fI own_k4647714815446351872 (by decide)
    refine G1 (fun _ k => XS.dmulS X6.here hx rfl (hb hby d10_201) rfl (by rw [hd14]; exact own_nn fr14) hd14 k) ?_
    show Goes _ _ _ _ _ _ _ (T6.setTop (mkF m 202 _ [(.double d14)]))
    refine G1 (fun _ k => XS.lload X6.here hx rfl (hb hby d10_202) rfl  k) ?_
    obtain ⟨d15, hd15⟩ : ∃ z, FP.l2d lv11 = z := ⟨_, rfl⟩
    have fr15 : OwnF.Fr 0 (((((((512 : Int) * (own_co x2 (0 : Int32)).toInt) + (((64 : Int) * (own_co x2 (1 : Int32)).toInt) * x4.toInt)) + ((((8 : Int) * (own_co x2 (2 : Int32)).toInt) * x4.toInt) * x4.toInt)) + ((((own_co x2 (3 : Int32)).toInt * x4.toInt) * x4.toInt) * x4.toInt)) + ((((8 : Int) * (own_co x2 (4 : Int32)).toInt) * (x4.toInt - ((8 : Int) * x3.toInt))) * (x4.toInt - ((8 : Int) * x3.toInt)))) + ((((own_co x2 (5 : Int32)).toInt * (x4.toInt - ((8 : Int) * x3.toInt))) * (x4.toInt - ((8 : Int) * x3.toInt))) * (x4.toInt - ((8 : Int) * x3.toInt)))) 38462029824 d15 := by rw [← hd15]; exact own_frL Llv11 (by decide)
    refine G1 (fun _ k => XS.l2dS X6.here hx rfl (hb hby d10_204) rfl hd15 k) ?_
    show Goes _ _ _ _ _ _ _ (T6.setTop (mkF m 205 _ [(.double d15), (.double d14)]))
    refine G1 (fun _ k => XS.dcmpS X6.here hx rfl (hb hby d10_205) rfl rfl k) ?_
    show Goes _ _ _ _ _ _ _ (T6.setTop (mkF m 206 _ [(.int (cmpValue (FP.dcmp d14 d15) .l))]))
    refine G1 (fun _ k => XS.ifNo X6.here hx rfl (hb hby d10_206) rfl ((if0 _ _).trans (teq (own_eq0 fr14 (OwnF.Fr.up 9 fr15) (by decide) (by rw [(h2 (by have q := Int64.lt_iff_toInt_lt.mp c125_9; rw [(own_L.mul (⟨by decide, by decide⟩ : own_L (8 : Int64) 8 8) hs (by decide)).1] at q; exact q)).1]; rfl) .l)).2) k) ?_
    show Goes _ _ _ _ _ _ _ (T6.setTop (mkF m 209 _ []))
    refine G1 (fun _ k => XS.aloadN X6.here hx rfl (hb hby d10_209) rfl rfl k) ?_
    refine G1 (fun _ k => XS.iconst X6.here hx rfl (hb hby d10_210) k) ?_
    refine G1 (fun _ k => XS.iloadN X6.here hx rfl (hb hby d10_211) rfl  k) ?_
    refine G1 (fun _ k => XS.iadd X6.here hx rfl (hb hby d10_212) rfl k) ?_
    show Goes _ _ _ _ _ _ _ (T6.setTop (mkF m 213 #[.val (.ref x0), .val (.int (2 : Int32)), .val (.long x2), nS, .val (.long x3), nS, .val (.long x4), nS, .val (.long (own_co x2 (0 : Int32))), nS, .val (.long (own_co x2 (1 : Int32))), nS, .val (.long (own_co x2 (2 : Int32))), nS, .val (.long (own_co x2 (3 : Int32))), nS, .val (.long (own_co x2 (4 : Int32))), nS, .val (.long (own_co x2 (5 : Int32))), nS, .val (.long lv11), nS, .val (.long lv12), nS, .val (.long lv10), nS] [(.int (5 : Int32)), (.ref x0)]))
    obtain ⟨cl16, Ar16, q16, S16, P16, H16, G16⟩ := id V_x0
    have hin16 : ¬ ((5 : Int32) < 0 ∨ cl16.slots.size ≤ ((5 : Int32)).toNatClampNeg) := inb_of S16 ⟨by decide, by decide⟩
    have hat16 : cl16.slots[((5 : Int32)).toNatClampNeg]? = some (.double vu5) := H16 _ (by rw [S16]; decide)
    refine G1 (fun _ k => X6.daload hx (j := (5 : Int32)) (v := (.double vu5)) (by rw [eh6]; exact Ar16.1) (State.isArrayOf_alike hZ.alike Ar16.2.1) Ar16.2.2 hin16 hat16 (g := (mkF m 213 #[.val (.ref x0), .val (.int (2 : Int32)), .val (.long x2), nS, .val (.long x3), nS, .val (.long x4), nS, .val (.long (own_co x2 (0 : Int32))), nS, .val (.long (own_co x2 (1 : Int32))), nS, .val (.long (own_co x2 (2 : Int32))), nS, .val (.long (own_co x2 (3 : Int32))), nS, .val (.long (own_co x2 (4 : Int32))), nS, .val (.long (own_co x2 (5 : Int32))), nS, .val (.long lv11), nS, .val (.long lv12), nS, .val (.long lv10), nS] [(.int (5 : Int32)), (.ref x0)])) rfl rfl (hb hby d10_213) _ k) ?_
    show Goes _ _ _ _ _ _ _ (T6.setTop (mkF m 214 _ [(.double vu5)]))
    refine G1 (fun _ k => X6.ldc2DoubleC hx hown (mvT hZ w_61) (g := (mkF m 214 #[.val (.ref x0), .val (.int (2 : Int32)), .val (.long x2), nS, .val (.long x3), nS, .val (.long x4), nS, .val (.long (own_co x2 (0 : Int32))), nS, .val (.long (own_co x2 (1 : Int32))), nS, .val (.long (own_co x2 (2 : Int32))), nS, .val (.long (own_co x2 (3 : Int32))), nS, .val (.long (own_co x2 (4 : Int32))), nS, .val (.long (own_co x2 (5 : Int32))), nS, .val (.long lv11), nS, .val (.long lv12), nS, .val (.long lv10), nS] [(.double vu5)])) rfl (hb hby d10_214) _ k) ?_
    show Goes _ _ _ _ _ _ _ (T6.setTop (mkF m 217 _ [(.double (4634204016564240384 : UInt64)), (.double vu5)]))
    obtain ⟨d17, hd17⟩ : ∃ z, FP.dmul vu5 (4634204016564240384 : UInt64) = z := ⟨_, rfl⟩
    have fr17 : OwnF.Fr 6 (Jv * (64 : Int)) 2791728742400 d17 := by rw [← hd17]; exact OwnF.Fr.dmul fJ own_k4634204016564240384 (by decide)
    refine G1 (fun _ k => XS.dmulS X6.here hx rfl (hb hby d10_217) rfl (by rw [hd17]; exact own_nn fr17) hd17 k) ?_
    show Goes _ _ _ _ _ _ _ (T6.setTop (mkF m 218 _ [(.double d17)]))
    refine G1 (fun _ k => XS.lload X6.here hx rfl (hb hby d10_218) rfl  k) ?_
    obtain ⟨d18, hd18⟩ : ∃ z, FP.l2d lv12 = z := ⟨_, rfl⟩
    have fr18 : OwnF.Fr 0 ((((((64 : Int) * (own_co x2 (1 : Int32)).toInt) + (((16 : Int) * (own_co x2 (2 : Int32)).toInt) * x4.toInt)) + ((((3 : Int) * (own_co x2 (3 : Int32)).toInt) * x4.toInt) * x4.toInt)) + (((16 : Int) * (own_co x2 (4 : Int32)).toInt) * (x4.toInt - ((8 : Int) * x3.toInt)))) + ((((3 : Int) * (own_co x2 (5 : Int32)).toInt) * (x4.toInt - ((8 : Int) * x3.toInt))) * (x4.toInt - ((8 : Int) * x3.toInt)))) 332431360 d18 := by rw [← hd18]; exact own_frL Llv12 (by decide)
    refine G1 (fun _ k => XS.l2dS X6.here hx rfl (hb hby d10_220) rfl hd18 k) ?_
    show Goes _ _ _ _ _ _ _ (T6.setTop (mkF m 221 _ [(.double d18), (.double d17)]))
    refine G1 (fun _ k => XS.dcmpS X6.here hx rfl (hb hby d10_221) rfl rfl k) ?_
    show Goes _ _ _ _ _ _ _ (T6.setTop (mkF m 222 _ [(.int (cmpValue (FP.dcmp d17 d18) .l))]))
    refine G1 (fun _ k => XS.ifNo X6.here hx rfl (hb hby d10_222) rfl ((if0 _ _).trans (teq (own_eq0 fr17 (OwnF.Fr.up 6 fr18) (by decide) (by rw [(h2 (by have q := Int64.lt_iff_toInt_lt.mp c125_9; rw [(own_L.mul (⟨by decide, by decide⟩ : own_L (8 : Int64) 8 8) hs (by decide)).1] at q; exact q)).2]; rfl) .l)).2) k) ?_
    show Goes _ _ _ _ _ _ _ (T6.setTop (mkF m 225 _ []))
    refine G1 (fun _ k => XS.iconst X6.here hx rfl (hb hby d10_225) k) ?_
    refine G1 (fun _ k => XS.goto X6.here hx rfl (pc0 := 226) (pc' := 230) rfl (hb hby d10_226) (by decide) (by decide) k) ?_
    show Goes _ _ _ _ _ _ _ (T6.setTop (mkF m 230 #[.val (.ref x0), .val (.int (2 : Int32)), .val (.long x2), nS, .val (.long x3), nS, .val (.long x4), nS, .val (.long (own_co x2 (0 : Int32))), nS, .val (.long (own_co x2 (1 : Int32))), nS, .val (.long (own_co x2 (2 : Int32))), nS, .val (.long (own_co x2 (3 : Int32))), nS, .val (.long (own_co x2 (4 : Int32))), nS, .val (.long (own_co x2 (5 : Int32))), nS, .val (.long lv11), nS, .val (.long lv12), nS, .val (.long lv10), nS] [(.int (1 : Int32))]))
    exact Goes.ret X6 hx (BodyLoose.notSynchronized Bd) Bd.returns rfl (Or.inl ⟨rfl, by simp, _, rfl⟩) (hb hby d10_230) (by show Q10_2 Z x0 x2 x3 x4 ka vu0 vu1 vu2 vu3 vu4 vu5 Iv Jv h0 n0 (some (.int (1 : Int32))) T6.heap _; rw [eh6]; exact ⟨NA6, rfl, rfl⟩) (by decide) (by decide)
  · refine G1 (fun _ k => XS.ifYes X6.here hx rfl (pc0 := 125) (pc' := 195) rfl (hb hby d10_125) rfl ((if0 _ _).trans (flt (fun q => c125_9 ((lw_gt _ _).mp q))).2.2.2) (by decide) (by decide) k) ?_
    show Goes _ _ _ _ _ _ _ (T6.setTop (mkF m 195 _ []))
    show Goes _ _ _ _ _ _ _ (T6.setTop (mkF m 195 #[.val (.ref x0), .val (.int (2 : Int32)), .val (.long x2), nS, .val (.long x3), nS, .val (.long x4), nS, .val (.long (own_co x2 (0 : Int32))), nS, .val (.long (own_co x2 (1 : Int32))), nS, .val (.long (own_co x2 (2 : Int32))), nS, .val (.long (own_co x2 (3 : Int32))), nS, .val (.long (own_co x2 (4 : Int32))), nS, .val (.long (own_co x2 (5 : Int32))), nS, .val (.long lv7), nS, .val (.long lv8), nS, nU, nU] []))
    refine G1 (fun _ k => XS.aloadN X6.here hx rfl (hb hby d10_195) rfl rfl k) ?_
    refine G1 (fun _ k => XS.iloadN X6.here hx rfl (hb hby d10_196) rfl  k) ?_
    obtain ⟨cl19, Ar19, q19, S19, P19, H19, G19⟩ := id V_x0
    have hin19 : ¬ ((2 : Int32) < 0 ∨ cl19.slots.size ≤ ((2 : Int32)).toNatClampNeg) := inb_of S19 ⟨by decide, by decide⟩
    have hat19 : cl19.slots[((2 : Int32)).toNatClampNeg]? = some (.double vu2) := H19 _ (by rw [S19]; decide)
    refine G1 (fun _ k => X6.daload hx (j := (2 : Int32)) (v := (.double vu2)) (by rw [eh6]; exact Ar19.1) (State.isArrayOf_alike hZ.alike Ar19.2.1) Ar19.2.2 hin19 hat19 (g := (mkF m 197 #[.val (.ref x0), .val (.int (2 : Int32)), .val (.long x2), nS, .val (.long x3), nS, .val (.long x4), nS, .val (.long (own_co x2 (0 : Int32))), nS, .val (.long (own_co x2 (1 : Int32))), nS, .val (.long (own_co x2 (2 : Int32))), nS, .val (.long (own_co x2 (3 : Int32))), nS, .val (.long (own_co x2 (4 : Int32))), nS, .val (.long (own_co x2 (5 : Int32))), nS, .val (.long lv7), nS, .val (.long lv8), nS, nU, nU] [(.int (2 : Int32)), (.ref x0)])) rfl rfl (hb hby d10_197) _ k) ?_
    show Goes _ _ _ _ _ _ _ (T6.setTop (mkF m 198 _ [(.double vu2)]))
    refine G1 (fun _ k => X6.ldc2DoubleC hx hown (mvT hZ w_60) (g := (mkF m 198 #[.val (.ref x0), .val (.int (2 : Int32)), .val (.long x2), nS, .val (.long x3), nS, .val (.long x4), nS, .val (.long (own_co x2 (0 : Int32))), nS, .val (.long (own_co x2 (1 : Int32))), nS, .val (.long (own_co x2 (2 : Int32))), nS, .val (.long (own_co x2 (3 : Int32))), nS, .val (.long (own_co x2 (4 : Int32))), nS, .val (.long (own_co x2 (5 : Int32))), nS, .val (.long lv7), nS, .val (.long lv8), nS, nU, nU] [(.double vu2)])) rfl (hb hby d10_198) _ k) ?_
    show Goes _ _ _ _ _ _ _ (T6.setTop (mkF m 201 _ [(.double (4647714815446351872 : UInt64)), (.double vu2)]))
    obtain ⟨d20, hd20⟩ : ∃ z, FP.dmul vu2 (4647714815446351872 : UInt64) = z := ⟨_, rfl⟩
    have fr20 : OwnF.Fr 9 (Iv * (512 : Int)) 765260092932096 d20 := by rw [← hd20]; exact OwnF.Fr.dmul fI own_k4647714815446351872 (by decide)
    refine G1 (fun _ k => XS.dmulS X6.here hx rfl (hb hby d10_201) rfl (by rw [hd20]; exact own_nn fr20) hd20 k) ?_
    show Goes _ _ _ _ _ _ _ (T6.setTop (mkF m 202 _ [(.double d20)]))
    refine G1 (fun _ k => XS.lload X6.here hx rfl (hb hby d10_202) rfl  k) ?_
    obtain ⟨d21, hd21⟩ : ∃ z, FP.l2d lv7 = z := ⟨_, rfl⟩
    have fr21 : OwnF.Fr 0 (((((512 : Int) * (own_co x2 (0 : Int32)).toInt) + (((64 : Int) * (own_co x2 (1 : Int32)).toInt) * x4.toInt)) + ((((8 : Int) * (own_co x2 (2 : Int32)).toInt) * x4.toInt) * x4.toInt)) + ((((own_co x2 (3 : Int32)).toInt * x4.toInt) * x4.toInt) * x4.toInt)) 8867020800 d21 := by rw [← hd21]; exact own_frL Llv7 (by decide)
    refine G1 (fun _ k => XS.l2dS X6.here hx rfl (hb hby d10_204) rfl hd21 k) ?_
    show Goes _ _ _ _ _ _ _ (T6.setTop (mkF m 205 _ [(.double d21), (.double d20)]))
    refine G1 (fun _ k => XS.dcmpS X6.here hx rfl (hb hby d10_205) rfl rfl k) ?_
    show Goes _ _ _ _ _ _ _ (T6.setTop (mkF m 206 _ [(.int (cmpValue (FP.dcmp d20 d21) .l))]))
    refine G1 (fun _ k => XS.ifNo X6.here hx rfl (hb hby d10_206) rfl ((if0 _ _).trans (teq (own_eq0 fr20 (OwnF.Fr.up 9 fr21) (by decide) (by rw [(h1 (fun z => c125_9 (Int64.lt_iff_toInt_lt.mpr (by rw [(own_L.mul (⟨by decide, by decide⟩ : own_L (8 : Int64) 8 8) hs (by decide)).1]; exact z)))).1]; rfl) .l)).2) k) ?_
    show Goes _ _ _ _ _ _ _ (T6.setTop (mkF m 209 _ []))
    refine G1 (fun _ k => XS.aloadN X6.here hx rfl (hb hby d10_209) rfl rfl k) ?_
    refine G1 (fun _ k => XS.iconst X6.here hx rfl (hb hby d10_210) k) ?_
    refine G1 (fun _ k => XS.iloadN X6.here hx rfl (hb hby d10_211) rfl  k) ?_
    refine G1 (fun _ k => XS.iadd X6.here hx rfl (hb hby d10_212) rfl k) ?_
    show Goes _ _ _ _ _ _ _ (T6.setTop (mkF m 213 #[.val (.ref x0), .val (.int (2 : Int32)), .val (.long x2), nS, .val (.long x3), nS, .val (.long x4), nS, .val (.long (own_co x2 (0 : Int32))), nS, .val (.long (own_co x2 (1 : Int32))), nS, .val (.long (own_co x2 (2 : Int32))), nS, .val (.long (own_co x2 (3 : Int32))), nS, .val (.long (own_co x2 (4 : Int32))), nS, .val (.long (own_co x2 (5 : Int32))), nS, .val (.long lv7), nS, .val (.long lv8), nS, nU, nU] [(.int (5 : Int32)), (.ref x0)]))
    obtain ⟨cl22, Ar22, q22, S22, P22, H22, G22⟩ := id V_x0
    have hin22 : ¬ ((5 : Int32) < 0 ∨ cl22.slots.size ≤ ((5 : Int32)).toNatClampNeg) := inb_of S22 ⟨by decide, by decide⟩
    have hat22 : cl22.slots[((5 : Int32)).toNatClampNeg]? = some (.double vu5) := H22 _ (by rw [S22]; decide)
    refine G1 (fun _ k => X6.daload hx (j := (5 : Int32)) (v := (.double vu5)) (by rw [eh6]; exact Ar22.1) (State.isArrayOf_alike hZ.alike Ar22.2.1) Ar22.2.2 hin22 hat22 (g := (mkF m 213 #[.val (.ref x0), .val (.int (2 : Int32)), .val (.long x2), nS, .val (.long x3), nS, .val (.long x4), nS, .val (.long (own_co x2 (0 : Int32))), nS, .val (.long (own_co x2 (1 : Int32))), nS, .val (.long (own_co x2 (2 : Int32))), nS, .val (.long (own_co x2 (3 : Int32))), nS, .val (.long (own_co x2 (4 : Int32))), nS, .val (.long (own_co x2 (5 : Int32))), nS, .val (.long lv7), nS, .val (.long lv8), nS, nU, nU] [(.int (5 : Int32)), (.ref x0)])) rfl rfl (hb hby d10_213) _ k) ?_
    show Goes _ _ _ _ _ _ _ (T6.setTop (mkF m 214 _ [(.double vu5)]))
    refine G1 (fun _ k => X6.ldc2DoubleC hx hown (mvT hZ w_61) (g := (mkF m 214 #[.val (.ref x0), .val (.int (2 : Int32)), .val (.long x2), nS, .val (.long x3), nS, .val (.long x4), nS, .val (.long (own_co x2 (0 : Int32))), nS, .val (.long (own_co x2 (1 : Int32))), nS, .val (.long (own_co x2 (2 : Int32))), nS, .val (.long (own_co x2 (3 : Int32))), nS, .val (.long (own_co x2 (4 : Int32))), nS, .val (.long (own_co x2 (5 : Int32))), nS, .val (.long lv7), nS, .val (.long lv8), nS, nU, nU] [(.double vu5)])) rfl (hb hby d10_214) _ k) ?_
    show Goes _ _ _ _ _ _ _ (T6.setTop (mkF m 217 _ [(.double (4634204016564240384 : UInt64)), (.double vu5)]))
    obtain ⟨d23, hd23⟩ : ∃ z, FP.dmul vu5 (4634204016564240384 : UInt64) = z := ⟨_, rfl⟩
    have fr23 : OwnF.Fr 6 (Jv * (64 : Int)) 2791728742400 d23 := by rw [← hd23]; exact OwnF.Fr.dmul fJ own_k4634204016564240384 (by decide)
    refine G1 (fun _ k => XS.dmulS X6.here hx rfl (hb hby d10_217) rfl (by rw [hd23]; exact own_nn fr23) hd23 k) ?_
    show Goes _ _ _ _ _ _ _ (T6.setTop (mkF m 218 _ [(.double d23)]))
    refine G1 (fun _ k => XS.lload X6.here hx rfl (hb hby d10_218) rfl  k) ?_
    obtain ⟨d24, hd24⟩ : ∃ z, FP.l2d lv8 = z := ⟨_, rfl⟩
    have fr24 : OwnF.Fr 0 ((((64 : Int) * (own_co x2 (1 : Int32)).toInt) + (((16 : Int) * (own_co x2 (2 : Int32)).toInt) * x4.toInt)) + ((((3 : Int) * (own_co x2 (3 : Int32)).toInt) * x4.toInt) * x4.toInt)) 102793216 d24 := by rw [← hd24]; exact own_frL Llv8 (by decide)
    refine G1 (fun _ k => XS.l2dS X6.here hx rfl (hb hby d10_220) rfl hd24 k) ?_
    show Goes _ _ _ _ _ _ _ (T6.setTop (mkF m 221 _ [(.double d24), (.double d23)]))
    refine G1 (fun _ k => XS.dcmpS X6.here hx rfl (hb hby d10_221) rfl rfl k) ?_
    show Goes _ _ _ _ _ _ _ (T6.setTop (mkF m 222 _ [(.int (cmpValue (FP.dcmp d23 d24) .l))]))
    refine G1 (fun _ k => XS.ifNo X6.here hx rfl (hb hby d10_222) rfl ((if0 _ _).trans (teq (own_eq0 fr23 (OwnF.Fr.up 6 fr24) (by decide) (by rw [(h1 (fun z => c125_9 (Int64.lt_iff_toInt_lt.mpr (by rw [(own_L.mul (⟨by decide, by decide⟩ : own_L (8 : Int64) 8 8) hs (by decide)).1]; exact z)))).2]; rfl) .l)).2) k) ?_
    show Goes _ _ _ _ _ _ _ (T6.setTop (mkF m 225 _ []))
    refine G1 (fun _ k => XS.iconst X6.here hx rfl (hb hby d10_225) k) ?_
    refine G1 (fun _ k => XS.goto X6.here hx rfl (pc0 := 226) (pc' := 230) rfl (hb hby d10_226) (by decide) (by decide) k) ?_
    show Goes _ _ _ _ _ _ _ (T6.setTop (mkF m 230 #[.val (.ref x0), .val (.int (2 : Int32)), .val (.long x2), nS, .val (.long x3), nS, .val (.long x4), nS, .val (.long (own_co x2 (0 : Int32))), nS, .val (.long (own_co x2 (1 : Int32))), nS, .val (.long (own_co x2 (2 : Int32))), nS, .val (.long (own_co x2 (3 : Int32))), nS, .val (.long (own_co x2 (4 : Int32))), nS, .val (.long (own_co x2 (5 : Int32))), nS, .val (.long lv7), nS, .val (.long lv8), nS, nU, nU] [(.int (1 : Int32))]))
    exact Goes.ret X6 hx (BodyLoose.notSynchronized Bd) Bd.returns rfl (Or.inl ⟨rfl, by simp, _, rfl⟩) (hb hby d10_230) (by show Q10_2 Z x0 x2 x3 x4 ka vu0 vu1 vu2 vu3 vu4 vu5 Iv Jv h0 n0 (some (.int (1 : Int32))) T6.heap _; rw [eh6]; exact ⟨NA6, rfl, rfl⟩) (by decide) (by decide)
theorem own_noex {kc s t : Int} (ht : t = kc * s) (hs : 0 < s) (hk : kc < 8) : ¬ ((8 : Int) * s < t) := by
  subst ht
  exact Int.not_lt.mpr (Int.mul_le_mul_of_nonneg_right (by omega) (by omega))
theorem own_is8 {kc s t : Int} (ht : t = kc * s) (hs : 0 < s) (hk : 8 ≤ kc) (z : ¬ ((8 : Int) * s < t)) : kc = 8 := by
  subst ht
  rcases Int.lt_or_le 8 kc with h | h
  · exact absurd (Int.mul_lt_mul_of_pos_right h hs) z
  · omega
theorem own_fin0a {I J kc s t a0 a1 a2 a3 a4 a5 P0 P1 P2 P3 : Int} (hP0 : P0 = a0) (hP1 : P1 = a1) (hP2 : P2 = (((a0 + (a1 * s)) + ((a2 * s) * s)) + (((a3 * s) * s) * s))) (hP3 : P3 = ((a1 + (((2 : Int) * a2) * s)) + ((((3 : Int) * a3) * s) * s))) (hI : I = ((((((((2 : Int) * (((kc - 0) * (kc - 0)) * (kc - 0))) - (((3 : Int) * ((kc - 0) * (kc - 0))) * ((2 ^ 3 : Nat) : Int))) + ((1 : Int) * ((2 ^ 9 : Nat) : Int))) * P0) + ((((((kc - 0) * (kc - 0)) * (kc - 0)) - (((2 : Int) * ((kc - 0) * (kc - 0))) * ((2 ^ 3 : Nat) : Int))) + ((kc - 0) * ((2 ^ 6 : Nat) : Int))) * (P1 * s))) + ((((-2 : Int) * (((kc - 0) * (kc - 0)) * (kc - 0))) + (((3 : Int) * ((kc - 0) * (kc - 0))) * ((2 ^ 3 : Nat) : Int))) * P2)) + (((((kc - 0) * (kc - 0)) * (kc - 0)) - (((kc - 0) * (kc - 0)) * ((2 ^ 3 : Nat) : Int))) * (P3 * s)))) (hJ : J = ((((((-6 : Int) * ((kc - 0) * (kc - 0))) + (((6 : Int) * (kc - 0)) * ((2 ^ 3 : Nat) : Int))) * (a1 + a2 * s + a3 * s * s)) + (((((3 : Int) * ((kc - 0) * (kc - 0))) - (((4 : Int) * (kc - 0)) * ((2 ^ 3 : Nat) : Int))) + ((1 : Int) * ((2 ^ 6 : Nat) : Int))) * P1)) + ((((3 : Int) * ((kc - 0) * (kc - 0))) - (((2 : Int) * (kc - 0)) * ((2 ^ 3 : Nat) : Int))) * P3))) (ht : t = kc * s) : I = (((((512 : Int) * a0) + (((64 : Int) * a1) * t)) + ((((8 : Int) * a2) * t) * t)) + (((a3 * t) * t) * t)) ∧ J = ((((64 : Int) * a1) + (((16 : Int) * a2) * t)) + ((((3 : Int) * a3) * t) * t)) := by
  subst hP0 hP1 hP2 hP3 hI hJ ht
  constructor <;> grind
theorem own_g0 {s a0 a1 a2 a3 a4 a5 P0 P1 P2 P3 : Int} (hP0 : P0 = a0) (hP1 : P1 = a1) (hP2 : P2 = (((a0 + (a1 * s)) + ((a2 * s) * s)) + (((a3 * s) * s) * s))) (hP3 : P3 = ((a1 + (((2 : Int) * a2) * s)) + ((((3 : Int) * a3) * s) * s))) : P2 = P0 + (a1 + a2 * s + a3 * s * s) * s := by
  subst hP0 hP1 hP2 hP3
  grind
theorem own_fin1a {I J kc s t a0 a1 a2 a3 a4 a5 P0 P1 P2 P3 : Int} (hP0 : P0 = (((a0 + (a1 * s)) + ((a2 * s) * s)) + (((a3 * s) * s) * s))) (hP1 : P1 = ((a1 + (((2 : Int) * a2) * s)) + ((((3 : Int) * a3) * s) * s))) (hP2 : P2 = ((((a0 + (((2 : Int) * a1) * s)) + ((((4 : Int) * a2) * s) * s)) + (((((8 : Int) * a3) * s) * s) * s)) + ((s * s) * (a4 + (a5 * s))))) (hP3 : P3 = ((((a1 + (((4 : Int) * a2) * s)) + ((((12 : Int) * a3) * s) * s)) + (((2 : Int) * s) * a4)) + ((((3 : Int) * a5) * s) * s))) (hI : I = ((((((((2 : Int) * (((kc - 8) * (kc - 8)) * (kc - 8))) - (((3 : Int) * ((kc - 8) * (kc - 8))) * ((2 ^ 3 : Nat) : Int))) + ((1 : Int) * ((2 ^ 9 : Nat) : Int))) * P0) + ((((((kc - 8) * (kc - 8)) * (kc - 8)) - (((2 : Int) * ((kc - 8) * (kc - 8))) * ((2 ^ 3 : Nat) : Int))) + ((kc - 8) * ((2 ^ 6 : Nat) : Int))) * (P1 * s))) + ((((-2 : Int) * (((kc - 8) * (kc - 8)) * (kc - 8))) + (((3 : Int) * ((kc - 8) * (kc - 8))) * ((2 ^ 3 : Nat) : Int))) * P2)) + (((((kc - 8) * (kc - 8)) * (kc - 8)) - (((kc - 8) * (kc - 8)) * ((2 ^ 3 : Nat) : Int))) * (P3 * s)))) (hJ : J = ((((((-6 : Int) * ((kc - 8) * (kc - 8))) + (((6 : Int) * (kc - 8)) * ((2 ^ 3 : Nat) : Int))) * (a1 + 3 * a2 * s + 7 * a3 * s * s + s * (a4 + a5 * s))) + (((((3 : Int) * ((kc - 8) * (kc - 8))) - (((4 : Int) * (kc - 8)) * ((2 ^ 3 : Nat) : Int))) + ((1 : Int) * ((2 ^ 6 : Nat) : Int))) * P1)) + ((((3 : Int) * ((kc - 8) * (kc - 8))) - (((2 : Int) * (kc - 8)) * ((2 ^ 3 : Nat) : Int))) * P3))) (ht : t = kc * s) : I = (((((((512 : Int) * a0) + (((64 : Int) * a1) * t)) + ((((8 : Int) * a2) * t) * t)) + (((a3 * t) * t) * t)) + ((((8 : Int) * a4) * (t - ((8 : Int) * s))) * (t - ((8 : Int) * s)))) + (((a5 * (t - ((8 : Int) * s))) * (t - ((8 : Int) * s))) * (t - ((8 : Int) * s)))) ∧ J = ((((((64 : Int) * a1) + (((16 : Int) * a2) * t)) + ((((3 : Int) * a3) * t) * t)) + (((16 : Int) * a4) * (t - ((8 : Int) * s)))) + ((((3 : Int) * a5) * (t - ((8 : Int) * s))) * (t - ((8 : Int) * s)))) := by
  subst hP0 hP1 hP2 hP3 hI hJ ht
  constructor <;> grind
theorem own_fin1e {I J kc s t a0 a1 a2 a3 a4 a5 P0 P1 P2 P3 : Int} (hP0 : P0 = (((a0 + (a1 * s)) + ((a2 * s) * s)) + (((a3 * s) * s) * s))) (hP1 : P1 = ((a1 + (((2 : Int) * a2) * s)) + ((((3 : Int) * a3) * s) * s))) (hP2 : P2 = ((((a0 + (((2 : Int) * a1) * s)) + ((((4 : Int) * a2) * s) * s)) + (((((8 : Int) * a3) * s) * s) * s)) + ((s * s) * (a4 + (a5 * s))))) (hP3 : P3 = ((((a1 + (((4 : Int) * a2) * s)) + ((((12 : Int) * a3) * s) * s)) + (((2 : Int) * s) * a4)) + ((((3 : Int) * a5) * s) * s))) (hI : I = ((((((((2 : Int) * (((kc - 8) * (kc - 8)) * (kc - 8))) - (((3 : Int) * ((kc - 8) * (kc - 8))) * ((2 ^ 3 : Nat) : Int))) + ((1 : Int) * ((2 ^ 9 : Nat) : Int))) * P0) + ((((((kc - 8) * (kc - 8)) * (kc - 8)) - (((2 : Int) * ((kc - 8) * (kc - 8))) * ((2 ^ 3 : Nat) : Int))) + ((kc - 8) * ((2 ^ 6 : Nat) : Int))) * (P1 * s))) + ((((-2 : Int) * (((kc - 8) * (kc - 8)) * (kc - 8))) + (((3 : Int) * ((kc - 8) * (kc - 8))) * ((2 ^ 3 : Nat) : Int))) * P2)) + (((((kc - 8) * (kc - 8)) * (kc - 8)) - (((kc - 8) * (kc - 8)) * ((2 ^ 3 : Nat) : Int))) * (P3 * s)))) (hJ : J = ((((((-6 : Int) * ((kc - 8) * (kc - 8))) + (((6 : Int) * (kc - 8)) * ((2 ^ 3 : Nat) : Int))) * (a1 + 3 * a2 * s + 7 * a3 * s * s + s * (a4 + a5 * s))) + (((((3 : Int) * ((kc - 8) * (kc - 8))) - (((4 : Int) * (kc - 8)) * ((2 ^ 3 : Nat) : Int))) + ((1 : Int) * ((2 ^ 6 : Nat) : Int))) * P1)) + ((((3 : Int) * ((kc - 8) * (kc - 8))) - (((2 : Int) * (kc - 8)) * ((2 ^ 3 : Nat) : Int))) * P3))) (ht : t = kc * s) (h8 : kc = 8) : I = (((((512 : Int) * a0) + (((64 : Int) * a1) * t)) + ((((8 : Int) * a2) * t) * t)) + (((a3 * t) * t) * t)) ∧ J = ((((64 : Int) * a1) + (((16 : Int) * a2) * t)) + ((((3 : Int) * a3) * t) * t)) := by
  subst hP0 hP1 hP2 hP3 hI hJ ht
  subst h8
  constructor <;> grind
theorem own_g1 {s a0 a1 a2 a3 a4 a5 P0 P1 P2 P3 : Int} (hP0 : P0 = (((a0 + (a1 * s)) + ((a2 * s) * s)) + (((a3 * s) * s) * s))) (hP1 : P1 = ((a1 + (((2 : Int) * a2) * s)) + ((((3 : Int) * a3) * s) * s))) (hP2 : P2 = ((((a0 + (((2 : Int) * a1) * s)) + ((((4 : Int) * a2) * s) * s)) + (((((8 : Int) * a3) * s) * s) * s)) + ((s * s) * (a4 + (a5 * s))))) (hP3 : P3 = ((((a1 + (((4 : Int) * a2) * s)) + ((((12 : Int) * a3) * s) * s)) + (((2 : Int) * s) * a4)) + ((((3 : Int) * a5) * s) * s))) : P2 = P0 + (a1 + 3 * a2 * s + 7 * a3 * s * s + s * (a4 + a5 * s)) * s := by
  subst hP0 hP1 hP2 hP3
  grind
theorem pn_0 : plainName "com/example/orbitloom/orbitloom/orbits/TrackAtPinLaw" = true := by first | (simp [plainName, overriddenIn]; done) | decide +kernel
theorem ef_0 (m : MethodId) (p0 : Int64) (p1 : Int64) (p2 : Int64) (p3 : Int32) (p4 : Int32)  : entryFrame m #[(.long p0), (.long p1), (.long p2), (.int p3), (.int p4)] maxLocals = mkF m 0 #[.val (.long p0), .second, .val (.long p1), .second, .val (.long p2), .second, .val (.int p3), .val (.int p4), .unset, .unset, .unset, .unset, .unset, .unset, .unset, .unset, .unset, .unset, .unset] [] := by first | (simp [entryFrame, mkF, argsToLocals, Value.category, maxLocals]; done) | rfl
theorem pd_0 : parseMethodDescriptor "([DIJJ)V" = some ⟨[(.array .double), .int, .long, .long], none⟩ := by decide +kernel
theorem pd_2 : parseMethodDescriptor "(D[D)V" = some ⟨[.double, (.array .double)], none⟩ := by decide +kernel
theorem pd_6 : parseMethodDescriptor "([DIJJJ)Z" = some ⟨[(.array .double), .int, .long, .long, .long], some .boolean⟩ := by decide +kernel
def Q0 (Z : State) (p0 : Int64) (p1 : Int64) (p2 : Int64) (p3 : Int32) (p4 : Int32) (h0 : Heap) (n0 : Nat) (v : Option Value) (h : Heap) (L : List Loc) : Prop := v = some (.int 1) ∧ Fr n0 L
set_option maxRecDepth 65536 in
set_option maxHeartbeats 40000000 in
theorem rm0 (l : Launch) (Z : State) (a0 : Array Value) (hw : ∀ d ∈ tables_1, d.before a0 Z = true) (ws : List Jvm.Cond) (p0 : Int64) (p1 : Int64) (p2 : Int64) (p3 : Int32) (p4 : Int32) (h0 : Heap) (n0 : Nat) (Z0 : n0 ≤ h0.size) :
    MetFree l x (head1 (Jvm.Cond.code x code maxLocals ret :: ws) room_1) (fun a U => a = #[(.long p0), (.long p1), (.long p2), (.int p3), (.int p4)] ∧ Z.Warmed39 U.vm ∧ U.heap = h0) (fun _ _ _ _ _ => True) (fun _ U o U' => ∃ v L, o = .returned v ∧ Q0 Z p0 p1 p2 p3 p4 h0 n0 v U'.heap L ∧ FrameEnd U o U' L room_1.cells room_1.slots) := by
  refine MetFree.of_bodySF (plainFor_of_name pn_0) hisR ?_
  intro p e s m args below meth c s₁ Bd hml0 hP hK
  obtain ⟨rfl, hZ, hh⟩ := hP
  have w_0 := hw _ (List.mem_of_getElem? (i := 0) rfl)
  have w_1 := hw _ (List.mem_of_getElem? (i := 1) rfl)
  have w_2 := hw _ (List.mem_of_getElem? (i := 2) rfl)
  have w_3 := hw _ (List.mem_of_getElem? (i := 3) rfl)
  have w_4 := hw _ (List.mem_of_getElem? (i := 4) rfl)
  have w_13 := hw _ (List.mem_of_getElem? (i := 13) rfl)
  have w_14 := hw _ (List.mem_of_getElem? (i := 14) rfl)
  have w_15 := hw _ (List.mem_of_getElem? (i := 15) rfl)
  have w_16 := hw _ (List.mem_of_getElem? (i := 16) rfl)
  have w_17 := hw _ (List.mem_of_getElem? (i := 17) rfl)
  have w_18 := hw _ (List.mem_of_getElem? (i := 18) rfl)
  have w_23 := hw _ (List.mem_of_getElem? (i := 23) rfl)
  have w_25 := hw _ (List.mem_of_getElem? (i := 25) rfl)
  have w_27 := hw _ (List.mem_of_getElem? (i := 27) rfl)
  have w_28 := hw _ (List.mem_of_getElem? (i := 28) rfl)
  have w_29 := hw _ (List.mem_of_getElem? (i := 29) rfl)
  have w_30 := hw _ (List.mem_of_getElem? (i := 30) rfl)
  have w_31 := hw _ (List.mem_of_getElem? (i := 31) rfl)
  have w_32 := hw _ (List.mem_of_getElem? (i := 32) rfl)
  have w_33 := hw _ (List.mem_of_getElem? (i := 33) rfl)
  have w_36 := hw _ (List.mem_of_getElem? (i := 36) rfl)
  have w_42 := hw _ (List.mem_of_getElem? (i := 42) rfl)
  have w_43 := hw _ (List.mem_of_getElem? (i := 43) rfl)
  have w_50 := hw _ (List.mem_of_getElem? (i := 50) rfl)
  have w_51 := hw _ (List.mem_of_getElem? (i := 51) rfl)
  have w_52 := hw _ (List.mem_of_getElem? (i := 52) rfl)
  have w_53 := hw _ (List.mem_of_getElem? (i := 53) rfl)
  have w_54 := hw _ (List.mem_of_getElem? (i := 54) rfl)
  have w_55 := hw _ (List.mem_of_getElem? (i := 55) rfl)
  have w_56 := hw _ (List.mem_of_getElem? (i := 56) rfl)
  have hx := Bd.exec
  have hby := Bd.bytes
  have hml : c.maxLocals = 19 := hml0
  have hown : s.vm.findClass "com/example/orbitloom/orbitloom/orbits/TrackAtPinLaw" = some m.cls := findClass_of_methodNamed Bd.named
  have hnm := (name_of_methodNamed Bd.named Bd.method).1
  have X0 : Stand p l e room_1 s m #[(.long p0), (.long p1), (.long p2), (.int p3), (.int p4)] below meth c s₁ [] 0 0 := Stand.of_body Bd
  have e0 : s₁.heap = h0 := by rw [← hh, Bd.state]; rfl
  have N0 := Fr.nil n0
  have K0 : Keep h0 h0 [] := Keep.refl h0 _
  refine (?_ : Goes p e below s room_1.cells room_1.slots (fun v h L => Q0 Z p0 p1 p2 p3 p4 h0 n0 v h L) (s₁.setTop (entryFrame m #[(.long p0), (.long p1), (.long p2), (.int p3), (.int p4)] maxLocals)))
  rw [ef_0 m p0 p1 p2 p3 p4 ]
  show Goes _ _ _ _ _ _ _ (s₁.setTop (mkF m 0 #[.val (.long p0), nS, .val (.long p1), nS, .val (.long p2), nS, .val (.int p3), .val (.int p4), nU, nU, nU, nU, nU, nU, nU, nU, nU, nU, nU] []))
  refine G1 (fun _ k => XS.iload X0.here hx rfl (hb hby at_0) rfl  k) ?_
  refine G1 (fun _ k => XS.bipush X0.here hx rfl (hb hby at_2) k) ?_
  refine G1 (fun _ k => XS.iand X0.here hx rfl (hb hby at_4) rfl k) ?_
  show Goes _ _ _ _ _ _ _ (s₁.setTop (mkF m 5 _ [(.int (p3 &&& (15 : Int32)))]))
  refine G1 (fun _ k => XS.iconst X0.here hx rfl (hb hby at_5) k) ?_
  refine G1 (fun _ k => XS.iadd X0.here hx rfl (hb hby at_6) rfl k) ?_
  show Goes _ _ _ _ _ _ _ (s₁.setTop (mkF m 7 _ [(.int ((p3 &&& (15 : Int32)) + (1 : Int32)))]))
  refine G1 (fun _ k => XS.i2l X0.here hx rfl (hb hby at_7) rfl k) ?_
  show Goes _ _ _ _ _ _ _ (s₁.setTop (mkF m 8 _ [(.long (((p3 &&& (15 : Int32)) + (1 : Int32)).toInt64))]))
  refine G1 (fun _ k => XS.lstore X0.here hx rfl (hb hby at_8) rfl (l' := #[.val (.long p0), nS, .val (.long p1), nS, .val (.long p2), nS, .val (.int p3), .val (.int p4), .val (.long (((p3 &&& (15 : Int32)) + (1 : Int32)).toInt64)), nS, nU, nU, nU, nU, nU, nU, nU, nU, nU]) rfl k) ?_
  show Goes _ _ _ _ _ _ _ (s₁.setTop (mkF m 10 _ []))
  show Goes _ _ _ _ _ _ _ (s₁.setTop (mkF m 10 #[.val (.long p0), nS, .val (.long p1), nS, .val (.long p2), nS, .val (.int p3), .val (.int p4), .val (.long (((p3 &&& (15 : Int32)) + (1 : Int32)).toInt64)), nS, nU, nU, nU, nU, nU, nU, nU, nU, nU] []))
  generalize hg_sv : (((p3 &&& (15 : Int32)) + (1 : Int32)).toInt64) = sv
  show Goes _ _ _ _ _ _ _ (s₁.setTop (mkF m 10 #[.val (.long p0), nS, .val (.long p1), nS, .val (.long p2), nS, .val (.int p3), .val (.int p4), .val (.long sv), nS, nU, nU, nU, nU, nU, nU, nU, nU, nU] []))
  obtain ⟨hsL, hs0⟩ := own_step hg_sv
  have hs1 : 0 < sv.toInt := by omega
  obtain ⟨kc, hkc⟩ : ∃ z : Int, z = min (max p4.toInt 0) 16 := ⟨_, rfl⟩
  refine G1 (fun _ k => XS.bipush X0.here hx rfl (hb hby at_10) k) ?_
  obtain ⟨T1, h1, k1, X1, e1, E1, A1, st1⟩ := newP X0 hx hZ (hw _ (List.mem_of_getElem? (i := 0) rfl)) e0 (g := (mkF m 12 #[.val (.long p0), nS, .val (.long p1), nS, .val (.long p2), nS, .val (.int p3), .val (.int p4), .val (.long sv), nS, nU, nU, nU, nU, nU, nU, nU, nU, nU] [(.int (18 : Int32))])) rfl (hb hby at_12) rfl (by decide) (cap := 18) (by decide) (by decide) (by decide) (by decide)
  obtain ⟨b1, g1⟩ : ∃ z, z = h0.size := ⟨_, rfl⟩
  rw [← g1] at A1 st1
  refine G1 st1 ?_
  have g_b1 : n0 ≤ b1 := Nat.le_trans Z0 (Nat.le_of_eq g1.symm)
  have sz_b1 : h0.size ≤ b1 := Nat.le_trans K0.1 (Nat.le_of_eq g1.symm)
  have K2 : Keep h0 h1 [] := K0.ext E1
  have Z2 : n0 ≤ h1.size := Nat.le_trans Z0 E1.1
  have V_b1 : Arv Z h1 b1 k1 .double (18 : Int32) [(.double (0 : UInt64)), (.double (0 : UInt64)), (.double (0 : UInt64)), (.double (0 : UInt64)), (.double (0 : UInt64)), (.double (0 : UInt64)), (.double (0 : UInt64)), (.double (0 : UInt64)), (.double (0 : UInt64)), (.double (0 : UInt64)), (.double (0 : UInt64)), (.double (0 : UInt64)), (.double (0 : UInt64)), (.double (0 : UInt64)), (.double (0 : UInt64)), (.double (0 : UInt64)), (.double (0 : UInt64)), (.double (0 : UInt64))] (.double (0 : UInt64)) := (Arv.new A1 (by decide)).pad (pad_rep [] (.double (0 : UInt64)) 18)
  show Goes _ _ _ _ _ _ _ (T1.setTop (mkF m 14 _ [(.ref b1)]))
  refine G1 (fun _ k => XS.astore X1.here hx rfl (hb hby at_14) rfl rfl (l' := #[.val (.long p0), nS, .val (.long p1), nS, .val (.long p2), nS, .val (.int p3), .val (.int p4), .val (.long sv), nS, .val (.ref b1), nU, nU, nU, nU, nU, nU, nU, nU]) rfl k) ?_
  show Goes _ _ _ _ _ _ _ (T1.setTop (mkF m 16 _ []))
  refine G1 (fun _ k => XS.aload X1.here hx rfl (hb hby at_16) rfl rfl k) ?_
  refine G1 (fun _ k => XS.iconst X1.here hx rfl (hb hby at_18) k) ?_
  refine G1 (fun _ k => XS.lloadN X1.here hx rfl (hb hby at_19) rfl  k) ?_
  refine G1 (fun _ k => XS.lload X1.here hx rfl (hb hby at_20) rfl  k) ?_
  show Goes _ _ _ _ _ _ _ (T1.setTop (mkF m 22 _ [(.long sv), (.long p0), (.int (0 : Int32)), (.ref b1)]))
  obtain ⟨_, _, ⟨T3, L3, k3, n3⟩, -, X3, ⟨Lc3, hQ3, l3, y3, z3⟩, st3⟩ := Jvm.LawKit.callS X1 hx (y := (⟨"com/example/orbitloom/orbitloom/orbits/TrackAtPinLaw", "fill", "([DIJJ)V"⟩ : MethodName)) hown (mvT hZ w_1) (mvT hZ w_2) (mvT hZ w_3) (mvT hZ w_4) (by decide) (backOf (W := 0) (rm1_0 l Z a0 hw [] b1 p0 sv k1 (0 : UInt64) (0 : UInt64) (0 : UInt64) (0 : UInt64) (0 : UInt64) (0 : UInt64) (0 : UInt64) (0 : UInt64) (0 : UInt64) (0 : UInt64) (0 : UInt64) (0 : UInt64) (0 : UInt64) (0 : UInt64) (0 : UInt64) (0 : UInt64) (0 : UInt64) (0 : UInt64) h1 n0 Z2 V_b1 g_b1 hsL) hZ w_4 w_3 (by decide) (by decide)) (g := (mkF m 22 #[.val (.long p0), nS, .val (.long p1), nS, .val (.long p2), nS, .val (.int p3), .val (.int p4), .val (.long sv), nS, .val (.ref b1), nU, nU, nU, nU, nU, nU, nU, nU] [(.long sv), (.long p0), (.int (0 : Int32)), (.ref b1)])) rfl (by rw [hml]; rfl) (argsL := [(.ref b1), (.int (0 : Int32)), (.long p0), (.long sv)]) (rest := []) (lenOf pd_0 rfl) rfl (by show 2 * 0 + _ ≤ _; exact Nat.le_of_eq rfl) (hb hby at_22) (fun _ _ => ⟨rfl, e1, (by decide : 1 + 0 ≤ _), (by decide : 18 + 0 ≤ _)⟩)
  dsimp only [Pt.U, Pt.locs, Pt.cells, Pt.slots] at X3 l3 y3 z3 st3 hQ3
  rw [l3, y3, z3] at X3
  obtain ⟨N3, KK3, rfl, q3_0, q3_1, q3_2, q3_3, q3_4, q3_5, P3_0, P3_1, P3_2, P3_3, P3_4, P3_5, VV3, hP3_0, fP3_0, hP3_1, fP3_1, hP3_2, fP3_2, hP3_3, fP3_3, hP3_4, fP3_4, hP3_5, fP3_5⟩ := hQ3
  have NA3 := Fr.app N0 N3
  have K5 : Keep h0 T3.heap [] := K2.trans KK3 (allS (Or.inr sz_b1) all0)
  have Z5 : n0 ≤ T3.heap.size := Nat.le_trans Z2 KK3.1
  refine G1 st3 ?_
  show Goes _ _ _ _ _ _ _ (T3.setTop (mkF m 25 _ []))
  refine G1 (fun _ k => XS.aload X3.here hx rfl (hb hby at_25) rfl rfl k) ?_
  refine G1 (fun _ k => XS.iconst X3.here hx rfl (hb hby at_27) k) ?_
  refine G1 (fun _ k => XS.lloadN X3.here hx rfl (hb hby at_28) rfl  k) ?_
  refine G1 (fun _ k => XS.lload X3.here hx rfl (hb hby at_29) rfl  k) ?_
  show Goes _ _ _ _ _ _ _ (T3.setTop (mkF m 31 _ [(.long sv), (.long p1), (.int (1 : Int32)), (.ref b1)]))
  obtain ⟨_, _, ⟨T6, L6, k6, n6⟩, -, X6, ⟨Lc6, hQ6, l6, y6, z6⟩, st6⟩ := Jvm.LawKit.callS X3 hx (y := (⟨"com/example/orbitloom/orbitloom/orbits/TrackAtPinLaw", "fill", "([DIJJ)V"⟩ : MethodName)) hown (mvT hZ w_1) (mvT hZ w_2) (mvT hZ w_3) (mvT hZ w_4) (by decide) (backOf (W := 0) (rm1_1 l Z a0 hw [] b1 p1 sv k1 q3_0 (0 : UInt64) (0 : UInt64) q3_1 (0 : UInt64) (0 : UInt64) q3_2 (0 : UInt64) (0 : UInt64) q3_3 (0 : UInt64) (0 : UInt64) q3_4 (0 : UInt64) (0 : UInt64) q3_5 (0 : UInt64) (0 : UInt64) T3.heap n0 Z5 VV3 g_b1 hsL) hZ w_4 w_3 (by decide) (by decide)) (g := (mkF m 31 #[.val (.long p0), nS, .val (.long p1), nS, .val (.long p2), nS, .val (.int p3), .val (.int p4), .val (.long sv), nS, .val (.ref b1), nU, nU, nU, nU, nU, nU, nU, nU] [(.long sv), (.long p1), (.int (1 : Int32)), (.ref b1)])) rfl (by rw [hml]; rfl) (argsL := [(.ref b1), (.int (1 : Int32)), (.long p1), (.long sv)]) (rest := []) (lenOf pd_0 rfl) rfl (by show 2 * 0 + _ ≤ _; exact Nat.le_of_eq rfl) (hb hby at_31) (fun _ _ => ⟨rfl, rfl, (by decide : 1 + 0 ≤ _), (by decide : 18 + 0 ≤ _)⟩)
  dsimp only [Pt.U, Pt.locs, Pt.cells, Pt.slots] at X6 l6 y6 z6 st6 hQ6
  rw [l6, y6, z6] at X6
  obtain ⟨N6, KK6, rfl, q6_0, q6_1, q6_2, q6_3, q6_4, q6_5, P6_0, P6_1, P6_2, P6_3, P6_4, P6_5, VV6, hP6_0, fP6_0, hP6_1, fP6_1, hP6_2, fP6_2, hP6_3, fP6_3, hP6_4, fP6_4, hP6_5, fP6_5⟩ := hQ6
  have NA6 := Fr.app NA3 N6
  have K8 : Keep h0 T6.heap [] := K5.trans KK6 (allS (Or.inr sz_b1) all0)
  have Z8 : n0 ≤ T6.heap.size := Nat.le_trans Z5 KK6.1
  refine G1 st6 ?_
  show Goes _ _ _ _ _ _ _ (T6.setTop (mkF m 34 _ []))
  refine G1 (fun _ k => XS.aload X6.here hx rfl (hb hby at_34) rfl rfl k) ?_
  refine G1 (fun _ k => XS.iconst X6.here hx rfl (hb hby at_36) k) ?_
  refine G1 (fun _ k => XS.lload X6.here hx rfl (hb hby at_37) rfl  k) ?_
  refine G1 (fun _ k => XS.lload X6.here hx rfl (hb hby at_39) rfl  k) ?_
  show Goes _ _ _ _ _ _ _ (T6.setTop (mkF m 41 #[.val (.long p0), nS, .val (.long p1), nS, .val (.long p2), nS, .val (.int p3), .val (.int p4), .val (.long sv), nS, .val (.ref b1), nU, nU, nU, nU, nU, nU, nU, nU] [(.long sv), (.long p2), (.int (2 : Int32)), (.ref b1)]))
  obtain ⟨_, _, ⟨T9, L9, k9, n9⟩, -, X9, ⟨Lc9, hQ9, l9, y9, z9⟩, st9⟩ := Jvm.LawKit.callS X6 hx (y := (⟨"com/example/orbitloom/orbitloom/orbits/TrackAtPinLaw", "fill", "([DIJJ)V"⟩ : MethodName)) hown (mvT hZ w_1) (mvT hZ w_2) (mvT hZ w_3) (mvT hZ w_4) (by decide) (backOf (W := 0) (rm1_2 l Z a0 hw [] b1 p2 sv k1 q3_0 q6_0 (0 : UInt64) q3_1 q6_1 (0 : UInt64) q3_2 q6_2 (0 : UInt64) q3_3 q6_3 (0 : UInt64) q3_4 q6_4 (0 : UInt64) q3_5 q6_5 (0 : UInt64) T6.heap n0 Z8 VV6 g_b1 hsL) hZ w_4 w_3 (by decide) (by decide)) (g := (mkF m 41 #[.val (.long p0), nS, .val (.long p1), nS, .val (.long p2), nS, .val (.int p3), .val (.int p4), .val (.long sv), nS, .val (.ref b1), nU, nU, nU, nU, nU, nU, nU, nU] [(.long sv), (.long p2), (.int (2 : Int32)), (.ref b1)])) rfl (by rw [hml]; rfl) (argsL := [(.ref b1), (.int (2 : Int32)), (.long p2), (.long sv)]) (rest := []) (lenOf pd_0 rfl) rfl (by show 2 * 0 + _ ≤ _; exact Nat.le_of_eq rfl) (hb hby at_41) (fun _ _ => ⟨rfl, rfl, (by decide : 1 + 0 ≤ _), (by decide : 18 + 0 ≤ _)⟩)
  dsimp only [Pt.U, Pt.locs, Pt.cells, Pt.slots] at X9 l9 y9 z9 st9 hQ9
  rw [l9, y9, z9] at X9
  obtain ⟨N9, KK9, rfl, q9_0, q9_1, q9_2, q9_3, q9_4, q9_5, P9_0, P9_1, P9_2, P9_3, P9_4, P9_5, VV9, hP9_0, fP9_0, hP9_1, fP9_1, hP9_2, fP9_2, hP9_3, fP9_3, hP9_4, fP9_4, hP9_5, fP9_5⟩ := hQ9
  have NA9 := Fr.app NA6 N9
  have K11 : Keep h0 T9.heap [] := K8.trans KK9 (allS (Or.inr sz_b1) all0)
  have Z11 : n0 ≤ T9.heap.size := Nat.le_trans Z8 KK9.1
  refine G1 st9 ?_
  show Goes _ _ _ _ _ _ _ (T9.setTop (mkF m 44 _ []))
  obtain ⟨T12, h12, X12, e12, E12, A12, D12, -, st12⟩ := newO X9 hx hZ hown w_13 w_14 w_15 rfl (g := (mkF m 44 #[.val (.long p0), nS, .val (.long p1), nS, .val (.long p2), nS, .val (.int p3), .val (.int p4), .val (.long sv), nS, .val (.ref b1), nU, nU, nU, nU, nU, nU, nU, nU] [])) rfl (hb hby at_44) (by decide) (by decide)
  obtain ⟨b12, g12⟩ : ∃ z, z = T9.heap.size := ⟨_, rfl⟩
  rw [← g12] at A12 D12 st12
  refine G1 st12 ?_
  have g_b12 : n0 ≤ b12 := Nat.le_trans Z11 (Nat.le_of_eq g12.symm)
  have sz_b12 : h0.size ≤ b12 := Nat.le_trans K11.1 (Nat.le_of_eq g12.symm)
  have ne13 : b1 ≠ b12 := Nat.ne_of_lt (Nat.lt_of_lt_of_le VV9.lt (Nat.le_of_eq g12.symm))
  have f14 := VV9.ext E12
  have K15 : Keep h0 h12 [] := K11.ext E12
  have Z15 : n0 ≤ h12.size := Nat.le_trans Z11 E12.1
  have E_b12 := A12
  have F_step_b12 : Fld Z h12 b12 "com/example/orbitloom/orbitloom/orbits/Track" "step" "D" (.double (0 : UInt64)) := D12 (Or.inr w_23) (ty := .double) (by decide)
  have F_samples_b12 : Fld Z h12 b12 "com/example/orbitloom/orbitloom/orbits/Track" "samples" "[D" .null := D12 (Or.inr w_25) (ty := (.array .double)) (by decide)
  have F_size_b12 : Fld Z h12 b12 "com/example/orbitloom/orbitloom/orbits/Track" "size" "I" (.int (0 : Int32)) := D12 (Or.inr w_27) (ty := .int) (by decide)
  show Goes _ _ _ _ _ _ _ (T12.setTop (mkF m 47 _ [(.ref b12)]))
  refine G1 (fun _ k => XS.dup X12.here hx rfl (hb hby at_47) rfl rfl k) ?_
  refine G1 (fun _ k => XS.lload X12.here hx rfl (hb hby at_48) rfl  k) ?_
  obtain ⟨d16, hd16⟩ : ∃ z, FP.l2d sv = z := ⟨_, rfl⟩
  have fr16 : OwnF.Fr 0 sv.toInt 16 d16 := by rw [← hd16]; exact own_frL hsL (by decide)
  refine G1 (fun _ k => XS.l2dS X12.here hx rfl (hb hby at_50) rfl hd16 k) ?_
  show Goes _ _ _ _ _ _ _ (T12.setTop (mkF m 51 _ [(.double d16), (.ref b12), (.ref b12)]))
  refine G1 (fun _ k => XS.aload X12.here hx rfl (hb hby at_51) rfl rfl k) ?_
  obtain ⟨_, _, ⟨T17, L17, k17, n17⟩, -, X17, ⟨Lc17, hQ17, l17, y17, z17⟩, st17⟩ := X12.specialBack hx (y := (⟨"com/example/orbitloom/orbitloom/orbits/Track", "<init>", "(D[D)V"⟩ : MethodName)) rfl hown (mvT hZ w_16) (mvT hZ w_17) (mvT hZ w_18) (by decide) (backOf (W := 1) (rm3 l Z a0 hw [] b12 d16 b1 k1 h12 n0 Z15 F_step_b12 F_samples_b12 F_size_b12 E_b12 (own_arx f14) (own_gt0 fr16 own_c0 hs1 .l) g_b12 ne13) hZ w_18 w_15 (by decide) (by decide)) (g := (mkF m 53 #[.val (.long p0), nS, .val (.long p1), nS, .val (.long p2), nS, .val (.int p3), .val (.int p4), .val (.long sv), nS, .val (.ref b1), nU, nU, nU, nU, nU, nU, nU, nU] [(.ref b1), (.double d16), (.ref b12), (.ref b12)])) rfl (by rw [hml]; rfl) (Steps.refl _) (a := b12) (argsL := [(.double d16), (.ref b1)]) (rest := [(.ref b12)]) (lenOf pd_2 rfl) rfl (by show 2 * 0 + _ ≤ _; exact Nat.le_of_eq rfl) (hb hby at_53) (fun _ _ => ⟨rfl, e12, (by decide : 2 + 0 ≤ _), (by decide : 21 + 0 ≤ _)⟩)
  dsimp only [Pt.U, Pt.locs, Pt.cells, Pt.slots] at X17 l17 y17 z17 st17 hQ17
  rw [l17, y17, z17] at X17
  obtain ⟨N17, KK17, hR17⟩ := hQ17
  have NA17 := Fr.app NA9 N17
  have f18 := f14.keep KK17 (ninS ne13 nin0)
  have f19 := E_b12.keep KK17
  have K23 : Keep h0 T17.heap [] := K15.trans KK17 (allS (Or.inr sz_b12) all0)
  have Z23 : n0 ≤ T17.heap.size := Nat.le_trans Z15 KK17.1
  obtain ⟨rfl, v17_0_0, v17_0_1, v17_0_2, v17_0_3⟩ := hR17
  refine G2 st17 ?_
  show Goes _ _ _ _ _ _ _ (T17.setTop (mkF m 56 _ [(.ref b12)]))
  refine G1 (fun _ k => XS.astore X17.here hx rfl (hb hby at_56) rfl rfl (l' := #[.val (.long p0), nS, .val (.long p1), nS, .val (.long p2), nS, .val (.int p3), .val (.int p4), .val (.long sv), nS, .val (.ref b1), .val (.ref b12), nU, nU, nU, nU, nU, nU, nU]) rfl k) ?_
  show Goes _ _ _ _ _ _ _ (T17.setTop (mkF m 58 _ []))
  refine G1 (fun _ k => XS.bipush X17.here hx rfl (hb hby at_58) k) ?_
  obtain ⟨T24, h24, k24, X24, e24, E24, A24, st24⟩ := newP X17 hx hZ (hw _ (List.mem_of_getElem? (i := 0) rfl)) rfl (g := (mkF m 60 #[.val (.long p0), nS, .val (.long p1), nS, .val (.long p2), nS, .val (.int p3), .val (.int p4), .val (.long sv), nS, .val (.ref b1), .val (.ref b12), nU, nU, nU, nU, nU, nU, nU] [(.int (6 : Int32))])) rfl (hb hby at_60) rfl (by decide) (cap := 6) (by decide) (by decide) (by decide) (by decide)
  obtain ⟨b24, g24⟩ : ∃ z, z = T17.heap.size := ⟨_, rfl⟩
  rw [← g24] at A24 st24
  refine G1 st24 ?_
  have g_b24 : n0 ≤ b24 := Nat.le_trans Z23 (Nat.le_of_eq g24.symm)
  have sz_b24 : h0.size ≤ b24 := Nat.le_trans K23.1 (Nat.le_of_eq g24.symm)
  have ne25 : b1 ≠ b24 := Nat.ne_of_lt (Nat.lt_of_lt_of_le f18.lt (Nat.le_of_eq g24.symm))
  have ne26 : b12 ≠ b24 := Nat.ne_of_lt (Nat.lt_of_lt_of_le v17_0_3.lt (Nat.le_of_eq g24.symm))
  have f27 := f18.ext E24
  have f28 := v17_0_3.ext E24
  have f29 := v17_0_0.ext E24
  have f30 := v17_0_1.ext E24
  have f31 := v17_0_2.ext E24
  have K32 : Keep h0 h24 [] := K23.ext E24
  have Z32 : n0 ≤ h24.size := Nat.le_trans Z23 E24.1
  have V_b24 : Arv Z h24 b24 k24 .double (6 : Int32) [(.double (0 : UInt64)), (.double (0 : UInt64)), (.double (0 : UInt64)), (.double (0 : UInt64)), (.double (0 : UInt64)), (.double (0 : UInt64))] (.double (0 : UInt64)) := (Arv.new A24 (by decide)).pad (pad_rep [] (.double (0 : UInt64)) 6)
  show Goes _ _ _ _ _ _ _ (T24.setTop (mkF m 62 _ [(.ref b24)]))
  refine G1 (fun _ k => XS.astore X24.here hx rfl (hb hby at_62) rfl rfl (l' := #[.val (.long p0), nS, .val (.long p1), nS, .val (.long p2), nS, .val (.int p3), .val (.int p4), .val (.long sv), nS, .val (.ref b1), .val (.ref b12), .val (.ref b24), nU, nU, nU, nU, nU, nU]) rfl k) ?_
  show Goes _ _ _ _ _ _ _ (T24.setTop (mkF m 64 #[.val (.long p0), nS, .val (.long p1), nS, .val (.long p2), nS, .val (.int p3), .val (.int p4), .val (.long sv), nS, .val (.ref b1), .val (.ref b12), .val (.ref b24), nU, nU, nU, nU, nU, nU] []))
  refine G1 (fun _ k => XS.iload X24.here hx rfl (hb hby at_64) rfl  k) ?_
  refine G1 (fun _ k => XS.i2dS X24.here hx rfl (hb hby at_66) rfl rfl k) ?_
  show Goes _ _ _ _ _ _ _ (T24.setTop (mkF m 67 _ [(.double (FP.i2d p4))]))
  refine G1 (fun _ k => XS.lload X24.here hx rfl (hb hby at_67) rfl  k) ?_
  obtain ⟨d33, hd33⟩ : ∃ z, FP.l2d sv = z := ⟨_, rfl⟩
  have fr33 : OwnF.Fr 0 sv.toInt 16 d33 := by rw [← hd33]; exact own_frL hsL (by decide)
  refine G1 (fun _ k => XS.l2dS X24.here hx rfl (hb hby at_69) rfl hd33 k) ?_
  show Goes _ _ _ _ _ _ _ (T24.setTop (mkF m 70 _ [(.double d33), (.double (FP.i2d p4))]))
  obtain ⟨d34, hd34⟩ : ∃ z, FP.dmul (FP.i2d p4) d33 = z := ⟨_, rfl⟩
  have fr34 : OwnF.Fr 0 (p4.toInt * sv.toInt) 34359738368 d34 := by rw [← hd34]; exact OwnF.Fr.dmul (OwnF.Fr.i2d p4) fr33 (by decide)
  refine G1 (fun _ k => XS.dmulS X24.here hx rfl (hb hby at_70) rfl (by rw [hd34]; exact own_nn fr34) hd34 k) ?_
  show Goes _ _ _ _ _ _ _ (T24.setTop (mkF m 71 _ [(.double d34)]))
  refine G1 (fun _ k => X24.ldc2DoubleC hx hown (mvT hZ w_28) (g := (mkF m 71 #[.val (.long p0), nS, .val (.long p1), nS, .val (.long p2), nS, .val (.int p3), .val (.int p4), .val (.long sv), nS, .val (.ref b1), .val (.ref b12), .val (.ref b24), nU, nU, nU, nU, nU, nU] [(.double d34)])) rfl (hb hby at_71) _ k) ?_
  show Goes _ _ _ _ _ _ _ (T24.setTop (mkF m 74 _ [(.double (4620693217682128896 : UInt64)), (.double d34)]))
  obtain ⟨d35, hd35⟩ : ∃ z, FP.ddiv d34 (4620693217682128896 : UInt64) = z := ⟨_, rfl⟩
  have fr35 : OwnF.Fr 3 (p4.toInt * sv.toInt) 34359738368 d35 := by rw [← hd35]; exact OwnF.Fr.ddiv (OwnF.Fr.up 3 fr34) own_k4620693217682128896 (by decide) rfl fr34.2 (by decide)
  refine G1 (fun _ k => XS.ddivS X24.here hx rfl (hb hby at_74) rfl (by rw [hd35]; exact own_nn fr35) hd35 k) ?_
  show Goes _ _ _ _ _ _ _ (T24.setTop (mkF m 75 _ [(.double d35)]))
  refine G1 (fun _ k => XS.dstore X24.here hx rfl (hb hby at_75) rfl (l' := #[.val (.long p0), nS, .val (.long p1), nS, .val (.long p2), nS, .val (.int p3), .val (.int p4), .val (.long sv), nS, .val (.ref b1), .val (.ref b12), .val (.ref b24), nD d35, nS, nU, nU, nU, nU]) rfl k) ?_
  show Goes _ _ _ _ _ _ _ (T24.setTop (mkF m 77 _ []))
  show Goes _ _ _ _ _ _ _ (T24.setTop (mkF m 77 #[.val (.long p0), nS, .val (.long p1), nS, .val (.long p2), nS, .val (.int p3), .val (.int p4), .val (.long sv), nS, .val (.ref b1), .val (.ref b12), .val (.ref b24), nD d35, nS, nU, nU, nU, nU] []))
  by_cases hseg : kc < 8
  · show Goes _ _ _ _ _ _ _ (T24.setTop (mkF m 77 #[.val (.long p0), nS, .val (.long p1), nS, .val (.long p2), nS, .val (.int p3), .val (.int p4), .val (.long sv), nS, .val (.ref b1), .val (.ref b12), .val (.ref b24), nD d35, nS, nU, nU, nU, nU] []))
    refine G1 (fun _ k => XS.aload X24.here hx rfl (hb hby at_77) rfl rfl k) ?_
    refine G1 (fun _ k => XS.dload X24.here hx rfl (hb hby at_79) rfl k) ?_
    refine G1 (fun _ k => XS.aload X24.here hx rfl (hb hby at_81) rfl rfl k) ?_
    obtain ⟨cq36, kq36, q36a, q36b, q36c⟩ := isOf hZ e24 f28
    obtain ⟨_, _, ⟨T36, L36, k36, n36⟩, -, X36, ⟨Lc36, hQ36, l36, y36, z36⟩, st36⟩ := X24.virtualBack hx (y := (⟨"com/example/orbitloom/orbitloom/orbits/Track", "at", "(D[D)V"⟩ : MethodName)) (z := (⟨"com/example/orbitloom/orbitloom/orbits/Track", "at", "(D[D)V"⟩ : MethodName)) hown (mvT hZ w_29) (mvT hZ w_30) (notFace_of_selects (args := #[]) (mvT hZ w_32)) (mvT hZ w_32) (mvT hZ w_31) (by decide) (backOf (W := 0) (rm5_0 l Z a0 hw [] b12 d35 b24 b1 k1 k24 d16 q3_0 q6_0 q9_0 q3_1 q6_1 q9_1 q3_2 q6_2 q9_2 q3_3 q6_3 q9_3 q3_4 q6_4 q9_4 q3_5 q6_5 q9_5 (0 : UInt64) (0 : UInt64) (0 : UInt64) (0 : UInt64) (0 : UInt64) (0 : UInt64) p4.toInt sv.toInt kc (kc - 0) P3_0 P6_0 P9_0 P3_1 P6_1 P9_1 P3_2 P6_2 P9_2 P3_3 P6_3 P9_3 ((own_co p0 (1 : Int32)).toInt + (own_co p0 (2 : Int32)).toInt * sv.toInt + (own_co p0 (3 : Int32)).toInt * sv.toInt * sv.toInt) ((own_co p1 (1 : Int32)).toInt + (own_co p1 (2 : Int32)).toInt * sv.toInt + (own_co p1 (3 : Int32)).toInt * sv.toInt * sv.toInt) ((own_co p2 (1 : Int32)).toInt + (own_co p2 (2 : Int32)).toInt * sv.toInt + (own_co p2 (3 : Int32)).toInt * sv.toInt * sv.toInt) h24 n0 Z32 f29 f30 f31 f27 V_b24 g_b24 ne26 ne25 fr35 fr16 hs1 (OwnF.Fr.i2d p4).2 hkc hseg rfl ⟨fP3_0.1, Nat.le_trans fP3_0.2 (by decide)⟩ ⟨fP6_0.1, Nat.le_trans fP6_0.2 (by decide)⟩ ⟨fP9_0.1, Nat.le_trans fP9_0.2 (by decide)⟩ ⟨fP3_1.1, Nat.le_trans fP3_1.2 (by decide)⟩ ⟨fP6_1.1, Nat.le_trans fP6_1.2 (by decide)⟩ ⟨fP9_1.1, Nat.le_trans fP9_1.2 (by decide)⟩ ⟨fP3_2.1, Nat.le_trans fP3_2.2 (by decide)⟩ ⟨fP6_2.1, Nat.le_trans fP6_2.2 (by decide)⟩ ⟨fP9_2.1, Nat.le_trans fP9_2.2 (by decide)⟩ ⟨fP3_3.1, Nat.le_trans fP3_3.2 (by decide)⟩ ⟨fP6_3.1, Nat.le_trans fP6_3.2 (by decide)⟩ ⟨fP9_3.1, Nat.le_trans fP9_3.2 (by decide)⟩ (own_g0 (a4 := 0) (a5 := 0) hP3_0 hP3_1 hP3_2 hP3_3) (own_g0 (a4 := 0) (a5 := 0) hP6_0 hP6_1 hP6_2 hP6_3) (own_g0 (a4 := 0) (a5 := 0) hP9_0 hP9_1 hP9_2 hP9_3) (Nat.le_trans (own_ba (own_ba (own_coL p0 (1 : Int32)).2 (own_bm (own_coL p0 (2 : Int32)).2 hsL.2)) (own_bm (own_bm (own_coL p0 (3 : Int32)).2 hsL.2) hsL.2)) (by decide)) (Nat.le_trans (own_ba (own_ba (own_coL p1 (1 : Int32)).2 (own_bm (own_coL p1 (2 : Int32)).2 hsL.2)) (own_bm (own_bm (own_coL p1 (3 : Int32)).2 hsL.2) hsL.2)) (by decide)) (Nat.le_trans (own_ba (own_ba (own_coL p2 (1 : Int32)).2 (own_bm (own_coL p2 (2 : Int32)).2 hsL.2)) (own_bm (own_bm (own_coL p2 (3 : Int32)).2 hsL.2) hsL.2)) (by decide))) hZ w_33 w_15 (by decide) (by decide)) q36a q36c (g := (mkF m 83 #[.val (.long p0), nS, .val (.long p1), nS, .val (.long p2), nS, .val (.int p3), .val (.int p4), .val (.long sv), nS, .val (.ref b1), .val (.ref b12), .val (.ref b24), nD d35, nS, nU, nU, nU, nU] [(.ref b24), (.double d35), (.ref b12)])) rfl (by rw [hml]; rfl) (Steps.refl _) (argsL := [(.double d35), (.ref b24)]) (rest := []) (lenOf pd_2 rfl) rfl (by show 2 * 0 + _ ≤ _; exact Nat.le_of_eq rfl) (hb hby at_83) (fun _ _ => ⟨rfl, e24, (by decide : 3 + 0 ≤ _), (by decide : 27 + 0 ≤ _)⟩)
    dsimp only [Pt.U, Pt.locs, Pt.cells, Pt.slots] at X36 l36 y36 z36 st36 hQ36
    rw [l36, y36, z36] at X36
    obtain ⟨N36, KK36, rfl, q36_0, q36_1, q36_2, q36_3, q36_4, q36_5, I36_0, I36_1, I36_2, I36_3, I36_4, I36_5, VV36, hI36_0, fI36_0, hI36_1, fI36_1, hI36_2, fI36_2, hI36_3, fI36_3, hI36_4, fI36_4, hI36_5, fI36_5⟩ := hQ36
    have NA36 := Fr.app NA17 N36
    have f37 := f27.keep KK36 (ninS ne25 nin0)
    have f38 := f28.keep KK36
    have f39 := f29.keep KK36 (ninS ne26 nin0)
    have f40 := f30.keep KK36 (ninS ne26 nin0)
    have f41 := f31.keep KK36 (ninS ne26 nin0)
    have K43 : Keep h0 T36.heap [] := K32.trans KK36 (allS (Or.inr sz_b24) all0)
    have Z43 : n0 ≤ T36.heap.size := Nat.le_trans Z32 KK36.1
    refine G2 st36 ?_
    show Goes _ _ _ _ _ _ _ (T36.setTop (mkF m 86 _ []))
    refine G1 (fun _ k => XS.iconst X36.here hx rfl (hb hby at_86) k) ?_
    refine G1 (fun _ k => XS.iload X36.here hx rfl (hb hby at_87) rfl  k) ?_
    refine G1 (fun _ k => XS.bipush X36.here hx rfl (hb hby at_89) k) ?_
    obtain ⟨_, _, ⟨T44, L44, k44, n44⟩, -, X44, ⟨Lc44, hQ44, l44, y44, z44⟩, st44⟩ := Jvm.LawKit.callS X36 hx (y := (⟨"java/lang/Math", "min", "(II)I"⟩ : MethodName)) hown (mvT hZ w_50) (mvT hZ w_42) (mvT hZ w_36) (mvT hZ w_43) (by decide) (backOf (W := 1) (rm8 l Z a0 hw [] p4 (16 : Int32) T36.heap n0 Z43) hZ w_43 w_36 (by decide) (by decide)) (g := (mkF m 91 #[.val (.long p0), nS, .val (.long p1), nS, .val (.long p2), nS, .val (.int p3), .val (.int p4), .val (.long sv), nS, .val (.ref b1), .val (.ref b12), .val (.ref b24), nD d35, nS, nU, nU, nU, nU] [(.int (16 : Int32)), (.int p4), (.int (0 : Int32))])) rfl (by rw [hml]; rfl) (argsL := [(.int p4), (.int (16 : Int32))]) (rest := [(.int (0 : Int32))]) (lenOf pd_5 rfl) rfl (by show 2 * 0 + _ ≤ _; exact Nat.le_of_eq rfl) (hb hby at_91) (fun _ _ => ⟨rfl, rfl, (by decide : 3 + 0 ≤ _), (by decide : 27 + 0 ≤ _)⟩)
    dsimp only [Pt.U, Pt.locs, Pt.cells, Pt.slots] at X44 l44 y44 z44 st44 hQ44
    rw [l44, y44, z44] at X44
    obtain ⟨N44, eh44, hR44⟩ := hQ44
    have NA44 := Fr.app NA36 N44
    obtain rfl := hR44
    refine G1 st44 ?_
    show Goes _ _ _ _ _ _ _ (T44.setTop (mkF m 94 _ [(.int (own_mn p4 (16 : Int32))), (.int (0 : Int32))]))
    obtain ⟨_, _, ⟨T45, L45, k45, n45⟩, -, X45, ⟨Lc45, hQ45, l45, y45, z45⟩, st45⟩ := Jvm.LawKit.callS X44 hx (y := (⟨"java/lang/Math", "max", "(II)I"⟩ : MethodName)) hown (mvT hZ w_51) (mvT hZ w_52) (mvT hZ w_36) (mvT hZ w_53) (by decide) (backOf (W := 0) (rm9 l Z a0 hw [] (0 : Int32) (own_mn p4 (16 : Int32)) T36.heap n0 Z43) hZ w_53 w_36 (by decide) (by decide)) (g := (mkF m 94 #[.val (.long p0), nS, .val (.long p1), nS, .val (.long p2), nS, .val (.int p3), .val (.int p4), .val (.long sv), nS, .val (.ref b1), .val (.ref b12), .val (.ref b24), nD d35, nS, nU, nU, nU, nU] [(.int (own_mn p4 (16 : Int32))), (.int (0 : Int32))])) rfl (by rw [hml]; rfl) (argsL := [(.int (0 : Int32)), (.int (own_mn p4 (16 : Int32)))]) (rest := []) (lenOf pd_5 rfl) rfl (by show 2 * 0 + _ ≤ _; exact Nat.le_of_eq rfl) (hb hby at_94) (fun _ _ => ⟨rfl, eh44, (by decide : 3 + 0 ≤ _), (by decide : 27 + 0 ≤ _)⟩)
    dsimp only [Pt.U, Pt.locs, Pt.cells, Pt.slots] at X45 l45 y45 z45 st45 hQ45
    rw [l45, y45, z45] at X45
    obtain ⟨N45, eh45, hR45⟩ := hQ45
    have NA45 := Fr.app NA44 N45
    obtain rfl := hR45
    refine G1 st45 ?_
    show Goes _ _ _ _ _ _ _ (T45.setTop (mkF m 97 _ [(.int (own_mx (0 : Int32) (own_mn p4 (16 : Int32))))]))
    refine G1 (fun _ k => XS.i2l X45.here hx rfl (hb hby at_97) rfl k) ?_
    show Goes _ _ _ _ _ _ _ (T45.setTop (mkF m 98 _ [(.long ((own_mx (0 : Int32) (own_mn p4 (16 : Int32))).toInt64))]))
    refine G1 (fun _ k => XS.lstore X45.here hx rfl (hb hby at_98) rfl (l' := #[.val (.long p0), nS, .val (.long p1), nS, .val (.long p2), nS, .val (.int p3), .val (.int p4), .val (.long sv), nS, .val (.ref b1), .val (.ref b12), .val (.ref b24), nD d35, nS, .val (.long ((own_mx (0 : Int32) (own_mn p4 (16 : Int32))).toInt64)), nS, nU, nU]) rfl k) ?_
    show Goes _ _ _ _ _ _ _ (T45.setTop (mkF m 100 _ []))
    refine G1 (fun _ k => XS.lload X45.here hx rfl (hb hby at_100) rfl  k) ?_
    refine G1 (fun _ k => XS.lload X45.here hx rfl (hb hby at_102) rfl  k) ?_
    refine G1 (fun _ k => XS.lmul X45.here hx rfl (hb hby at_104) rfl k) ?_
    show Goes _ _ _ _ _ _ _ (T45.setTop (mkF m 105 _ [(.long (((own_mx (0 : Int32) (own_mn p4 (16 : Int32))).toInt64) * sv))]))
    refine G1 (fun _ k => XS.lstore X45.here hx rfl (hb hby at_105) rfl (l' := #[.val (.long p0), nS, .val (.long p1), nS, .val (.long p2), nS, .val (.int p3), .val (.int p4), .val (.long sv), nS, .val (.ref b1), .val (.ref b12), .val (.ref b24), nD d35, nS, .val (.long ((own_mx (0 : Int32) (own_mn p4 (16 : Int32))).toInt64)), nS, .val (.long (((own_mx (0 : Int32) (own_mn p4 (16 : Int32))).toInt64) * sv)), nS]) rfl k) ?_
    show Goes _ _ _ _ _ _ _ (T45.setTop (mkF m 107 #[.val (.long p0), nS, .val (.long p1), nS, .val (.long p2), nS, .val (.int p3), .val (.int p4), .val (.long sv), nS, .val (.ref b1), .val (.ref b12), .val (.ref b24), nD d35, nS, .val (.long ((own_mx (0 : Int32) (own_mn p4 (16 : Int32))).toInt64)), nS, .val (.long (((own_mx (0 : Int32) (own_mn p4 (16 : Int32))).toInt64) * sv)), nS] []))
    have hkL := own_kL hkc
    have htL0 := own_L.mul hkL hsL (by decide)
    generalize hg_tv : (((own_mx (0 : Int32) (own_mn p4 (16 : Int32))).toInt64) * sv) = tv
    show Goes _ _ _ _ _ _ _ (T45.setTop (mkF m 107 #[.val (.long p0), nS, .val (.long p1), nS, .val (.long p2), nS, .val (.int p3), .val (.int p4), .val (.long sv), nS, .val (.ref b1), .val (.ref b12), .val (.ref b24), nD d35, nS, .val (.long ((own_mx (0 : Int32) (own_mn p4 (16 : Int32))).toInt64)), nS, .val (.long tv), nS] []))
    rw [hg_tv] at htL0
    have htt : tv.toInt = kc * sv.toInt := htL0.1
    have htL : own_L tv tv.toInt 256 := ⟨rfl, by rw [htt]; exact htL0.2⟩
    refine G1 (fun _ k => XS.aload X45.here hx rfl (hb hby at_107) rfl rfl k) ?_
    refine G1 (fun _ k => XS.iconst X45.here hx rfl (hb hby at_109) k) ?_
    refine G1 (fun _ k => XS.lloadN X45.here hx rfl (hb hby at_110) rfl  k) ?_
    refine G1 (fun _ k => XS.lload X45.here hx rfl (hb hby at_111) rfl  k) ?_
    show Goes _ _ _ _ _ _ _ (T45.setTop (mkF m 113 _ [(.long sv), (.long p0), (.int (0 : Int32)), (.ref b24)]))
    refine G1 (fun _ k => XS.lload X45.here hx rfl (hb hby at_113) rfl  k) ?_
    obtain ⟨_, _, ⟨T46, L46, k46, n46⟩, -, X46, ⟨Lc46, hQ46, l46, y46, z46⟩, st46⟩ := Jvm.LawKit.callS X45 hx (y := (⟨"com/example/orbitloom/orbitloom/orbits/TrackAtPinLaw", "check", "([DIJJJ)Z"⟩ : MethodName)) hown (mvT hZ w_54) (mvT hZ w_55) (mvT hZ w_3) (mvT hZ w_56) (by decide) (backOf (W := 0) (rm10_0 l Z a0 hw [] b24 p0 sv tv k24 q36_0 q36_1 q36_2 q36_3 q36_4 q36_5 I36_0 I36_3 T36.heap n0 Z43 VV36 hsL htL ⟨fI36_0.1, Nat.le_trans fI36_0.2 (by decide)⟩ ⟨fI36_3.1, Nat.le_trans fI36_3.2 (by decide)⟩ (fun _ => own_fin0a (a4 := 0) (a5 := 0) hP3_0 hP3_1 hP3_2 hP3_3 hI36_0 hI36_3 htt) (fun z => absurd z (own_noex htt hs1 hseg))) hZ w_56 w_3 (by decide) (by decide)) (g := (mkF m 115 #[.val (.long p0), nS, .val (.long p1), nS, .val (.long p2), nS, .val (.int p3), .val (.int p4), .val (.long sv), nS, .val (.ref b1), .val (.ref b12), .val (.ref b24), nD d35, nS, .val (.long ((own_mx (0 : Int32) (own_mn p4 (16 : Int32))).toInt64)), nS, .val (.long tv), nS] [(.long tv), (.long sv), (.long p0), (.int (0 : Int32)), (.ref b24)])) rfl (by rw [hml]; rfl) (argsL := [(.ref b24), (.int (0 : Int32)), (.long p0), (.long sv), (.long tv)]) (rest := []) (lenOf pd_6 rfl) rfl (by show 2 * 0 + _ ≤ _; exact Nat.le_of_eq rfl) (hb hby at_115) (fun _ _ => ⟨rfl, eh45, (by decide : 3 + 0 ≤ _), (by decide : 27 + 0 ≤ _)⟩)
    dsimp only [Pt.U, Pt.locs, Pt.cells, Pt.slots] at X46 l46 y46 z46 st46 hQ46
    rw [l46, y46, z46] at X46
    obtain ⟨N46, eh46, rfl⟩ := hQ46
    have NA46 := Fr.app NA45 N46
    refine G1 st46 ?_
    show Goes _ _ _ _ _ _ _ (T46.setTop (mkF m 118 _ [(.int (1 : Int32))]))
    refine G1 (fun _ k => XS.ifNo X46.here hx rfl (hb hby at_118) rfl ((if0 _ _).trans (feq (by decide : ¬ ((1 : Int32) = (0 : Int32)))).1) k) ?_
    show Goes _ _ _ _ _ _ _ (T46.setTop (mkF m 121 _ []))
    refine G1 (fun _ k => XS.aload X46.here hx rfl (hb hby at_121) rfl rfl k) ?_
    refine G1 (fun _ k => XS.iconst X46.here hx rfl (hb hby at_123) k) ?_
    refine G1 (fun _ k => XS.lloadN X46.here hx rfl (hb hby at_124) rfl  k) ?_
    refine G1 (fun _ k => XS.lload X46.here hx rfl (hb hby at_125) rfl  k) ?_
    show Goes _ _ _ _ _ _ _ (T46.setTop (mkF m 127 _ [(.long sv), (.long p1), (.int (1 : Int32)), (.ref b24)]))
    refine G1 (fun _ k => XS.lload X46.here hx rfl (hb hby at_127) rfl  k) ?_
    obtain ⟨_, _, ⟨T47, L47, k47, n47⟩, -, X47, ⟨Lc47, hQ47, l47, y47, z47⟩, st47⟩ := Jvm.LawKit.callS X46 hx (y := (⟨"com/example/orbitloom/orbitloom/orbits/TrackAtPinLaw", "check", "([DIJJJ)Z"⟩ : MethodName)) hown (mvT hZ w_54) (mvT hZ w_55) (mvT hZ w_3) (mvT hZ w_56) (by decide) (backOf (W := 0) (rm10_1 l Z a0 hw [] b24 p1 sv tv k24 q36_0 q36_1 q36_2 q36_3 q36_4 q36_5 I36_1 I36_4 T36.heap n0 Z43 VV36 hsL htL ⟨fI36_1.1, Nat.le_trans fI36_1.2 (by decide)⟩ ⟨fI36_4.1, Nat.le_trans fI36_4.2 (by decide)⟩ (fun _ => own_fin0a (a4 := 0) (a5 := 0) hP6_0 hP6_1 hP6_2 hP6_3 hI36_1 hI36_4 htt) (fun z => absurd z (own_noex htt hs1 hseg))) hZ w_56 w_3 (by decide) (by decide)) (g := (mkF m 129 #[.val (.long p0), nS, .val (.long p1), nS, .val (.long p2), nS, .val (.int p3), .val (.int p4), .val (.long sv), nS, .val (.ref b1), .val (.ref b12), .val (.ref b24), nD d35, nS, .val (.long ((own_mx (0 : Int32) (own_mn p4 (16 : Int32))).toInt64)), nS, .val (.long tv), nS] [(.long tv), (.long sv), (.long p1), (.int (1 : Int32)), (.ref b24)])) rfl (by rw [hml]; rfl) (argsL := [(.ref b24), (.int (1 : Int32)), (.long p1), (.long sv), (.long tv)]) (rest := []) (lenOf pd_6 rfl) rfl (by show 2 * 0 + _ ≤ _; exact Nat.le_of_eq rfl) (hb hby at_129) (fun _ _ => ⟨rfl, eh46, (by decide : 3 + 0 ≤ _), (by decide : 27 + 0 ≤ _)⟩)
    dsimp only [Pt.U, Pt.locs, Pt.cells, Pt.slots] at X47 l47 y47 z47 st47 hQ47
    rw [l47, y47, z47] at X47
    obtain ⟨N47, eh47, rfl⟩ := hQ47
    have NA47 := Fr.app NA46 N47
    refine G1 st47 ?_
    show Goes _ _ _ _ _ _ _ (T47.setTop (mkF m 132 _ [(.int (1 : Int32))]))
    refine G1 (fun _ k => XS.ifNo X47.here hx rfl (hb hby at_132) rfl ((if0 _ _).trans (feq (by decide : ¬ ((1 : Int32) = (0 : Int32)))).1) k) ?_
    show Goes _ _ _ _ _ _ _ (T47.setTop (mkF m 135 _ []))
    refine G1 (fun _ k => XS.aload X47.here hx rfl (hb hby at_135) rfl rfl k) ?_
    refine G1 (fun _ k => XS.iconst X47.here hx rfl (hb hby at_137) k) ?_
    refine G1 (fun _ k => XS.lload X47.here hx rfl (hb hby at_138) rfl  k) ?_
    refine G1 (fun _ k => XS.lload X47.here hx rfl (hb hby at_140) rfl  k) ?_
    show Goes _ _ _ _ _ _ _ (T47.setTop (mkF m 142 #[.val (.long p0), nS, .val (.long p1), nS, .val (.long p2), nS, .val (.int p3), .val (.int p4), .val (.long sv), nS, .val (.ref b1), .val (.ref b12), .val (.ref b24), nD d35, nS, .val (.long ((own_mx (0 : Int32) (own_mn p4 (16 : Int32))).toInt64)), nS, .val (.long tv), nS] [(.long sv), (.long p2), (.int (2 : Int32)), (.ref b24)]))
    refine G1 (fun _ k => XS.lload X47.here hx rfl (hb hby at_142) rfl  k) ?_
    obtain ⟨_, _, ⟨T48, L48, k48, n48⟩, -, X48, ⟨Lc48, hQ48, l48, y48, z48⟩, st48⟩ := Jvm.LawKit.callS X47 hx (y := (⟨"com/example/orbitloom/orbitloom/orbits/TrackAtPinLaw", "check", "([DIJJJ)Z"⟩ : MethodName)) hown (mvT hZ w_54) (mvT hZ w_55) (mvT hZ w_3) (mvT hZ w_56) (by decide) (backOf (W := 0) (rm10_2 l Z a0 hw [] b24 p2 sv tv k24 q36_0 q36_1 q36_2 q36_3 q36_4 q36_5 I36_2 I36_5 T36.heap n0 Z43 VV36 hsL htL ⟨fI36_2.1, Nat.le_trans fI36_2.2 (by decide)⟩ ⟨fI36_5.1, Nat.le_trans fI36_5.2 (by decide)⟩ (fun _ => own_fin0a (a4 := 0) (a5 := 0) hP9_0 hP9_1 hP9_2 hP9_3 hI36_2 hI36_5 htt) (fun z => absurd z (own_noex htt hs1 hseg))) hZ w_56 w_3 (by decide) (by decide)) (g := (mkF m 144 #[.val (.long p0), nS, .val (.long p1), nS, .val (.long p2), nS, .val (.int p3), .val (.int p4), .val (.long sv), nS, .val (.ref b1), .val (.ref b12), .val (.ref b24), nD d35, nS, .val (.long ((own_mx (0 : Int32) (own_mn p4 (16 : Int32))).toInt64)), nS, .val (.long tv), nS] [(.long tv), (.long sv), (.long p2), (.int (2 : Int32)), (.ref b24)])) rfl (by rw [hml]; rfl) (argsL := [(.ref b24), (.int (2 : Int32)), (.long p2), (.long sv), (.long tv)]) (rest := []) (lenOf pd_6 rfl) rfl (by show 2 * 0 + _ ≤ _; exact Nat.le_of_eq rfl) (hb hby at_144) (fun _ _ => ⟨rfl, eh47, (by decide : 3 + 0 ≤ _), (by decide : 27 + 0 ≤ _)⟩)
    dsimp only [Pt.U, Pt.locs, Pt.cells, Pt.slots] at X48 l48 y48 z48 st48 hQ48
    rw [l48, y48, z48] at X48
    obtain ⟨N48, eh48, rfl⟩ := hQ48
    have NA48 := Fr.app NA47 N48
    refine G1 st48 ?_
    show Goes _ _ _ _ _ _ _ (T48.setTop (mkF m 147 _ [(.int (1 : Int32))]))
    refine G1 (fun _ k => XS.ifNo X48.here hx rfl (hb hby at_147) rfl ((if0 _ _).trans (feq (by decide : ¬ ((1 : Int32) = (0 : Int32)))).1) k) ?_
    show Goes _ _ _ _ _ _ _ (T48.setTop (mkF m 150 _ []))
    refine G1 (fun _ k => XS.iconst X48.here hx rfl (hb hby at_150) k) ?_
    refine G1 (fun _ k => XS.goto X48.here hx rfl (pc0 := 151) (pc' := 155) rfl (hb hby at_151) (by decide) (by decide) k) ?_
    show Goes _ _ _ _ _ _ _ (T48.setTop (mkF m 155 _ [(.int (1 : Int32))]))
    exact Goes.ret X48 hx (BodyLoose.notSynchronized Bd) Bd.returns rfl (Or.inl ⟨rfl, by simp, _, rfl⟩) (hb hby at_155) (by show Q0 Z p0 p1 p2 p3 p4 h0 n0 (some (.int (1 : Int32))) T48.heap _; rw [eh48]; exact ⟨rfl, NA48⟩) (by decide) (by decide)
  · replace hseg : 8 ≤ kc := Int.not_lt.mp hseg
    show Goes _ _ _ _ _ _ _ (T24.setTop (mkF m 77 #[.val (.long p0), nS, .val (.long p1), nS, .val (.long p2), nS, .val (.int p3), .val (.int p4), .val (.long sv), nS, .val (.ref b1), .val (.ref b12), .val (.ref b24), nD d35, nS, nU, nU, nU, nU] []))
    refine G1 (fun _ k => XS.aload X24.here hx rfl (hb hby at_77) rfl rfl k) ?_
    refine G1 (fun _ k => XS.dload X24.here hx rfl (hb hby at_79) rfl k) ?_
    refine G1 (fun _ k => XS.aload X24.here hx rfl (hb hby at_81) rfl rfl k) ?_
    obtain ⟨cq49, kq49, q49a, q49b, q49c⟩ := isOf hZ e24 f28
    obtain ⟨_, _, ⟨T49, L49, k49, n49⟩, -, X49, ⟨Lc49, hQ49, l49, y49, z49⟩, st49⟩ := X24.virtualBack hx (y := (⟨"com/example/orbitloom/orbitloom/orbits/Track", "at", "(D[D)V"⟩ : MethodName)) (z := (⟨"com/example/orbitloom/orbitloom/orbits/Track", "at", "(D[D)V"⟩ : MethodName)) hown (mvT hZ w_29) (mvT hZ w_30) (notFace_of_selects (args := #[]) (mvT hZ w_32)) (mvT hZ w_32) (mvT hZ w_31) (by decide) (backOf (W := 0) (rm5_1 l Z a0 hw [] b12 d35 b24 b1 k1 k24 d16 q3_0 q6_0 q9_0 q3_1 q6_1 q9_1 q3_2 q6_2 q9_2 q3_3 q6_3 q9_3 q3_4 q6_4 q9_4 q3_5 q6_5 q9_5 (0 : UInt64) (0 : UInt64) (0 : UInt64) (0 : UInt64) (0 : UInt64) (0 : UInt64) p4.toInt sv.toInt kc (kc - 8) P3_2 P6_2 P9_2 P3_3 P6_3 P9_3 P3_4 P6_4 P9_4 P3_5 P6_5 P9_5 ((own_co p0 (1 : Int32)).toInt + 3 * (own_co p0 (2 : Int32)).toInt * sv.toInt + 7 * (own_co p0 (3 : Int32)).toInt * sv.toInt * sv.toInt + sv.toInt * ((own_co p0 (4 : Int32)).toInt + (own_co p0 (5 : Int32)).toInt * sv.toInt)) ((own_co p1 (1 : Int32)).toInt + 3 * (own_co p1 (2 : Int32)).toInt * sv.toInt + 7 * (own_co p1 (3 : Int32)).toInt * sv.toInt * sv.toInt + sv.toInt * ((own_co p1 (4 : Int32)).toInt + (own_co p1 (5 : Int32)).toInt * sv.toInt)) ((own_co p2 (1 : Int32)).toInt + 3 * (own_co p2 (2 : Int32)).toInt * sv.toInt + 7 * (own_co p2 (3 : Int32)).toInt * sv.toInt * sv.toInt + sv.toInt * ((own_co p2 (4 : Int32)).toInt + (own_co p2 (5 : Int32)).toInt * sv.toInt)) h24 n0 Z32 f29 f30 f31 f27 V_b24 g_b24 ne26 ne25 fr35 fr16 hs1 (OwnF.Fr.i2d p4).2 hkc hseg rfl ⟨fP3_2.1, Nat.le_trans fP3_2.2 (by decide)⟩ ⟨fP6_2.1, Nat.le_trans fP6_2.2 (by decide)⟩ ⟨fP9_2.1, Nat.le_trans fP9_2.2 (by decide)⟩ ⟨fP3_3.1, Nat.le_trans fP3_3.2 (by decide)⟩ ⟨fP6_3.1, Nat.le_trans fP6_3.2 (by decide)⟩ ⟨fP9_3.1, Nat.le_trans fP9_3.2 (by decide)⟩ ⟨fP3_4.1, Nat.le_trans fP3_4.2 (by decide)⟩ ⟨fP6_4.1, Nat.le_trans fP6_4.2 (by decide)⟩ ⟨fP9_4.1, Nat.le_trans fP9_4.2 (by decide)⟩ ⟨fP3_5.1, Nat.le_trans fP3_5.2 (by decide)⟩ ⟨fP6_5.1, Nat.le_trans fP6_5.2 (by decide)⟩ ⟨fP9_5.1, Nat.le_trans fP9_5.2 (by decide)⟩ (own_g1 hP3_2 hP3_3 hP3_4 hP3_5) (own_g1 hP6_2 hP6_3 hP6_4 hP6_5) (own_g1 hP9_2 hP9_3 hP9_4 hP9_5) (Nat.le_trans (own_ba (own_ba (own_ba (own_coL p0 (1 : Int32)).2 (own_bm (own_bm (show (3 : Int).natAbs ≤ 3 by decide) (own_coL p0 (2 : Int32)).2) hsL.2)) (own_bm (own_bm (own_bm (show (7 : Int).natAbs ≤ 7 by decide) (own_coL p0 (3 : Int32)).2) hsL.2) hsL.2)) (own_bm hsL.2 (own_ba (own_coL p0 (4 : Int32)).2 (own_bm (own_coL p0 (5 : Int32)).2 hsL.2)))) (by decide)) (Nat.le_trans (own_ba (own_ba (own_ba (own_coL p1 (1 : Int32)).2 (own_bm (own_bm (show (3 : Int).natAbs ≤ 3 by decide) (own_coL p1 (2 : Int32)).2) hsL.2)) (own_bm (own_bm (own_bm (show (7 : Int).natAbs ≤ 7 by decide) (own_coL p1 (3 : Int32)).2) hsL.2) hsL.2)) (own_bm hsL.2 (own_ba (own_coL p1 (4 : Int32)).2 (own_bm (own_coL p1 (5 : Int32)).2 hsL.2)))) (by decide)) (Nat.le_trans (own_ba (own_ba (own_ba (own_coL p2 (1 : Int32)).2 (own_bm (own_bm (show (3 : Int).natAbs ≤ 3 by decide) (own_coL p2 (2 : Int32)).2) hsL.2)) (own_bm (own_bm (own_bm (show (7 : Int).natAbs ≤ 7 by decide) (own_coL p2 (3 : Int32)).2) hsL.2) hsL.2)) (own_bm hsL.2 (own_ba (own_coL p2 (4 : Int32)).2 (own_bm (own_coL p2 (5 : Int32)).2 hsL.2)))) (by decide))) hZ w_33 w_15 (by decide) (by decide)) q49a q49c (g := (mkF m 83 #[.val (.long p0), nS, .val (.long p1), nS, .val (.long p2), nS, .val (.int p3), .val (.int p4), .val (.long sv), nS, .val (.ref b1), .val (.ref b12), .val (.ref b24), nD d35, nS, nU, nU, nU, nU] [(.ref b24), (.double d35), (.ref b12)])) rfl (by rw [hml]; rfl) (Steps.refl _) (argsL := [(.double d35), (.ref b24)]) (rest := []) (lenOf pd_2 rfl) rfl (by show 2 * 0 + _ ≤ _; exact Nat.le_of_eq rfl) (hb hby at_83) (fun _ _ => ⟨rfl, e24, (by decide : 3 + 0 ≤ _), (by decide : 27 + 0 ≤ _)⟩)
    dsimp only [Pt.U, Pt.locs, Pt.cells, Pt.slots] at X49 l49 y49 z49 st49 hQ49
    rw [l49, y49, z49] at X49
    obtain ⟨N49, KK49, rfl, q49_0, q49_1, q49_2, q49_3, q49_4, q49_5, I49_0, I49_1, I49_2, I49_3, I49_4, I49_5, VV49, hI49_0, fI49_0, hI49_1, fI49_1, hI49_2, fI49_2, hI49_3, fI49_3, hI49_4, fI49_4, hI49_5, fI49_5⟩ := hQ49
    have NA49 := Fr.app NA17 N49
    have f50 := f27.keep KK49 (ninS ne25 nin0)
    have f51 := f28.keep KK49
    have f52 := f29.keep KK49 (ninS ne26 nin0)
    have f53 := f30.keep KK49 (ninS ne26 nin0)
    have f54 := f31.keep KK49 (ninS ne26 nin0)
    have K56 : Keep h0 T49.heap [] := K32.trans KK49 (allS (Or.inr sz_b24) all0)
    have Z56 : n0 ≤ T49.heap.size := Nat.le_trans Z32 KK49.1
    refine G2 st49 ?_
    show Goes _ _ _ _ _ _ _ (T49.setTop (mkF m 86 _ []))
    refine G1 (fun _ k => XS.iconst X49.here hx rfl (hb hby at_86) k) ?_
    refine G1 (fun _ k => XS.iload X49.here hx rfl (hb hby at_87) rfl  k) ?_
    refine G1 (fun _ k => XS.bipush X49.here hx rfl (hb hby at_89) k) ?_
    obtain ⟨_, _, ⟨T57, L57, k57, n57⟩, -, X57, ⟨Lc57, hQ57, l57, y57, z57⟩, st57⟩ := Jvm.LawKit.callS X49 hx (y := (⟨"java/lang/Math", "min", "(II)I"⟩ : MethodName)) hown (mvT hZ w_50) (mvT hZ w_42) (mvT hZ w_36) (mvT hZ w_43) (by decide) (backOf (W := 1) (rm8 l Z a0 hw [] p4 (16 : Int32) T49.heap n0 Z56) hZ w_43 w_36 (by decide) (by decide)) (g := (mkF m 91 #[.val (.long p0), nS, .val (.long p1), nS, .val (.long p2), nS, .val (.int p3), .val (.int p4), .val (.long sv), nS, .val (.ref b1), .val (.ref b12), .val (.ref b24), nD d35, nS, nU, nU, nU, nU] [(.int (16 : Int32)), (.int p4), (.int (0 : Int32))])) rfl (by rw [hml]; rfl) (argsL := [(.int p4), (.int (16 : Int32))]) (rest := [(.int (0 : Int32))]) (lenOf pd_5 rfl) rfl (by show 2 * 0 + _ ≤ _; exact Nat.le_of_eq rfl) (hb hby at_91) (fun _ _ => ⟨rfl, rfl, (by decide : 3 + 0 ≤ _), (by decide : 27 + 0 ≤ _)⟩)
    dsimp only [Pt.U, Pt.locs, Pt.cells, Pt.slots] at X57 l57 y57 z57 st57 hQ57
    rw [l57, y57, z57] at X57
    obtain ⟨N57, eh57, hR57⟩ := hQ57
    have NA57 := Fr.app NA49 N57
    obtain rfl := hR57
    refine G1 st57 ?_
    show Goes _ _ _ _ _ _ _ (T57.setTop (mkF m 94 _ [(.int (own_mn p4 (16 : Int32))), (.int (0 : Int32))]))
    obtain ⟨_, _, ⟨T58, L58, k58, n58⟩, -, X58, ⟨Lc58, hQ58, l58, y58, z58⟩, st58⟩ := Jvm.LawKit.callS X57 hx (y := (⟨"java/lang/Math", "max", "(II)I"⟩ : MethodName)) hown (mvT hZ w_51) (mvT hZ w_52) (mvT hZ w_36) (mvT hZ w_53) (by decide) (backOf (W := 0) (rm9 l Z a0 hw [] (0 : Int32) (own_mn p4 (16 : Int32)) T49.heap n0 Z56) hZ w_53 w_36 (by decide) (by decide)) (g := (mkF m 94 #[.val (.long p0), nS, .val (.long p1), nS, .val (.long p2), nS, .val (.int p3), .val (.int p4), .val (.long sv), nS, .val (.ref b1), .val (.ref b12), .val (.ref b24), nD d35, nS, nU, nU, nU, nU] [(.int (own_mn p4 (16 : Int32))), (.int (0 : Int32))])) rfl (by rw [hml]; rfl) (argsL := [(.int (0 : Int32)), (.int (own_mn p4 (16 : Int32)))]) (rest := []) (lenOf pd_5 rfl) rfl (by show 2 * 0 + _ ≤ _; exact Nat.le_of_eq rfl) (hb hby at_94) (fun _ _ => ⟨rfl, eh57, (by decide : 3 + 0 ≤ _), (by decide : 27 + 0 ≤ _)⟩)
    dsimp only [Pt.U, Pt.locs, Pt.cells, Pt.slots] at X58 l58 y58 z58 st58 hQ58
    rw [l58, y58, z58] at X58
    obtain ⟨N58, eh58, hR58⟩ := hQ58
    have NA58 := Fr.app NA57 N58
    obtain rfl := hR58
    refine G1 st58 ?_
    show Goes _ _ _ _ _ _ _ (T58.setTop (mkF m 97 _ [(.int (own_mx (0 : Int32) (own_mn p4 (16 : Int32))))]))
    refine G1 (fun _ k => XS.i2l X58.here hx rfl (hb hby at_97) rfl k) ?_
    show Goes _ _ _ _ _ _ _ (T58.setTop (mkF m 98 _ [(.long ((own_mx (0 : Int32) (own_mn p4 (16 : Int32))).toInt64))]))
    refine G1 (fun _ k => XS.lstore X58.here hx rfl (hb hby at_98) rfl (l' := #[.val (.long p0), nS, .val (.long p1), nS, .val (.long p2), nS, .val (.int p3), .val (.int p4), .val (.long sv), nS, .val (.ref b1), .val (.ref b12), .val (.ref b24), nD d35, nS, .val (.long ((own_mx (0 : Int32) (own_mn p4 (16 : Int32))).toInt64)), nS, nU, nU]) rfl k) ?_
    show Goes _ _ _ _ _ _ _ (T58.setTop (mkF m 100 _ []))
    refine G1 (fun _ k => XS.lload X58.here hx rfl (hb hby at_100) rfl  k) ?_
    refine G1 (fun _ k => XS.lload X58.here hx rfl (hb hby at_102) rfl  k) ?_
    refine G1 (fun _ k => XS.lmul X58.here hx rfl (hb hby at_104) rfl k) ?_
    show Goes _ _ _ _ _ _ _ (T58.setTop (mkF m 105 _ [(.long (((own_mx (0 : Int32) (own_mn p4 (16 : Int32))).toInt64) * sv))]))
    refine G1 (fun _ k => XS.lstore X58.here hx rfl (hb hby at_105) rfl (l' := #[.val (.long p0), nS, .val (.long p1), nS, .val (.long p2), nS, .val (.int p3), .val (.int p4), .val (.long sv), nS, .val (.ref b1), .val (.ref b12), .val (.ref b24), nD d35, nS, .val (.long ((own_mx (0 : Int32) (own_mn p4 (16 : Int32))).toInt64)), nS, .val (.long (((own_mx (0 : Int32) (own_mn p4 (16 : Int32))).toInt64) * sv)), nS]) rfl k) ?_
    show Goes _ _ _ _ _ _ _ (T58.setTop (mkF m 107 #[.val (.long p0), nS, .val (.long p1), nS, .val (.long p2), nS, .val (.int p3), .val (.int p4), .val (.long sv), nS, .val (.ref b1), .val (.ref b12), .val (.ref b24), nD d35, nS, .val (.long ((own_mx (0 : Int32) (own_mn p4 (16 : Int32))).toInt64)), nS, .val (.long (((own_mx (0 : Int32) (own_mn p4 (16 : Int32))).toInt64) * sv)), nS] []))
    have hkL := own_kL hkc
    have htL0 := own_L.mul hkL hsL (by decide)
    generalize hg_tv : (((own_mx (0 : Int32) (own_mn p4 (16 : Int32))).toInt64) * sv) = tv
    show Goes _ _ _ _ _ _ _ (T58.setTop (mkF m 107 #[.val (.long p0), nS, .val (.long p1), nS, .val (.long p2), nS, .val (.int p3), .val (.int p4), .val (.long sv), nS, .val (.ref b1), .val (.ref b12), .val (.ref b24), nD d35, nS, .val (.long ((own_mx (0 : Int32) (own_mn p4 (16 : Int32))).toInt64)), nS, .val (.long tv), nS] []))
    rw [hg_tv] at htL0
    have htt : tv.toInt = kc * sv.toInt := htL0.1
    have htL : own_L tv tv.toInt 256 := ⟨rfl, by rw [htt]; exact htL0.2⟩
    refine G1 (fun _ k => XS.aload X58.here hx rfl (hb hby at_107) rfl rfl k) ?_
    refine G1 (fun _ k => XS.iconst X58.here hx rfl (hb hby at_109) k) ?_
    refine G1 (fun _ k => XS.lloadN X58.here hx rfl (hb hby at_110) rfl  k) ?_
    refine G1 (fun _ k => XS.lload X58.here hx rfl (hb hby at_111) rfl  k) ?_
    show Goes _ _ _ _ _ _ _ (T58.setTop (mkF m 113 _ [(.long sv), (.long p0), (.int (0 : Int32)), (.ref b24)]))
    refine G1 (fun _ k => XS.lload X58.here hx rfl (hb hby at_113) rfl  k) ?_
    obtain ⟨_, _, ⟨T59, L59, k59, n59⟩, -, X59, ⟨Lc59, hQ59, l59, y59, z59⟩, st59⟩ := Jvm.LawKit.callS X58 hx (y := (⟨"com/example/orbitloom/orbitloom/orbits/TrackAtPinLaw", "check", "([DIJJJ)Z"⟩ : MethodName)) hown (mvT hZ w_54) (mvT hZ w_55) (mvT hZ w_3) (mvT hZ w_56) (by decide) (backOf (W := 0) (rm10_0 l Z a0 hw [] b24 p0 sv tv k24 q49_0 q49_1 q49_2 q49_3 q49_4 q49_5 I49_0 I49_3 T49.heap n0 Z56 VV49 hsL htL ⟨fI49_0.1, Nat.le_trans fI49_0.2 (by decide)⟩ ⟨fI49_3.1, Nat.le_trans fI49_3.2 (by decide)⟩ (fun z => own_fin1e hP3_2 hP3_3 hP3_4 hP3_5 hI49_0 hI49_3 htt (own_is8 htt hs1 hseg z)) (fun _ => own_fin1a hP3_2 hP3_3 hP3_4 hP3_5 hI49_0 hI49_3 htt)) hZ w_56 w_3 (by decide) (by decide)) (g := (mkF m 115 #[.val (.long p0), nS, .val (.long p1), nS, .val (.long p2), nS, .val (.int p3), .val (.int p4), .val (.long sv), nS, .val (.ref b1), .val (.ref b12), .val (.ref b24), nD d35, nS, .val (.long ((own_mx (0 : Int32) (own_mn p4 (16 : Int32))).toInt64)), nS, .val (.long tv), nS] [(.long tv), (.long sv), (.long p0), (.int (0 : Int32)), (.ref b24)])) rfl (by rw [hml]; rfl) (argsL := [(.ref b24), (.int (0 : Int32)), (.long p0), (.long sv), (.long tv)]) (rest := []) (lenOf pd_6 rfl) rfl (by show 2 * 0 + _ ≤ _; exact Nat.le_of_eq rfl) (hb hby at_115) (fun _ _ => ⟨rfl, eh58, (by decide : 3 + 0 ≤ _), (by decide : 27 + 0 ≤ _)⟩)
    dsimp only [Pt.U, Pt.locs, Pt.cells, Pt.slots] at X59 l59 y59 z59 st59 hQ59
    rw [l59, y59, z59] at X59
    obtain ⟨N59, eh59, rfl⟩ := hQ59
    have NA59 := Fr.app NA58 N59
    refine G1 st59 ?_
    show Goes _ _ _ _ _ _ _ (T59.setTop (mkF m 118 _ [(.int (1 : Int32))]))
    refine G1 (fun _ k => XS.ifNo X59.here hx rfl (hb hby at_118) rfl ((if0 _ _).trans (feq (by decide : ¬ ((1 : Int32) = (0 : Int32)))).1) k) ?_
    show Goes _ _ _ _ _ _ _ (T59.setTop (mkF m 121 _ []))
    refine G1 (fun _ k => XS.aload X59.here hx rfl (hb hby at_121) rfl rfl k) ?_
    refine G1 (fun _ k => XS.iconst X59.here hx rfl (hb hby at_123) k) ?_
    refine G1 (fun _ k => XS.lloadN X59.here hx rfl (hb hby at_124) rfl  k) ?_
    refine G1 (fun _ k => XS.lload X59.here hx rfl (hb hby at_125) rfl  k) ?_
    show Goes _ _ _ _ _ _ _ (T59.setTop (mkF m 127 _ [(.long sv), (.long p1), (.int (1 : Int32)), (.ref b24)]))
    refine G1 (fun _ k => XS.lload X59.here hx rfl (hb hby at_127) rfl  k) ?_
    obtain ⟨_, _, ⟨T60, L60, k60, n60⟩, -, X60, ⟨Lc60, hQ60, l60, y60, z60⟩, st60⟩ := Jvm.LawKit.callS X59 hx (y := (⟨"com/example/orbitloom/orbitloom/orbits/TrackAtPinLaw", "check", "([DIJJJ)Z"⟩ : MethodName)) hown (mvT hZ w_54) (mvT hZ w_55) (mvT hZ w_3) (mvT hZ w_56) (by decide) (backOf (W := 0) (rm10_1 l Z a0 hw [] b24 p1 sv tv k24 q49_0 q49_1 q49_2 q49_3 q49_4 q49_5 I49_1 I49_4 T49.heap n0 Z56 VV49 hsL htL ⟨fI49_1.1, Nat.le_trans fI49_1.2 (by decide)⟩ ⟨fI49_4.1, Nat.le_trans fI49_4.2 (by decide)⟩ (fun z => own_fin1e hP6_2 hP6_3 hP6_4 hP6_5 hI49_1 hI49_4 htt (own_is8 htt hs1 hseg z)) (fun _ => own_fin1a hP6_2 hP6_3 hP6_4 hP6_5 hI49_1 hI49_4 htt)) hZ w_56 w_3 (by decide) (by decide)) (g := (mkF m 129 #[.val (.long p0), nS, .val (.long p1), nS, .val (.long p2), nS, .val (.int p3), .val (.int p4), .val (.long sv), nS, .val (.ref b1), .val (.ref b12), .val (.ref b24), nD d35, nS, .val (.long ((own_mx (0 : Int32) (own_mn p4 (16 : Int32))).toInt64)), nS, .val (.long tv), nS] [(.long tv), (.long sv), (.long p1), (.int (1 : Int32)), (.ref b24)])) rfl (by rw [hml]; rfl) (argsL := [(.ref b24), (.int (1 : Int32)), (.long p1), (.long sv), (.long tv)]) (rest := []) (lenOf pd_6 rfl) rfl (by show 2 * 0 + _ ≤ _; exact Nat.le_of_eq rfl) (hb hby at_129) (fun _ _ => ⟨rfl, eh59, (by decide : 3 + 0 ≤ _), (by decide : 27 + 0 ≤ _)⟩)
    dsimp only [Pt.U, Pt.locs, Pt.cells, Pt.slots] at X60 l60 y60 z60 st60 hQ60
    rw [l60, y60, z60] at X60
    obtain ⟨N60, eh60, rfl⟩ := hQ60
    have NA60 := Fr.app NA59 N60
    refine G1 st60 ?_
    show Goes _ _ _ _ _ _ _ (T60.setTop (mkF m 132 _ [(.int (1 : Int32))]))
    refine G1 (fun _ k => XS.ifNo X60.here hx rfl (hb hby at_132) rfl ((if0 _ _).trans (feq (by decide : ¬ ((1 : Int32) = (0 : Int32)))).1) k) ?_
    show Goes _ _ _ _ _ _ _ (T60.setTop (mkF m 135 _ []))
    refine G1 (fun _ k => XS.aload X60.here hx rfl (hb hby at_135) rfl rfl k) ?_
    refine G1 (fun _ k => XS.iconst X60.here hx rfl (hb hby at_137) k) ?_
    refine G1 (fun _ k => XS.lload X60.here hx rfl (hb hby at_138) rfl  k) ?_
    refine G1 (fun _ k => XS.lload X60.here hx rfl (hb hby at_140) rfl  k) ?_
    show Goes _ _ _ _ _ _ _ (T60.setTop (mkF m 142 #[.val (.long p0), nS, .val (.long p1), nS, .val (.long p2), nS, .val (.int p3), .val (.int p4), .val (.long sv), nS, .val (.ref b1), .val (.ref b12), .val (.ref b24), nD d35, nS, .val (.long ((own_mx (0 : Int32) (own_mn p4 (16 : Int32))).toInt64)), nS, .val (.long tv), nS] [(.long sv), (.long p2), (.int (2 : Int32)), (.ref b24)]))
    refine G1 (fun _ k => XS.lload X60.here hx rfl (hb hby at_142) rfl  k) ?_
    obtain ⟨_, _, ⟨T61, L61, k61, n61⟩, -, X61, ⟨Lc61, hQ61, l61, y61, z61⟩, st61⟩ := Jvm.LawKit.callS X60 hx (y := (⟨"com/example/orbitloom/orbitloom/orbits/TrackAtPinLaw", "check", "([DIJJJ)Z"⟩ : MethodName)) hown (mvT hZ w_54) (mvT hZ w_55) (mvT hZ w_3) (mvT hZ w_56) (by decide) (backOf (W := 0) (rm10_2 l Z a0 hw [] b24 p2 sv tv k24 q49_0 q49_1 q49_2 q49_3 q49_4 q49_5 I49_2 I49_5 T49.heap n0 Z56 VV49 hsL htL ⟨fI49_2.1, Nat.le_trans fI49_2.2 (by decide)⟩ ⟨fI49_5.1, Nat.le_trans fI49_5.2 (by decide)⟩ (fun z => own_fin1e hP9_2 hP9_3 hP9_4 hP9_5 hI49_2 hI49_5 htt (own_is8 htt hs1 hseg z)) (fun _ => own_fin1a hP9_2 hP9_3 hP9_4 hP9_5 hI49_2 hI49_5 htt)) hZ w_56 w_3 (by decide) (by decide)) (g := (mkF m 144 #[.val (.long p0), nS, .val (.long p1), nS, .val (.long p2), nS, .val (.int p3), .val (.int p4), .val (.long sv), nS, .val (.ref b1), .val (.ref b12), .val (.ref b24), nD d35, nS, .val (.long ((own_mx (0 : Int32) (own_mn p4 (16 : Int32))).toInt64)), nS, .val (.long tv), nS] [(.long tv), (.long sv), (.long p2), (.int (2 : Int32)), (.ref b24)])) rfl (by rw [hml]; rfl) (argsL := [(.ref b24), (.int (2 : Int32)), (.long p2), (.long sv), (.long tv)]) (rest := []) (lenOf pd_6 rfl) rfl (by show 2 * 0 + _ ≤ _; exact Nat.le_of_eq rfl) (hb hby at_144) (fun _ _ => ⟨rfl, eh60, (by decide : 3 + 0 ≤ _), (by decide : 27 + 0 ≤ _)⟩)
    dsimp only [Pt.U, Pt.locs, Pt.cells, Pt.slots] at X61 l61 y61 z61 st61 hQ61
    rw [l61, y61, z61] at X61
    obtain ⟨N61, eh61, rfl⟩ := hQ61
    have NA61 := Fr.app NA60 N61
    refine G1 st61 ?_
    show Goes _ _ _ _ _ _ _ (T61.setTop (mkF m 147 _ [(.int (1 : Int32))]))
    refine G1 (fun _ k => XS.ifNo X61.here hx rfl (hb hby at_147) rfl ((if0 _ _).trans (feq (by decide : ¬ ((1 : Int32) = (0 : Int32)))).1) k) ?_
    show Goes _ _ _ _ _ _ _ (T61.setTop (mkF m 150 _ []))
    refine G1 (fun _ k => XS.iconst X61.here hx rfl (hb hby at_150) k) ?_
    refine G1 (fun _ k => XS.goto X61.here hx rfl (pc0 := 151) (pc' := 155) rfl (hb hby at_151) (by decide) (by decide) k) ?_
    show Goes _ _ _ _ _ _ _ (T61.setTop (mkF m 155 _ [(.int (1 : Int32))]))
    exact Goes.ret X61 hx (BodyLoose.notSynchronized Bd) Bd.returns rfl (Or.inl ⟨rfl, by simp, _, rfl⟩) (hb hby at_155) (by show Q0 Z p0 p1 p2 p3 p4 h0 n0 (some (.int (1 : Int32))) T61.heap _; rw [eh61]; exact ⟨rfl, NA61⟩) (by decide) (by decide)
set_option maxRecDepth 65536 in
set_option maxHeartbeats 40000000 in
theorem comes_1 {Post : Tables → Env → Array Value → State → Outcome → State → Prop} (hpost : ∀ tb e args s v u, (limb_1_1.after args s (.returned v) u = true ∧ limb_1_2.after args s (.returned v) u = true ∧ True) → FrameEnd s (.returned v) u (Jvm.fieldLocs frame_1_writes args s ++ Jvm.arrayLocs frame_1_arrays args s ++ Jvm.staticLocs frame_1_statics s) 16 128 → Post tb e args s (.returned v) u) :
    ArmFor flags0 classFile x code maxLocals ret World_1 tables_1 room_1 Calls_1 rest_1 Pre_1 Post := by
  intro l hfl _ _ p e ha hc hk s m args below hf hA hF happ hP
  obtain ⟨hcalls, hrest, hpre⟩ := hP
  obtain ⟨-, -, -, hnamed, -, -, -, hat⟩ := (Spec.applies_iff hf).mp happ
  obtain ⟨hg, hn⟩ := and_e (Cond.before_iff.mp (show (Jvm.Cond.and given_1 narrow_1).before args s = true from hpre))
  obtain ⟨gg1, gg2⟩ := and_e hg
  obtain ⟨gg3, gg4⟩ := and_e gg2
  obtain ⟨gg5, gg6⟩ := and_e gg4
  obtain ⟨gg7, gg8⟩ := and_e gg6
  obtain ⟨gg9, gg10⟩ := and_e gg8
  obtain ⟨w0, w1, w2, w3, w4, rfl⟩ : ∃ w0 w1 w2 w3 w4 : Value, args = #[w0, w1, w2, w3, w4] := by
    have hs : args.size = 5 := by simpa [Cond.value, given_1] using gg1
    obtain ⟨L⟩ := args
    match L, hs with
    | [w0, w1, w2, w3, w4], _ => exact ⟨w0, w1, w2, w3, w4, rfl⟩
  have hw := fun d (hd : d ∈ tables_1) => atoms_spec (ws := Jvm.Cond.code x code maxLocals ret :: tables_1) hat d (List.mem_cons_of_mem _ hd)
  have hfit : Fit s := fun {y c} hc i hi => by
    obtain ⟨ha, rfl⟩ := Array.getElem?_eq_some_iff.mp hc
    have q := List.all_eq_true.mp ((Array.all_eq_true_iff_forall_mem.mp hF) _ (Array.getElem_mem ha)) i (List.mem_range.mpr hi)
    simpa [Array.getElem?_eq_getElem hi] using q
  obtain ⟨i0, ei0⟩ := isL_v gg3
  obtain rfl : w0 = (.long i0) := Option.some.inj ei0
  obtain ⟨i1, ei1⟩ := isL_v gg5
  obtain rfl : w1 = (.long i1) := Option.some.inj ei1
  obtain ⟨i2, ei2⟩ := isL_v gg7
  obtain rfl : w2 = (.long i2) := Option.some.inj ei2
  obtain ⟨i3, ei3⟩ := is_v gg9
  obtain rfl : w3 = (.int i3) := Option.some.inj ei3
  obtain ⟨i4, ei4⟩ := is_v gg10
  obtain rfl : w4 = (.int i4) := Option.some.inj ei4
  obtain ⟨n, o, h1, h2, h3, _, L, rfl, ⟨rfl, N⟩, hq⟩ := rm0 l s _ hw tables_1 i0 i1 i2 i3 i4 s.heap s.heap.size (Nat.le_refl _)  p e ha hc hk s m _ below hf ((Spec.applies_iff_loose hf).mp happ).1 ⟨rfl, State.Warmed39.refl s, rfl⟩ trivial
  refine ⟨n, _, h1, h2, h3, hpost _ _ _ _ _ _ ⟨Cond.after_iff.mpr rfl, Cond.after_iff.mpr (eq_i res_at (Term.int_eval (1)) rfl), trivial⟩ ⟨hq.1, hq.2.1, (hq.2.2.sift fun y hy => Or.inr (N y hy)).mono (by decide) (by decide)⟩⟩
theorem main_1_1 : Claimed_1_1 := comes_1 fun _ _ _ _ _ _ h hF => ⟨h.1, hF⟩
theorem main_1_2 : Claimed_1_2 := comes_1 fun _ _ _ _ _ _ h hF => ⟨h.2.1, hF⟩
end Jvm.Pilot.@@N@@
namespace Jvm.Pilot.@@N@@
open Jvm Jvm.ClassFile Sem Op Lib Jvm.Free Jvm.Stand Jvm.Pilot.@@N@@.Jvm.D
/-! MADE BY PROGRAM (witnessworld.py) out of the Statement's table words and the real class files: 10 classes; the members and pool entries that the words name. The judged class is class 1, her method 1. -/
namespace start1
open Jvm.ClassFile
def u (s : String) : CpInfo := .utf8 (stringToUtf16 s)
/-- a pool by its gaps: so many unusable entries, then the entry; so many at the end -/
def gap : Nat → List CpInfo → List CpInfo
  | 0, r => r
  | n + 1, r => .unusable :: gap n r
def poolList (es : List (Nat × CpInfo)) (last : Nat) : List CpInfo := es.foldr (fun e r => gap e.1 (e.2 :: r)) (gap last [])
def pool (es : List (Nat × CpInfo)) (last : Nat) : Array CpInfo := ⟨poolList es last⟩
def fileOf (pool : Array CpInfo) (this : Nat) (attrs : Array Attribute := #[]) (ms : Array MethodInfo := #[]) (fl : Nat := 33) (sup : Nat := 0) (ifs : Array Nat := #[]) (fds : Array FieldInfo := #[]) : ClassFile where
  minorVersion := 0
  majorVersion := 65
  constantPool := pool
  accessFlags := fl
  thisClass := this
  superClass := sup
  interfaces := ifs
  fields := fds
  methods := ms
  attributes := attrs
def plain (name : String) (sup : Option ClassId) : Class where
  name := name
  kind := .ordinary
  loader := none
  accessFlags := 33
  super := sup
  interfaces := #[]
  cf := none
  fields := #[]
  methods := #[]
  instanceTypes := #[]
  staticTypes := #[]
  resolved := #[]
  callSites := []
  init := .initialized
  statics := none
  mirror := none

def pool0 : Array CpInfo := pool [(5, u "<init>"), (0, u "()V"), (1, .class_ 10), (1, u "java/lang/Object")] 113

def k0c0 : Code := { maxStack := 0, maxLocals := 1, code := object_method_1_code, exceptionTable := #[], attributes := #[] }
def k0m0 : Method := { name := "<init>", desc := "()V", sig := { parameters := [], returnType := none }, accessFlags := 1, code := some k0c0 }
/-- java/lang/Object -/
def k0 : Class := { plain "java/lang/Object" none with
  accessFlags := 33
  interfaces := #[]
  cf := some (fileOf pool0 8 #[] #[{ accessFlags := 1, nameIndex := 5, descriptorIndex := 6, attributes := #[] }] 33 0 #[] #[])
  fields := #[]
  methods := #[k0m0]
  instanceTypes := #[]
  staticTypes := #[]
  resolved := Array.replicate 124 none
  statics := none }

def pool1 : Array CpInfo := pool [(2, .class_ 4), (1, u "java/lang/Object"), (0, u "<init>"), (0, u "()V"), (0, .methodref 8 9), (0, .class_ 10), (0, .nameAndType 11 12), (0, u "com/example/orbitloom/orbitloom/orbits/TrackAtPinLaw"), (0, u "fill"), (0, u "([DIJJ)V"), (0, .class_ 14), (0, u "com/example/orbitloom/orbitloom/orbits/Track"), (0, .methodref 13 16), (0, .nameAndType 5 17), (0, u "(D[D)V"), (0, .double 4620693217682128896), (1, .methodref 13 21), (0, .nameAndType 22 17), (0, u "at"), (0, .methodref 24 25), (0, .class_ 26), (0, .nameAndType 27 28), (0, u "java/lang/Math"), (0, u "min"), (0, u "(II)I"), (0, .methodref 24 30), (0, .nameAndType 31 28), (0, u "max"), (0, .methodref 8 33), (0, .nameAndType 34 35), (0, u "check"), (0, u "([DIJJJ)Z"), (0, .methodref 8 37), (0, .nameAndType 38 39), (0, u "co"), (0, u "(JI)J"), (0, .long 2), (1, .long 3), (1, .long 4), (1, .long 8), (1, .long 12), (1, .long 512), (1, .long 64), (1, .long 16), (1, .double 4647714815446351872), (1, .double 4634204016564240384), (3, u "law"), (0, u "(JJJII)Z")] 5

def k1m0 : Method := { name := "<init>", desc := "()V", sig := { parameters := [], returnType := none }, accessFlags := 1, code := none }
def k1c1 : Code := { maxStack := 8, maxLocals := 19, code := code, exceptionTable := #[], attributes := #[] }
def k1m1 : Method := { name := "law", desc := "(JJJII)Z", sig := { parameters := [.long, .long, .long, .int, .int], returnType := some .boolean }, accessFlags := 9, code := some k1c1 }
def k1c2 : Code := { maxStack := 5, maxLocals := 3, code := method_3_code, exceptionTable := #[], attributes := #[] }
def k1m2 : Method := { name := "co", desc := "(JI)J", sig := { parameters := [.long, .int], returnType := some .long }, accessFlags := 10, code := some k1c2 }
def k1c3 : Code := { maxStack := 10, maxLocals := 34, code := method_4_code, exceptionTable := #[], attributes := #[] }
def k1m3 : Method := { name := "fill", desc := "([DIJJ)V", sig := { parameters := [(.array .double), .int, .long, .long], returnType := none }, accessFlags := 10, code := some k1c3 }
def k1c4 : Code := { maxStack := 6, maxLocals := 26, code := method_5_code, exceptionTable := #[], attributes := #[] }
def k1m4 : Method := { name := "check", desc := "([DIJJJ)Z", sig := { parameters := [(.array .double), .int, .long, .long, .long], returnType := some .boolean }, accessFlags := 10, code := some k1c4 }
/-- com/example/orbitloom/orbitloom/orbits/TrackAtPinLaw -/
def k1 : Class := { plain "com/example/orbitloom/orbitloom/orbits/TrackAtPinLaw" (some 0) with
  accessFlags := 49
  interfaces := #[]
  cf := some (fileOf pool1 8 #[] #[{ accessFlags := 1, nameIndex := 5, descriptorIndex := 6, attributes := #[] }, { accessFlags := 9, nameIndex := 62, descriptorIndex := 63, attributes := #[] }, { accessFlags := 10, nameIndex := 38, descriptorIndex := 39, attributes := #[] }, { accessFlags := 10, nameIndex := 11, descriptorIndex := 12, attributes := #[] }, { accessFlags := 10, nameIndex := 34, descriptorIndex := 35, attributes := #[] }] 49 2 #[] #[])
  fields := #[]
  methods := #[k1m0, k1m1, k1m2, k1m3, k1m4]
  instanceTypes := #[]
  staticTypes := #[]
  resolved := Array.replicate 69 none
  statics := none }

def pool2 : Array CpInfo := pool [(1, .methodref 2 3), (0, .class_ 4), (0, .nameAndType 5 6), (0, u "java/lang/Object"), (0, u "<init>"), (0, u "()V"), (0, .class_ 8), (0, u "com/example/orbitloom/orbitloom/orbits/Track"), (7, .fieldref 7 17), (0, .nameAndType 18 19), (0, u "step"), (0, u "D"), (0, .fieldref 7 21), (0, .nameAndType 22 23), (0, u "samples"), (0, u "[D"), (0, .fieldref 7 25), (0, .nameAndType 26 27), (0, u "size"), (0, u "I"), (6, .methodref 35 36), (0, .class_ 37), (0, .nameAndType 38 39), (0, u "java/lang/Math"), (0, u "max"), (0, u "(DD)D"), (0, .methodref 35 41), (0, .nameAndType 42 39), (0, u "min"), (0, .methodref 35 44), (0, .nameAndType 42 45), (0, u "(II)I"), (0, .double 4611686018427387904), (1, .double 4613937818241073152), (1, .double 13835058055282163712), (1, .double 4618441417868443648), (1, .double 4616189618054758400), (1, .double 13841813454723219456), (1, u "STATE"), (2, u "(D[D)V"), (8, u "at")] 2

def k2c0 : Code := { maxStack := 4, maxLocals := 4, code := prog_63_method_1_code, exceptionTable := #[], attributes := #[] }
def k2m0 : Method := { name := "<init>", desc := "(D[D)V", sig := { parameters := [.double, (.array .double)], returnType := none }, accessFlags := 0, code := some k2c0 }
def k2c1 : Code := { maxStack := 8, maxLocals := 40, code := prog_63_method_5_code, exceptionTable := #[], attributes := #[] }
def k2m1 : Method := { name := "at", desc := "(D[D)V", sig := { parameters := [.double, (.array .double)], returnType := none }, accessFlags := 0, code := some k2c1 }
/-- com/example/orbitloom/orbitloom/orbits/Track -/
def k2 : Class := { plain "com/example/orbitloom/orbitloom/orbits/Track" (some 0) with
  accessFlags := 48
  interfaces := #[]
  cf := some (fileOf pool2 7 #[] #[{ accessFlags := 0, nameIndex := 5, descriptorIndex := 61, attributes := #[] }, { accessFlags := 0, nameIndex := 70, descriptorIndex := 61, attributes := #[] }] 48 2 #[] #[{ accessFlags := 24, nameIndex := 58, descriptorIndex := 27, attributes := #[] }, { accessFlags := 18, nameIndex := 18, descriptorIndex := 19, attributes := #[] }, { accessFlags := 18, nameIndex := 22, descriptorIndex := 23, attributes := #[] }, { accessFlags := 18, nameIndex := 26, descriptorIndex := 27, attributes := #[] }])
  fields := #[{ name := "STATE", type := .int, accessFlags := 24, slot := 0, constantValue := 0 }, { name := "step", type := .double, accessFlags := 18, slot := 0, constantValue := 0 }, { name := "samples", type := (.array .double), accessFlags := 18, slot := 1, constantValue := 0 }, { name := "size", type := .int, accessFlags := 18, slot := 2, constantValue := 0 }]
  methods := #[k2m0, k2m1]
  instanceTypes := #[.double, (.array .double), .int]
  staticTypes := #[.int]
  resolved := Array.replicate 73 none
  statics := none }

def pool3 : Array CpInfo := pool [(1, .class_ 2), (0, u "java/lang/Math"), (1, .class_ 6), (1, u "java/lang/Object"), (0, u "<init>"), (0, u "()V"), (43, u "(DD)D"), (45, .class_ 100), (1, u "java/lang/Math$RandomNumberGeneratorHolder"), (71, u "negativeZeroFloatBits"), (0, u "J"), (2, u "negativeZeroDoubleBits"), (21, u "max"), (2, u "min"), (43, u "$assertionsDisabled"), (0, u "Z"), (88, u "(II)I"), (2, u "twoToTheDoubleScaleDown"), (0, u "D"), (4, u "twoToTheDoubleScaleUp"), (9, u "E"), (3, u "PI"), (2, u "TAU"), (2, u "DEGREES_TO_RADIANS"), (0, u "RADIANS_TO_DEGREES")] 94

def k3m0 : Method := { name := "<init>", desc := "()V", sig := { parameters := [], returnType := none }, accessFlags := 2, code := none }
def k3c1 : Code := { maxStack := 2, maxLocals := 2, code := jdk_29_method_65_code, exceptionTable := #[], attributes := #[] }
def k3m1 : Method := { name := "max", desc := "(II)I", sig := { parameters := [.int, .int], returnType := some .int }, accessFlags := 9, code := some k3c1 }
def k3c2 : Code := { maxStack := 4, maxLocals := 4, code := jdk_29_method_68_code, exceptionTable := #[], attributes := #[] }
def k3m2 : Method := { name := "max", desc := "(DD)D", sig := { parameters := [.double, .double], returnType := some .double }, accessFlags := 9, code := some k3c2 }
def k3c3 : Code := { maxStack := 2, maxLocals := 2, code := jdk_29_method_69_code, exceptionTable := #[], attributes := #[] }
def k3m3 : Method := { name := "min", desc := "(II)I", sig := { parameters := [.int, .int], returnType := some .int }, accessFlags := 9, code := some k3c3 }
def k3c4 : Code := { maxStack := 4, maxLocals := 4, code := jdk_29_method_72_code, exceptionTable := #[], attributes := #[] }
def k3m4 : Method := { name := "min", desc := "(DD)D", sig := { parameters := [.double, .double], returnType := some .double }, accessFlags := 9, code := some k3c4 }
/-- java/lang/Math -/
def k3 : Class := { plain "java/lang/Math" (some 0) with
  accessFlags := 49
  interfaces := #[]
  cf := some (fileOf pool3 1 #[.nestMembers #[98]] #[{ accessFlags := 2, nameIndex := 7, descriptorIndex := 8, attributes := #[] }, { accessFlags := 9, nameIndex := 198, descriptorIndex := 335, attributes := #[] }, { accessFlags := 9, nameIndex := 198, descriptorIndex := 52, attributes := #[] }, { accessFlags := 9, nameIndex := 201, descriptorIndex := 335, attributes := #[] }, { accessFlags := 9, nameIndex := 201, descriptorIndex := 52, attributes := #[] }] 49 4 #[] #[{ accessFlags := 25, nameIndex := 354, descriptorIndex := 339, attributes := #[] }, { accessFlags := 25, nameIndex := 358, descriptorIndex := 339, attributes := #[] }, { accessFlags := 25, nameIndex := 361, descriptorIndex := 339, attributes := #[] }, { accessFlags := 26, nameIndex := 364, descriptorIndex := 339, attributes := #[] }, { accessFlags := 26, nameIndex := 365, descriptorIndex := 339, attributes := #[] }, { accessFlags := 26, nameIndex := 172, descriptorIndex := 173, attributes := #[] }, { accessFlags := 26, nameIndex := 176, descriptorIndex := 173, attributes := #[] }, { accessFlags := 8, nameIndex := 344, descriptorIndex := 339, attributes := #[] }, { accessFlags := 8, nameIndex := 338, descriptorIndex := 339, attributes := #[] }, { accessFlags := 4120, nameIndex := 245, descriptorIndex := 246, attributes := #[] }])
  fields := #[{ name := "E", type := .double, accessFlags := 25, slot := 0, constantValue := 0 }, { name := "PI", type := .double, accessFlags := 25, slot := 1, constantValue := 0 }, { name := "TAU", type := .double, accessFlags := 25, slot := 2, constantValue := 0 }, { name := "DEGREES_TO_RADIANS", type := .double, accessFlags := 26, slot := 3, constantValue := 0 }, { name := "RADIANS_TO_DEGREES", type := .double, accessFlags := 26, slot := 4, constantValue := 0 }, { name := "negativeZeroFloatBits", type := .long, accessFlags := 26, slot := 5, constantValue := 0 }, { name := "negativeZeroDoubleBits", type := .long, accessFlags := 26, slot := 6, constantValue := 0 }, { name := "twoToTheDoubleScaleUp", type := .double, accessFlags := 8, slot := 7, constantValue := 0 }, { name := "twoToTheDoubleScaleDown", type := .double, accessFlags := 8, slot := 8, constantValue := 0 }, { name := "$assertionsDisabled", type := .boolean, accessFlags := 4120, slot := 9, constantValue := 0 }]
  methods := #[k3m0, k3m1, k3m2, k3m3, k3m4]
  instanceTypes := #[]
  staticTypes := #[.double, .double, .double, .double, .double, .long, .long, .double, .double, .boolean]
  resolved := Array.replicate 460 none
  statics := none }

def pool4 : Array CpInfo := pool [(1, u "java/lang/Cloneable"), (0, .class_ 1), (0, u "java/lang/Object"), (0, .class_ 3)] 3

/-- java/lang/Cloneable -/
def k4 : Class := { plain "java/lang/Cloneable" (some 0) with
  accessFlags := 1537
  interfaces := #[]
  cf := some (fileOf pool4 2 #[] #[] 1537 4 #[] #[])
  fields := #[]
  methods := #[]
  instanceTypes := #[]
  staticTypes := #[]
  resolved := Array.replicate 8 none
  statics := none }

def pool5 : Array CpInfo := pool [(1, u "java/io/Serializable"), (0, .class_ 1), (0, u "java/lang/Object"), (0, .class_ 3)] 3

/-- java/io/Serializable -/
def k5 : Class := { plain "java/io/Serializable" (some 0) with
  accessFlags := 1537
  interfaces := #[]
  cf := some (fileOf pool5 2 #[] #[] 1537 4 #[] #[])
  fields := #[]
  methods := #[]
  instanceTypes := #[]
  staticTypes := #[]
  resolved := Array.replicate 8 none
  statics := none }

/-- the primitive byte -/
def k6 : Class := { plain "byte" none with kind := .primitive 'B', accessFlags := 0x411 }
/-- [B -/
def k7 : Class := { plain "[B" (some 0) with kind := .array 6 .byte, interfaces := #[4, 5], accessFlags := 1041 }

/-- the primitive int -/
def k8 : Class := { plain "int" none with kind := .primitive 'I', accessFlags := 0x411 }
/-- [I -/
def k9 : Class := { plain "[I" (some 0) with kind := .array 8 .int, interfaces := #[4, 5], accessFlags := 1041 }

/-- the primitive double -/
def k10 : Class := { plain "double" none with kind := .primitive 'D', accessFlags := 0x411 }
/-- [D -/
def k11 : Class := { plain "[D" (some 0) with kind := .array 10 .double, interfaces := #[4, 5], accessFlags := 1041 }

def heap : Heap := #[]
def classes : Array Class := #[k0, k1, k2, k3, k4, k5, k6, k7, k8, k9, k10, k11]
def interned : List (Array UInt16 × Addr) := []
def slotsUsed : Nat := 0
def theMethod : MethodId := ⟨1, 1⟩
def args0 : Array Value := #[.long 5, .long 5, .long 5, .int 5, .int 5]
def aboutOver (below : List Frame) : State where
  vm := { classes := classes, interned := interned.toArray }
  heap := heap
  slotsUsed := slotsUsed
  threads := #[{ frames := .invoking theMethod args0 :: below }]
def below0 : List Frame := [.native { method := ⟨0, 0⟩, args := #[] }]
def about1 : State := aboutOver below0
def p0 : Program := .bare "" "" ""
def e0 : Env := launch0.env 0 0 0
theorem w_frames : about1.frames = Frame.invoking theMethod args0 :: below0 := rfl
set_option maxRecDepth 65536 in
theorem w_args : argsFit about1.vm theMethod args0 = true := by decide +kernel
set_option maxRecDepth 65536 in
theorem w_heap : heapFits about1 = true := by decide +kernel
set_option maxRecDepth 65536 in
theorem w_runnable : about1.curStatus? = some .runnable := by decide +kernel
set_option maxRecDepth 65536 in
theorem w_alone : about1.alone = true := by decide +kernel
set_option maxRecDepth 65536 in
theorem w_named : about1.methodNamed? x = some theMethod := by decide +kernel
set_option maxRecDepth 65536 in
theorem w_hears : about1.hears theMethod below0 = true := by decide +kernel
set_option maxRecDepth 65536 in
theorem w_ripe : about1.ripe theMethod args0 below0 = true := by decide +kernel
theorem w_running : about1.status = .running := rfl
set_option maxRecDepth 65536 in
theorem w_room : about1.hasRoom e0.platform room_1 = true :=
  launch0.hasRoom_least _ room_1 (by decide +kernel) (by decide +kernel) (by decide +kernel) (by decide +kernel) (by decide +kernel) (by decide +kernel)
theorem allAtoms_all (ts : List Jvm.Cond) (a : Array Jvm.Value) (st : Jvm.State) : (allAtoms ts).before a st = ts.all (fun c => c.before a st) := by
  induction ts with
  | nil => rfl
  | cons c t ih =>
    show (Jvm.Cond.and c (allAtoms t)).before a st = _
    rw [Jvm.Cond.before_and, ih, List.all_cons]
def words1 : List Jvm.Cond := Jvm.Cond.code x code maxLocals ret :: tables_1
/-- a 'code' word, met by the world's own term for the bytes: nothing is compared byte by byte -/
theorem code_word {y : MethodName} {bytes : ByteArray} {mx : Nat} {rt : Option FieldType} {a : Array Value} {s : State} {m : MethodId} {meth : Method} {c : Code} (h1 : s.methodNamed? y = some m) (h2 : s.vm.method? m = some meth) (h3 : meth.code = some c) (h4 : c.code = bytes)
    (h5 : (c.maxLocals == mx && c.exceptionTable.isEmpty && decide (c.maxStack ≤ mostOperands) && decide (meth.sig.returnType = rt) && !meth.locks && decide (parseMethodDescriptor y.desc = some meth.sig)) = true) : (Jvm.Cond.code y bytes mx rt).before a s = true := by
  simp only [Bool.and_eq_true, beq_iff_eq, Bool.not_eq_true', decide_eq_true_eq] at h5
  obtain ⟨⟨⟨⟨⟨g1, g2⟩, g3⟩, g4⟩, g5⟩, g6⟩ := h5
  simp [Cond.before, Cond.holds, Cond.value, h1, h2, h3, h4, g1, g2, g3, g4, g5, g6]
def isCode : Jvm.Cond → Bool
  | .code _ _ _ _ => true
  | _ => false
theorem all_split {L : List Jvm.Cond} {P : Jvm.Cond → Bool} (h1 : L.all (fun c => isCode c || P c) = true) (h2 : ∀ c ∈ L.filter isCode, P c = true) : L.all P = true := by
  refine List.all_eq_true.mpr fun c hc => ?_
  have h := List.all_eq_true.mp h1 c hc
  rcases Bool.eq_false_or_eq_true (isCode c) with hi | hi
  · exact h2 c (List.mem_filter.mpr ⟨hc, hi⟩)
  · simpa [hi] using h
set_option maxRecDepth 65536 in
theorem w_c0 : (Jvm.Cond.code x code maxLocals ret).before args0 about1 = true := code_word (m := ⟨1, 1⟩) (meth := k1m1) (c := k1c1) (by decide +kernel) rfl rfl rfl (by decide +kernel)
set_option maxRecDepth 65536 in
theorem w_c1 : (Jvm.Cond.code ({ cls := "com/example/orbitloom/orbitloom/orbits/TrackAtPinLaw", name := "fill", desc := "([DIJJ)V" } : Jvm.MethodName) method_4_code (34 : Nat) (Option.none : Option Jvm.ClassFile.FieldType)).before args0 about1 = true := code_word (m := ⟨1, 3⟩) (meth := k1m3) (c := k1c3) (by decide +kernel) rfl rfl rfl (by decide +kernel)
set_option maxRecDepth 65536 in
theorem w_c2 : (Jvm.Cond.code ({ cls := "com/example/orbitloom/orbitloom/orbits/TrackAtPinLaw", name := "co", desc := "(JI)J" } : Jvm.MethodName) method_3_code (3 : Nat) (Option.some Jvm.ClassFile.FieldType.long)).before args0 about1 = true := code_word (m := ⟨1, 2⟩) (meth := k1m2) (c := k1c2) (by decide +kernel) rfl rfl rfl (by decide +kernel)
set_option maxRecDepth 65536 in
theorem w_c3 : (Jvm.Cond.code ({ cls := "com/example/orbitloom/orbitloom/orbits/Track", name := "<init>", desc := "(D[D)V" } : Jvm.MethodName) prog_63_method_1_code (4 : Nat) (Option.none : Option Jvm.ClassFile.FieldType)).before args0 about1 = true := code_word (m := ⟨2, 0⟩) (meth := k2m0) (c := k2c0) (by decide +kernel) rfl rfl rfl (by decide +kernel)
set_option maxRecDepth 65536 in
theorem w_c4 : (Jvm.Cond.code ({ cls := "java/lang/Object", name := "<init>", desc := "()V" } : Jvm.MethodName) object_method_1_code (1 : Nat) (Option.none : Option Jvm.ClassFile.FieldType)).before args0 about1 = true := code_word (m := ⟨0, 0⟩) (meth := k0m0) (c := k0c0) (by decide +kernel) rfl rfl rfl (by decide +kernel)
set_option maxRecDepth 65536 in
theorem w_c5 : (Jvm.Cond.code ({ cls := "com/example/orbitloom/orbitloom/orbits/Track", name := "at", desc := "(D[D)V" } : Jvm.MethodName) prog_63_method_5_code (40 : Nat) (Option.none : Option Jvm.ClassFile.FieldType)).before args0 about1 = true := code_word (m := ⟨2, 1⟩) (meth := k2m1) (c := k2c1) (by decide +kernel) rfl rfl rfl (by decide +kernel)
set_option maxRecDepth 65536 in
theorem w_c6 : (Jvm.Cond.code ({ cls := "java/lang/Math", name := "max", desc := "(DD)D" } : Jvm.MethodName) jdk_29_method_68_code (4 : Nat) (Option.some Jvm.ClassFile.FieldType.double)).before args0 about1 = true := code_word (m := ⟨3, 2⟩) (meth := k3m2) (c := k3c2) (by decide +kernel) rfl rfl rfl (by decide +kernel)
set_option maxRecDepth 65536 in
theorem w_c7 : (Jvm.Cond.code ({ cls := "java/lang/Math", name := "min", desc := "(DD)D" } : Jvm.MethodName) jdk_29_method_72_code (4 : Nat) (Option.some Jvm.ClassFile.FieldType.double)).before args0 about1 = true := code_word (m := ⟨3, 4⟩) (meth := k3m4) (c := k3c4) (by decide +kernel) rfl rfl rfl (by decide +kernel)
set_option maxRecDepth 65536 in
theorem w_c8 : (Jvm.Cond.code ({ cls := "java/lang/Math", name := "min", desc := "(II)I" } : Jvm.MethodName) jdk_29_method_69_code (2 : Nat) (Option.some Jvm.ClassFile.FieldType.int)).before args0 about1 = true := code_word (m := ⟨3, 3⟩) (meth := k3m3) (c := k3c3) (by decide +kernel) rfl rfl rfl (by decide +kernel)
set_option maxRecDepth 65536 in
theorem w_c9 : (Jvm.Cond.code ({ cls := "java/lang/Math", name := "max", desc := "(II)I" } : Jvm.MethodName) jdk_29_method_65_code (2 : Nat) (Option.some Jvm.ClassFile.FieldType.int)).before args0 about1 = true := code_word (m := ⟨3, 1⟩) (meth := k3m1) (c := k3c1) (by decide +kernel) rfl rfl rfl (by decide +kernel)
set_option maxRecDepth 65536 in
theorem w_c10 : (Jvm.Cond.code ({ cls := "com/example/orbitloom/orbitloom/orbits/TrackAtPinLaw", name := "check", desc := "([DIJJJ)Z" } : Jvm.MethodName) method_5_code (26 : Nat) (Option.some Jvm.ClassFile.FieldType.boolean)).before args0 about1 = true := code_word (m := ⟨1, 4⟩) (meth := k1m4) (c := k1c4) (by decide +kernel) rfl rfl rfl (by decide +kernel)
def codes1 : List Jvm.Cond := [Jvm.Cond.code x code maxLocals ret, Jvm.Cond.code ({ cls := "com/example/orbitloom/orbitloom/orbits/TrackAtPinLaw", name := "fill", desc := "([DIJJ)V" } : Jvm.MethodName) method_4_code (34 : Nat) (Option.none : Option Jvm.ClassFile.FieldType), Jvm.Cond.code ({ cls := "com/example/orbitloom/orbitloom/orbits/TrackAtPinLaw", name := "co", desc := "(JI)J" } : Jvm.MethodName) method_3_code (3 : Nat) (Option.some Jvm.ClassFile.FieldType.long), Jvm.Cond.code ({ cls := "com/example/orbitloom/orbitloom/orbits/Track", name := "<init>", desc := "(D[D)V" } : Jvm.MethodName) prog_63_method_1_code (4 : Nat) (Option.none : Option Jvm.ClassFile.FieldType), Jvm.Cond.code ({ cls := "java/lang/Object", name := "<init>", desc := "()V" } : Jvm.MethodName) object_method_1_code (1 : Nat) (Option.none : Option Jvm.ClassFile.FieldType), Jvm.Cond.code ({ cls := "com/example/orbitloom/orbitloom/orbits/Track", name := "at", desc := "(D[D)V" } : Jvm.MethodName) prog_63_method_5_code (40 : Nat) (Option.none : Option Jvm.ClassFile.FieldType), Jvm.Cond.code ({ cls := "java/lang/Math", name := "max", desc := "(DD)D" } : Jvm.MethodName) jdk_29_method_68_code (4 : Nat) (Option.some Jvm.ClassFile.FieldType.double), Jvm.Cond.code ({ cls := "java/lang/Math", name := "min", desc := "(DD)D" } : Jvm.MethodName) jdk_29_method_72_code (4 : Nat) (Option.some Jvm.ClassFile.FieldType.double), Jvm.Cond.code ({ cls := "java/lang/Math", name := "min", desc := "(II)I" } : Jvm.MethodName) jdk_29_method_69_code (2 : Nat) (Option.some Jvm.ClassFile.FieldType.int), Jvm.Cond.code ({ cls := "java/lang/Math", name := "max", desc := "(II)I" } : Jvm.MethodName) jdk_29_method_65_code (2 : Nat) (Option.some Jvm.ClassFile.FieldType.int), Jvm.Cond.code ({ cls := "com/example/orbitloom/orbitloom/orbits/TrackAtPinLaw", name := "check", desc := "([DIJJJ)Z" } : Jvm.MethodName) method_5_code (26 : Nat) (Option.some Jvm.ClassFile.FieldType.boolean)]
set_option maxRecDepth 65536 in
theorem codes_eq : words1.filter isCode = codes1 := rfl
theorem w_codes : ∀ c ∈ words1.filter isCode, c.before args0 about1 = true := by
  rw [codes_eq]
  intro c hc
  simp only [codes1, List.mem_cons, List.not_mem_nil, or_false] at hc
  rcases hc with rfl | rfl | rfl | rfl | rfl | rfl | rfl | rfl | rfl | rfl | rfl
  · exact w_c0
  · exact w_c1
  · exact w_c2
  · exact w_c3
  · exact w_c4
  · exact w_c5
  · exact w_c6
  · exact w_c7
  · exact w_c8
  · exact w_c9
  · exact w_c10
set_option maxRecDepth 65536 in
theorem w_t1 : (words1.take 24).all (fun c => isCode c || c.before args0 about1) = true := by decide +kernel
set_option maxRecDepth 65536 in
theorem w_t2 : ((words1.drop 24).take 24).all (fun c => isCode c || c.before args0 about1) = true := by decide +kernel
set_option maxRecDepth 65536 in
theorem w_t3 : ((words1.drop 24).drop 24).all (fun c => isCode c || c.before args0 about1) = true := by decide +kernel
theorem w_tables : (allAtoms (Jvm.Cond.code x code maxLocals ret :: tables_1)).before args0 about1 = true := by
  rw [allAtoms_all]
  show words1.all (fun c => c.before args0 about1) = true
  refine all_split ?_ w_codes
  rw [← List.take_append_drop 24 words1, List.all_append, w_t1, ← List.take_append_drop 24 (words1.drop 24), List.all_append, w_t2, w_t3]
  rfl
set_option maxRecDepth 65536 in
theorem w_case : (Jvm.Cond.and given_1 narrow_1).before args0 about1 = true := by decide +kernel
theorem w_applies : (headSpec (Jvm.Cond.code x code maxLocals ret :: tables_1) room_1).applies x e0.platform about1 = true :=
  (Spec.applies_iff w_frames).mpr ⟨w_running, w_runnable, w_alone, w_named, w_hears, w_ripe, w_room, w_tables⟩
theorem atStart : AtStart classFile x code maxLocals ret World_1 tables_1 room_1 Calls_1 rest_1 Pre_1 launch0 p0 e0 about1 theMethod args0 below0 :=
  ⟨lists_1, trivial, launch0.admits_env _ _ _, launch0.least_env, fairChoices_fair.cas, fairChoices_fair.clock, w_frames, w_args, w_heap, w_applies, trivial, trivial, w_case⟩
end start1
theorem witness_1 : WitnessClaimed_1 := ⟨start1.p0, start1.e0, start1.about1, start1.theMethod, start1.args0, start1.below0, start1.atStart⟩
end Jvm.Pilot.@@N@@
