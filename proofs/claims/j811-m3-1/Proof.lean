import JvmDerived
import JvmDerived.Pilot.@@N@@Statement
import JvmDerived.Pilot.@@N@@Code
set_option linter.unusedVariables false
set_option linter.unusedSimpArgs false
@@BLOCK:NumsL.lean.txt@@
/- laws to paste: Road.backV, Road.eqW, Road.codOf (cut by pick.py; bodies as the Statement names them) -/
namespace Jvm.Pilot.@@N@@
namespace StrChars
open Jvm Sem ClassFile Op Lib Jvm.Stand Jvm.Free.XT Jvm.Free.ALB Jvm.Free.JM Jvm.Free
open Jvm.Lib.Cold (StaticIs)
/-- a char array whose places are chars -/
def Ch (a : Addr) (A : Cell) (U : State) : Prop := Arr .char a A U ∧ Typed .char A
theorem Ch.mv {a : Addr} {A : Cell} {U U' : State} (h : Ch a A U) (hal : U.vm.Alike U'.vm) (hh : U'.heap = U.heap) : Ch a A U' := ⟨h.1.mv hal hh, h.2⟩
theorem Ch.keep {a : Addr} {A : Cell} {U U' : State} (h : Ch a A U) (hal : U.vm.Alike U'.vm) (hk : U'.heap[a]? = some A) : Ch a A U' := ⟨h.1.keep hal hk, h.2⟩
/-- what place i of a char[]'s cell holds -/
def cv (A : Cell) (i : Nat) : Int32 := match A.slots[i]? with | some (.int x) => x | _ => 0
theorem Ch.get {a : Addr} {A : Cell} {U : State} (h : Ch a A U) {i : Nat} (hi : i < A.slots.size) : A.slots[i]? = some (.int (cv A i)) := by
  have e := Array.getElem?_eq_getElem hi
  have f := h.2 i _ e
  unfold cv; rw [e]
  generalize A.slots[i] = v at f
  cases v <;> simp [fits] at f ⊢
/-- the byte that i2b leaves of a char -/
def lo8 (x : Int32) : Int32 := x.toInt8.toInt32
theorem fits_lo8 (y : Int32) : fits .byte (.int (lo8 y)) = true := by
  have h1 := y.toInt8.le_toInt
  have h2 := y.toInt8.toInt_lt
  simp only [lo8, fits, Bool.and_eq_true, decide_eq_true_eq, Int32.le_iff_toInt_le, Int8.toInt_toInt32, show (-128 : Int32).toInt = -128 from by decide, show (127 : Int32).toInt = 127 from by decide]
  omega
/-- A' is A but that each place j of lo .. hi - 1 holds f j -/
def Laid (A A' : Cell) (lo hi : Nat) (f : Nat → Value) : Prop := A'.cls = A.cls ∧ A'.vm = A.vm ∧ A'.slots.size = A.slots.size ∧ ∀ i, A'.slots[i]? = if lo ≤ i ∧ i < hi then some (f i) else A.slots[i]?
theorem Laid.zero (A : Cell) (lo : Nat) (f : Nat → Value) : Laid A A lo (lo + 0) f := ⟨rfl, rfl, rfl, fun i => by rw [if_neg (by omega)]⟩
theorem Laid.step {A Ak : Cell} {lo k : Nat} {f : Nat → Value} {v : Value} (h : Laid A Ak lo k f) (hlo : lo ≤ k) (hk : k < Ak.slots.size) (hv : v = f k) : Laid A (Ak.setSlot k v) lo (k + 1) f := by
  refine ⟨h.1, h.2.1, by simpa [Cell.setSlot] using h.2.2.1, fun i => ?_⟩
  by_cases e : k = i
  · subst e; rw [Cell.slots_setSlot_self v hk, if_pos (by omega), hv]
  · rw [Cell.slots_setSlot_ne v e, h.2.2.2 i]
    by_cases q : lo ≤ i ∧ i < k
    · rw [if_pos q, if_pos (by omega)]
    · rw [if_neg q, if_neg (by omega)]
def U16 : String := "java/lang/StringUTF16"
namespace Cmp5
def yN : MethodName := ⟨"java/lang/StringUTF16", "compress", "([CI[BII)I"⟩
abbrev yB : ByteArray := jdk_52_method_21_code
theorem d0 : decode yB 0 = .ok (.iconst 0, 1) := by decide +kernel
theorem d1 : decode yB 1 = .ok (.istore 5, 2) := by decide +kernel
theorem d3 : decode yB 3 = .ok (.iload 5, 2) := by decide +kernel
theorem d5 : decode yB 5 = .ok (.iload 4, 2) := by decide +kernel
theorem d7 : decode yB 7 = .ok (.if_icmp (.ge) 37, 3) := by decide +kernel
theorem d10 : decode yB 10 = .ok (.aload_n 0, 1) := by decide +kernel
theorem d11 : decode yB 11 = .ok (.iload_n 1, 1) := by decide +kernel
theorem d12 : decode yB 12 = .ok (.caload, 1) := by decide +kernel
theorem d13 : decode yB 13 = .ok (.istore 6, 2) := by decide +kernel
theorem d15 : decode yB 15 = .ok (.iload 6, 2) := by decide +kernel
theorem d17 : decode yB 17 = .ok (.sipush 255, 3) := by decide +kernel
theorem d20 : decode yB 20 = .ok (.if_icmp (.le) 6, 3) := by decide +kernel
theorem d26 : decode yB 26 = .ok (.aload_n 2, 1) := by decide +kernel
theorem d27 : decode yB 27 = .ok (.iload_n 3, 1) := by decide +kernel
theorem d28 : decode yB 28 = .ok (.iload 6, 2) := by decide +kernel
theorem d30 : decode yB 30 = .ok (.i2b, 1) := by decide +kernel
theorem d31 : decode yB 31 = .ok (.bastore, 1) := by decide +kernel
theorem d32 : decode yB 32 = .ok (.iinc 1 1, 3) := by decide +kernel
theorem d35 : decode yB 35 = .ok (.iinc 3 1, 3) := by decide +kernel
theorem d38 : decode yB 38 = .ok (.iinc 5 1, 3) := by decide +kernel
theorem d41 : decode yB 41 = .ok (.goto (-38), 3) := by decide +kernel
theorem d44 : decode yB 44 = .ok (.iload 4, 2) := by decide +kernel
theorem d46 : decode yB 46 = .ok (.ireturn, 1) := by decide +kernel
def site : List Cond := []
def tab : Cond := tabOf yN yB 7 (some .int) site
def P (b : Addr) (A : Cell) (d : Addr) (B : Cell) (o q len : Nat) (args : Array Value) (s : State) : Prop := args = #[.ref b, .int (Int32.ofNat o), .ref d, .int (Int32.ofNat q), .int (Int32.ofNat len)] ∧ Ch b A s ∧ Arr .byte d B s ∧ b ≠ d ∧ o + len ≤ A.slots.size ∧ q + len ≤ B.slots.size ∧ ∀ i, i < len → ¬ 255 < cv A (o + i)
def E (b : Addr) (A : Cell) (d : Addr) (B : Cell) (o q len : Nat) (r : Option Value) (s u : State) : Prop := r = some (.int (Int32.ofNat len)) ∧ ∃ B', Put d B' s u ∧ Laid B B' q (q + len) (fun j => Value.int (lo8 (cv A (o + (j - q)))))
/-- no char of the range above 255: len; the places written hold each char's low byte -/
theorem law (l : Launch) (b : Addr) (A : Cell) (d : Addr) (B : Cell) (o q len : Nat) : Law l yN 5 5 0 0 yB 7 (some .int) site (P b A d B o q len) (E b A d B o q len) (copyLocs d q len) 0 0 := by
  refine Law.of_walk (plainFor_of_name (by decide +kernel)) (by decide +kernel) (by decide +kernel) (by decide) (fun _ _ h => by rw [h.1]; rfl) (fun _ U U' hal hh h => ⟨h.1, h.2.1.mv hal hh, h.2.2.1.mv hal hh, h.2.2.2⟩) (fun r U U' V V' h1 hal h2 h => ⟨h.1, h.2.elim fun B' q => ⟨B', q.1.mv h1 h2, q.2⟩⟩) ?_
  intro p e s m args below meth c s₁ X0 hexec hbytes hml hret hlk hnm hown hh0 W hP
  obtain ⟨rfl, hA, hB, hne, l1, l2, hp⟩ := hP
  have c1 : Steps p.tables e below (s₁.setTop (entryFrame m #[.ref b, .int (Int32.ofNat o), .ref d, .int (Int32.ofNat q), .int (Int32.ofNat len)] 7)) (s₁.setTop (mkF m 0 #[.val (.ref b), .val (.int (Int32.ofNat o)), .val (.ref d), .val (.int (Int32.ofNat q)), .val (.int (Int32.ofNat len)), .unset, .unset] [])) := entry rfl
  have hA0 := hA.1.mv X0.warmed.alike hh0
  have hB0 := hB.mv X0.warmed.alike hh0
  have a31 := hA.1.2.2.2
  have c2 : Steps p.tables e below (s₁.setTop (entryFrame m #[.ref b, .int (Int32.ofNat o), .ref d, .int (Int32.ofNat q), .int (Int32.ofNat len)] 7)) (s₁.setTop (mkF m 3 #[.val (.ref b), .val (.int (Int32.ofNat o)), .val (.ref d), .val (.int (Int32.ofNat q)), .val (.int (Int32.ofNat len)), .val (.int 0), .unset] [])) := c1.trans (by
    refine iconstV X0.here hexec rfl 0 (hb hbytes d0) (by decide) ?_
    refine XS.istore X0.here hexec rfl (hb hbytes d1) rfl rfl ?_
    exact Steps.refl _)
  have loop : ∀ (r i : Nat), i + r = len → ∀ (z : Slot), (z = .unset ∨ ∃ w, z = .val w ∧ w.category = 1) → ∀ (Tl : State) (Bk : Cell), Stand p l e { frames := 0, locals := 0, cells := 0, slots := 0 } s m #[.ref b, .int (Int32.ofNat o), .ref d, .int (Int32.ofNat q), .int (Int32.ofNat len)] below meth c Tl ([] ++ copyLocs d q i) 0 0 → Put d Bk s₁ Tl → Laid B Bk q (q + i) (fun j => Value.int (lo8 (cv A (o + (j - q))))) →
      Steps p.tables e below (s₁.setTop (entryFrame m #[.ref b, .int (Int32.ofNat o), .ref d, .int (Int32.ofNat q), .int (Int32.ofNat len)] 7)) (Tl.setTop (mkF m 3 #[.val (.ref b), .val (.int (Int32.ofNat (o + i))), .val (.ref d), .val (.int (Int32.ofNat (q + i))), .val (.int (Int32.ofNat len)), .val (.int (Int32.ofNat i)), z] [])) → ∃ (T' : State) (B' : Cell) (z' : Slot), Stand p l e { frames := 0, locals := 0, cells := 0, slots := 0 } s m #[.ref b, .int (Int32.ofNat o), .ref d, .int (Int32.ofNat q), .int (Int32.ofNat len)] below meth c T' ([] ++ copyLocs d q len) 0 0 ∧ Put d B' s₁ T' ∧ Laid B B' q (q + len) (fun j => Value.int (lo8 (cv A (o + (j - q))))) ∧
      Steps p.tables e below (s₁.setTop (entryFrame m #[.ref b, .int (Int32.ofNat o), .ref d, .int (Int32.ofNat q), .int (Int32.ofNat len)] 7)) (T'.setTop (mkF m 3 #[.val (.ref b), .val (.int (Int32.ofNat (o + len))), .val (.ref d), .val (.int (Int32.ofNat (q + len))), .val (.int (Int32.ofNat len)), .val (.int (Int32.ofNat len)), z'] [])) := by
    intro r
    induction r with
    | zero =>
      intro i hi z hz Tl Bk Xl pl fl cl
      have hil : i = len := by omega
      rw [hil] at Xl fl cl
      exact ⟨Tl, Bk, z, Xl, pl, fl, cl⟩
    | succ r ih =>
      intro i hi z hz Tl Bk Xl pl fl cl
      have all := X0.warmed.alike.symm.trans Xl.warmed.alike
      have hAl := hA0.keep all (pl.other hne hA0.1)
      have hBk := hB0.like all pl.1 fl.1 fl.2.1 fl.2.2.1
      have hlt : q + i < Bk.slots.size := by rw [fl.2.2.1]; omega
      have c3 : Steps p.tables e below (s₁.setTop (entryFrame m #[.ref b, .int (Int32.ofNat o), .ref d, .int (Int32.ofNat q), .int (Int32.ofNat len)] 7)) (Tl.setTop (mkF m 12 #[.val (.ref b), .val (.int (Int32.ofNat (o + i))), .val (.ref d), .val (.int (Int32.ofNat (q + i))), .val (.int (Int32.ofNat len)), .val (.int (Int32.ofNat i)), z] [.int (Int32.ofNat (o + i)), .ref b])) := cl.trans (by
        refine XS.iload Xl.here hexec rfl (hb hbytes d3) rfl ?_
        refine XS.iload Xl.here hexec rfl (hb hbytes d5) rfl ?_
        refine XS.icmpNo Xl.here hexec rfl (hb hbytes d7) rfl (ii_ge_f (lt32 (by omega) (by omega))) ?_
        refine XS.aloadN Xl.here hexec rfl (hb hbytes d10) rfl rfl ?_
        refine XS.iloadN Xl.here hexec rfl (hb hbytes d11) rfl ?_
        exact Steps.refl _)
      have c4 : Steps p.tables e below (s₁.setTop (entryFrame m #[.ref b, .int (Int32.ofNat o), .ref d, .int (Int32.ofNat q), .int (Int32.ofNat len)] 7)) (Tl.setTop (mkF m 13 #[.val (.ref b), .val (.int (Int32.ofNat (o + i))), .val (.ref d), .val (.int (Int32.ofNat (q + i))), .val (.int (Int32.ofNat len)), .val (.int (Int32.ofNat i)), z] [.int (cv A (o + i))])) := c3.trans (by
        refine Xl.aget hexec hAl rfl (hA.get (i := o + i) (by omega)) rfl rfl (hb hbytes d12) ?_
        exact Steps.refl _)
      have c5 : Steps p.tables e below (s₁.setTop (entryFrame m #[.ref b, .int (Int32.ofNat o), .ref d, .int (Int32.ofNat q), .int (Int32.ofNat len)] 7)) (Tl.setTop (mkF m 15 #[.val (.ref b), .val (.int (Int32.ofNat (o + i))), .val (.ref d), .val (.int (Int32.ofNat (q + i))), .val (.int (Int32.ofNat len)), .val (.int (Int32.ofNat i)), .val (.int (cv A (o + i)))] [])) := c4.trans (by
        refine XS.istoreS Xl.here hexec rfl (hb hbytes d13) rfl rfl hz ?_
        exact Steps.refl _)
      have c6 : Steps p.tables e below (s₁.setTop (entryFrame m #[.ref b, .int (Int32.ofNat o), .ref d, .int (Int32.ofNat q), .int (Int32.ofNat len)] 7)) (Tl.setTop (mkF m 31 #[.val (.ref b), .val (.int (Int32.ofNat (o + i))), .val (.ref d), .val (.int (Int32.ofNat (q + i))), .val (.int (Int32.ofNat len)), .val (.int (Int32.ofNat i)), .val (.int (cv A (o + i)))] [.int (lo8 (cv A (o + i))), .int (Int32.ofNat (q + i)), .ref d])) := c5.trans (by
        refine XS.iload Xl.here hexec rfl (hb hbytes d15) rfl ?_
        refine sipushV Xl.here hexec rfl 255 (hb hbytes d17) (by decide) ?_
        refine XS.icmpYes Xl.here hexec rfl (pc0 := 20) rfl (hb hbytes d20) rfl (ii_le_t (hp i (by omega))) (by decide) rfl ?_
        refine XS.aloadN Xl.here hexec rfl (hb hbytes d26) rfl rfl ?_
        refine XS.iloadN Xl.here hexec rfl (hb hbytes d27) rfl ?_
        refine XS.iload Xl.here hexec rfl (hb hbytes d28) rfl ?_
        refine i2b Xl.here hexec rfl (hb hbytes d30) rfl ?_
        exact Steps.refl _)
      obtain ⟨T7, X7, p7, st7⟩ := Xl.aput hexec hBk rfl hlt rfl (fits_lo8 (cv A (o + i))) (g := (mkF m 31 #[.val (.ref b), .val (.int (Int32.ofNat (o + i))), .val (.ref d), .val (.int (Int32.ofNat (q + i))), .val (.int (Int32.ofNat len)), .val (.int (Int32.ofNat i)), .val (.int (cv A (o + i)))] [.int (lo8 (cv A (o + i))), .int (Int32.ofNat (q + i)), .ref d])) rfl (rest := []) rfl (hb hbytes d31)
      have c8 : Steps p.tables e below (s₁.setTop (entryFrame m #[.ref b, .int (Int32.ofNat o), .ref d, .int (Int32.ofNat q), .int (Int32.ofNat len)] 7)) (T7.setTop (mkF m 32 #[.val (.ref b), .val (.int (Int32.ofNat (o + i))), .val (.ref d), .val (.int (Int32.ofNat (q + i))), .val (.int (Int32.ofNat len)), .val (.int (Int32.ofNat i)), .val (.int (cv A (o + i)))] [])) := c6.trans (st7 _ (Steps.refl _))
      have c9 : Steps p.tables e below (s₁.setTop (entryFrame m #[.ref b, .int (Int32.ofNat o), .ref d, .int (Int32.ofNat q), .int (Int32.ofNat len)] 7)) (T7.setTop (mkF m 3 #[.val (.ref b), .val (.int (Int32.ofNat (o + i) + 1)), .val (.ref d), .val (.int (Int32.ofNat (q + i) + 1)), .val (.int (Int32.ofNat len)), .val (.int (Int32.ofNat i + 1)), .val (.int (cv A (o + i)))] [])) := c8.trans (by
        refine iincV X7.here hexec rfl 1 (hb hbytes d32) (by decide) rfl rfl ?_
        refine iincV X7.here hexec rfl 1 (hb hbytes d35) (by decide) rfl rfl ?_
        refine iincV X7.here hexec rfl 1 (hb hbytes d38) (by decide) rfl rfl ?_
        refine XS.goto X7.here hexec rfl (pc0 := 41) rfl (hb hbytes d41) (by decide) rfl ?_
        exact Steps.refl _)
      have c10 : Steps p.tables e below (s₁.setTop (entryFrame m #[.ref b, .int (Int32.ofNat o), .ref d, .int (Int32.ofNat q), .int (Int32.ofNat len)] 7)) (T7.setTop (mkF m 3 #[.val (.ref b), .val (.int (Int32.ofNat (o + (i + 1)))), .val (.ref d), .val (.int (Int32.ofNat (q + (i + 1)))), .val (.int (Int32.ofNat len)), .val (.int (Int32.ofNat (i + 1))), .val (.int (cv A (o + i)))] [])) := by
        have := c9
        rw [succ32, succ32, succ32] at this
        exact this
      exact ih (i + 1) (by omega) _ (Or.inr ⟨_, rfl, rfl⟩) T7 _ (by rw [copyLocs_step, ← List.append_assoc]; exact X7) (pl.trans p7) (fl.step (by omega) hlt (by simp)) c10
  obtain ⟨T9, B9, z9, X9, p9, f9, g9⟩ := loop len 0 (by omega) .unset (Or.inl rfl) s₁ B (by simpa [copyLocs] using X0) ⟨hB0.1, fun _ _ => rfl, rfl⟩ (Laid.zero _ _ _) c2
  have c11 : Steps p.tables e below (s₁.setTop (entryFrame m #[.ref b, .int (Int32.ofNat o), .ref d, .int (Int32.ofNat q), .int (Int32.ofNat len)] 7)) (T9.setTop (mkF m 46 #[.val (.ref b), .val (.int (Int32.ofNat (o + len))), .val (.ref d), .val (.int (Int32.ofNat (q + len))), .val (.int (Int32.ofNat len)), .val (.int (Int32.ofNat len)), z9] [.int (Int32.ofNat len)])) := g9.trans (by
    refine XS.iload X9.here hexec rfl (hb hbytes d3) rfl ?_
    refine XS.iload X9.here hexec rfl (hb hbytes d5) rfl ?_
    refine XS.icmpYes X9.here hexec rfl (pc0 := 7) rfl (hb hbytes d7) rfl (ii_ge_t (nlt32 (by omega) (Nat.le_refl _))) (by decide) rfl ?_
    refine XS.iload X9.here hexec rfl (hb hbytes d44) rfl ?_
    exact Steps.refl _)
  exact ⟨T9, some (.int (Int32.ofNat len)), _, _, _, X9, by simp, rfl, rfl, (fun h => by cases h), ⟨rfl, B9, p9.from hh0, f9⟩, fun fs hl => c11.trans (X9.ireturnOut hexec hret rfl (Or.inl rfl) (hb hbytes d46) hl)⟩
end Cmp5
namespace Cmp3
def yN : MethodName := ⟨"java/lang/StringUTF16", "compress", "([CII)[B"⟩
abbrev yB : ByteArray := jdk_52_method_16_code
theorem d0 : decode yB 0 = .ok (.iload_n 2, 1) := by decide +kernel
theorem d1 : decode yB 1 = .ok (.newarray .byte, 2) := by decide +kernel
theorem d3 : decode yB 3 = .ok (.astore_n 3, 1) := by decide +kernel
theorem d4 : decode yB 4 = .ok (.aload_n 0, 1) := by decide +kernel
theorem d5 : decode yB 5 = .ok (.iload_n 1, 1) := by decide +kernel
theorem d6 : decode yB 6 = .ok (.aload_n 3, 1) := by decide +kernel
theorem d7 : decode yB 7 = .ok (.iconst 0, 1) := by decide +kernel
theorem d8 : decode yB 8 = .ok (.iload_n 2, 1) := by decide +kernel
theorem d9 : decode yB 9 = .ok (.invokestatic 115, 3) := by decide +kernel
theorem d12 : decode yB 12 = .ok (.istore 4, 2) := by decide +kernel
theorem d14 : decode yB 14 = .ok (.iload 4, 2) := by decide +kernel
theorem d16 : decode yB 16 = .ok (.iload_n 2, 1) := by decide +kernel
theorem d17 : decode yB 17 = .ok (.if_icmp (.eq) 40, 3) := by decide +kernel
theorem d57 : decode yB 57 = .ok (.aload_n 3, 1) := by decide +kernel
theorem d58 : decode yB 58 = .ok (.areturn, 1) := by decide +kernel
def site : List Cond := [.arrayClass .byte, Cmp5.tab] ++ staticW U16 115 Cmp5.yN
def tab : Cond := tabOf yN yB 6 (some (.array .byte)) site
def P (b : Addr) (A : Cell) (o len : Nat) (args : Array Value) (s : State) : Prop := args = #[.ref b, .int (Int32.ofNat o), .int (Int32.ofNat len)] ∧ Ch b A s ∧ o + len ≤ A.slots.size ∧ len ≤ 536870912 ∧ ∀ i, i < len → ¬ 255 < cv A (o + i)
def E (b : Addr) (A : Cell) (o len : Nat) (r : Option Value) (s u : State) : Prop := NewArr .byte "[B" len (fun j => .int (lo8 (cv A (o + j)))) r s u ∧ u.heap.size = s.heap.size + 1
/-- no char of the range above 255: a new byte[] of their low bytes -/
theorem law (l : Launch) (b : Addr) (A : Cell) (o len : Nat) : Law l yN 3 3 1 18 yB 6 (some (.array .byte)) site (P b A o len) (E b A o len) [] 1 len := by
  refine Law.of_walk (plainFor_of_name (by decide +kernel)) (by decide +kernel) (by decide +kernel) (by decide) (fun _ _ h => by rw [h.1]; rfl) (fun _ U U' hal hh h => ⟨h.1, h.2.1.mv hal hh, h.2.2⟩) (fun r U U' V V' h1 hal h2 h => ⟨NewArr.mv r U U' V V' h1 hal h2 h.1, by rw [h1, h2]; exact h.2⟩) ?_
  intro p e s m args below meth c s₁ X0 hexec hbytes hml hret hlk hnm hown hh0 W hP
  obtain ⟨rfl, hA, l1, l2, hp⟩ := hP
  have a31 := hA.1.2.2.2
  have c1 : Steps p.tables e below (s₁.setTop (entryFrame m #[.ref b, .int (Int32.ofNat o), .int (Int32.ofNat len)] 6)) (s₁.setTop (mkF m 0 #[.val (.ref b), .val (.int (Int32.ofNat o)), .val (.int (Int32.ofNat len)), .unset, .unset, .unset] [])) := entry rfl
  have c2 : Steps p.tables e below (s₁.setTop (entryFrame m #[.ref b, .int (Int32.ofNat o), .int (Int32.ofNat len)] 6)) (s₁.setTop (mkF m 1 #[.val (.ref b), .val (.int (Int32.ofNat o)), .val (.int (Int32.ofNat len)), .unset, .unset, .unset] [.int (Int32.ofNat len)])) := c1.trans (by
    refine XS.iloadN X0.here hexec rfl (hb hbytes d0) rfl ?_
    exact Steps.refl _)
  obtain ⟨T3, B3, X3, ba3, bs3, bv3, bh3, bf3, st3⟩ := X0.anew hexec (atype := .byte) (wk W (.arrayClass .byte)) rfl (by show len * 1 ≤ _; omega) (by omega) (g := (mkF m 1 #[.val (.ref b), .val (.int (Int32.ofNat o)), .val (.int (Int32.ofNat len)), .unset, .unset, .unset] [.int (Int32.ofNat len)])) rfl (hb hbytes d1) (rest := []) rfl (Nat.le_refl _) (by show 0 + len ≤ len; omega)
  rw [hh0] at ba3 st3
  have kp3 : XT.Kept s T3 := (XT.Kept.of_eq hh0).push bh3
  have hA3 := hA.keep X3.warmed.alike (kp3 _ _ hA.1.1)
  have hne : b ≠ s.heap.size := hA.1.ne
  have c4 : Steps p.tables e below (s₁.setTop (entryFrame m #[.ref b, .int (Int32.ofNat o), .int (Int32.ofNat len)] 6)) (T3.setTop (mkF m 3 #[.val (.ref b), .val (.int (Int32.ofNat o)), .val (.int (Int32.ofNat len)), .unset, .unset, .unset] [.ref s.heap.size])) := c2.trans (st3 _ (Steps.refl _))
  have c5 : Steps p.tables e below (s₁.setTop (entryFrame m #[.ref b, .int (Int32.ofNat o), .int (Int32.ofNat len)] 6)) (T3.setTop (mkF m 9 #[.val (.ref b), .val (.int (Int32.ofNat o)), .val (.int (Int32.ofNat len)), .val (.ref s.heap.size), .unset, .unset] [.int (Int32.ofNat len), .int 0, .ref s.heap.size, .int (Int32.ofNat o), .ref b])) := c4.trans (by
    refine XS.astoreN X3.here hexec rfl (hb hbytes d3) rfl rfl rfl ?_
    refine XS.aloadN X3.here hexec rfl (hb hbytes d4) rfl rfl ?_
    refine XS.iloadN X3.here hexec rfl (hb hbytes d5) rfl ?_
    refine XS.aloadN X3.here hexec rfl (hb hbytes d6) rfl rfl ?_
    refine iconstV X3.here hexec rfl 0 (hb hbytes d7) (by decide) ?_
    refine XS.iloadN X3.here hexec rfl (hb hbytes d8) rfl ?_
    exact Steps.refl _)
  obtain ⟨v6, T6, X6, E6, g6⟩ := X3.callS hexec (Cmp5.law l b A s.heap.size B3 o 0 len) hown (wks W (staticW U16 115 Cmp5.yN)) (wk W Cmp5.tab) (W := 0) (Nat.le_of_ble_eq_true rfl) (Nat.le_of_ble_eq_true rfl) (Nat.le_refl _) (by show 0 + len + 0 ≤ len; omega) (g := (mkF m 9 #[.val (.ref b), .val (.int (Int32.ofNat o)), .val (.int (Int32.ofNat len)), .val (.ref s.heap.size), .unset, .unset] [.int (Int32.ofNat len), .int (Int32.ofNat 0), .ref s.heap.size, .int (Int32.ofNat o), .ref b])) rfl (by rw [hml]; rfl) c5 (argsL := [.ref b, .int (Int32.ofNat o), .ref s.heap.size, .int (Int32.ofNat 0), .int (Int32.ofNat len)]) (rest := []) rfl rfl (by show 2 * 0 + 0 ≤ _; decide) (hb hbytes d9) (⟨rfl, hA3, ba3, hne, l1, by rw [bs3]; simp, hp⟩)
  obtain ⟨rfl, B6, p6, f6⟩ := E6
  have c7 : Steps p.tables e below (s₁.setTop (entryFrame m #[.ref b, .int (Int32.ofNat o), .int (Int32.ofNat len)] 6)) (T6.setTop (mkF m 12 #[.val (.ref b), .val (.int (Int32.ofNat o)), .val (.int (Int32.ofNat len)), .val (.ref s.heap.size), .unset, .unset] [.int (Int32.ofNat len)])) := g6
  have c8 : Steps p.tables e below (s₁.setTop (entryFrame m #[.ref b, .int (Int32.ofNat o), .int (Int32.ofNat len)] 6)) (T6.setTop (mkF m 58 #[.val (.ref b), .val (.int (Int32.ofNat o)), .val (.int (Int32.ofNat len)), .val (.ref s.heap.size), .val (.int (Int32.ofNat len)), .unset] [.ref s.heap.size])) := c7.trans (by
    refine XS.istore X6.here hexec rfl (hb hbytes d12) rfl rfl ?_
    refine XS.iload X6.here hexec rfl (hb hbytes d14) rfl ?_
    refine XS.iloadN X6.here hexec rfl (hb hbytes d16) rfl ?_
    refine XS.icmpYes X6.here hexec rfl (pc0 := 17) rfl (hb hbytes d17) rfl (ii_eq_t rfl) (by decide) rfl ?_
    refine XS.aloadN X6.here hexec rfl (hb hbytes d57) rfl rfl ?_
    exact Steps.refl _)
  have X8 := X6.wide (L' := []) (cells' := 1) (slots' := len) (fun x hx hlt => by
    simp only [List.nil_append, copyLocs, List.mem_map, List.mem_range] at hx
    obtain ⟨i, -, rfl⟩ := hx
    exact absurd hlt (Nat.lt_irrefl _)) (Nat.le_refl _) (by omega)
  exact ⟨T6, some (.ref s.heap.size), _, _, _, X8, rfl, rfl, rfl, (fun h => by cases h), ⟨⟨rfl, B6, ba3.like (X3.warmed.alike.symm.trans X6.warmed.alike) p6.1 f6.1 f6.2.1 f6.2.2.1, f6.2.1.trans bv3, by rw [X6.warmed.alike.findClass, f6.1]; exact bf3, by rw [f6.2.2.1, bs3]; simp, fun j hj => by rw [f6.2.2.2 j, if_pos (by omega)]; rfl, kp3.put p6 (Nat.le_refl _)⟩, by rw [p6.2.2, bh3, hh0]; simp⟩, fun fs hl => c8.trans (X8.areturnOut hexec rfl hret rfl (hb hbytes d58) hl)⟩
end Cmp3
namespace CodL
def yN : MethodName := ⟨"java/lang/StringUTF16", "coderFromArrayLen", "([BI)B"⟩
abbrev yB : ByteArray := jdk_52_method_15_code
theorem d0 : decode yB 0 = .ok (.iload_n 1, 1) := by decide +kernel
theorem d1 : decode yB 1 = .ok (.aload_n 0, 1) := by decide +kernel
theorem d2 : decode yB 2 = .ok (.arraylength, 1) := by decide +kernel
theorem d3 : decode yB 3 = .ok (.isub, 1) := by decide +kernel
theorem d4 : decode yB 4 = .ok (.bipush 31, 2) := by decide +kernel
theorem d6 : decode yB 6 = .ok (.iushr, 1) := by decide +kernel
theorem d7 : decode yB 7 = .ok (.i2b, 1) := by decide +kernel
theorem d8 : decode yB 8 = .ok (.ireturn, 1) := by decide +kernel
def site : List Cond := []
def tab : Cond := tabOf yN yB 2 (some .byte) site
def P (d : Addr) (B : Cell) (args : Array Value) (s : State) : Prop := args = #[.ref d, .int (Int32.ofNat B.slots.size)] ∧ Arr .byte d B s
def E (r : Option Value) (s u : State) : Prop := XT.PureE (some (.int 0)) r s u
/-- an array as long as the number of chars: LATIN1 -/
theorem law (l : Launch) (d : Addr) (B : Cell) : Law l yN 2 2 0 0 yB 2 (some .byte) site (P d B) E [] 0 0 := by
  refine Law.of_walk (plainFor_of_name (by decide +kernel)) (by decide +kernel) (by decide +kernel) (by decide) (fun _ _ h => by rw [h.1]; rfl) (fun _ U U' hal hh h => ⟨h.1, h.2.mv hal hh⟩) (fun r U U' V V' h1 hal h2 h => XT.PureE.mv r U U' V V' h1 hal h2 h) ?_
  intro p e s m args below meth c s₁ X0 hexec hbytes hml hret hlk hnm hown hh0 W hP
  obtain ⟨rfl, hB⟩ := hP
  have hB0 := hB.mv X0.warmed.alike hh0
  have c1 : Steps p.tables e below (s₁.setTop (entryFrame m #[.ref d, .int (Int32.ofNat B.slots.size)] 2)) (s₁.setTop (mkF m 0 #[.val (.ref d), .val (.int (Int32.ofNat B.slots.size))] [])) := entry rfl
  have c2 : Steps p.tables e below (s₁.setTop (entryFrame m #[.ref d, .int (Int32.ofNat B.slots.size)] 2)) (s₁.setTop (mkF m 2 #[.val (.ref d), .val (.int (Int32.ofNat B.slots.size))] [.ref d, .int (Int32.ofNat B.slots.size)])) := c1.trans (by
    refine XS.iloadN X0.here hexec rfl (hb hbytes d0) rfl ?_
    refine XS.aloadN X0.here hexec rfl (hb hbytes d1) rfl rfl ?_
    exact Steps.refl _)
  have c3 : Steps p.tables e below (s₁.setTop (entryFrame m #[.ref d, .int (Int32.ofNat B.slots.size)] 2)) (s₁.setTop (mkF m 8 #[.val (.ref d), .val (.int (Int32.ofNat B.slots.size))] [.int (lo8 (ushr (Int32.ofNat B.slots.size - Int32.ofNat B.slots.size) 31))])) := c2.trans (by
    refine X0.alen hexec hB0 rfl rfl (hb hbytes d2) ?_
    refine XS.isub X0.here hexec rfl (hb hbytes d3) rfl ?_
    refine bipushV X0.here hexec rfl 31 (hb hbytes d4) (by decide) ?_
    refine iushr X0.here hexec rfl (hb hbytes d6) rfl ?_
    refine i2b X0.here hexec rfl (hb hbytes d7) rfl ?_
    exact Steps.refl _)
  have e0 : lo8 (ushr (Int32.ofNat B.slots.size - Int32.ofNat B.slots.size) 31) = 0 := by rw [Int32.sub_self]; decide
  rw [e0] at c3
  exact ⟨s₁, some (.int 0), _, _, _, X0, rfl, rfl, rfl, (fun h => by cases h), ⟨rfl, hh0⟩, fun fs hl => c3.trans (X0.ireturnOut hexec hret rfl (Or.inr (Or.inr (Or.inl rfl))) (hb hbytes d8) hl)⟩
end CodL
/-- the String at a is Latin-1 over a new byte[] (the heap's one new cell): the low bytes of the len chars of A from o on; every cell but a is kept -/
def Got (a : Addr) (D : Cell) (fV fC : Field) (A : Cell) (o len : Nat) (r : Option Value) (s u : State) : Prop := r = none ∧ ∃ D' V : Cell, Blank "java/lang/String" a D' u ∧ Same D D' [fV.slot, fC.slot] ∧ D'.slots[fV.slot]? = some (.ref s.heap.size) ∧ D'.slots[fC.slot]? = some (.int 0) ∧ Arr .byte s.heap.size V u ∧ V.vm = .none ∧ u.vm.findClass "[B" = some V.cls ∧ V.slots.size = len ∧ (∀ j, j < len → V.slots[j]? = some (.int (lo8 (cv A (o + j))))) ∧ (∀ (y : Addr) (c : Cell), y ≠ a → s.heap[y]? = some c → u.heap[y]? = some c) ∧ u.heap.size = s.heap.size + 1
theorem Got.mv {a : Addr} {D A : Cell} {fV fC : Field} {o len : Nat} : ∀ r (U U' V V' : State), U'.heap = U.heap → V.vm.Alike V'.vm → V'.heap = V.heap → Got a D fV fC A o len r U V → Got a D fV fC A o len r U' V' :=
  fun r U U' V V' h1 hal h2 ⟨e0, D', X, a1, a2, a3, a4, a5, a6, a7, a8, a9, a10, a11⟩ => ⟨e0, D', X, a1.mv hal h2, a2, by rw [h1]; exact a3, a4, by rw [h1]; exact a5.mv hal h2, a6, by rw [hal.findClass]; exact a7, a8, a9, by rw [h1, h2]; exact a10, by rw [h1, h2]; exact a11⟩
namespace New4
def yN : MethodName := ⟨"java/lang/String", "<init>", "([CIILjava/lang/Void;)V"⟩
abbrev yB : ByteArray := jdk_42_method_149_code
theorem d0 : decode yB 0 = .ok (.aload_n 0, 1) := by decide +kernel
theorem d1 : decode yB 1 = .ok (.invokespecial 1, 3) := by decide +kernel
theorem d4 : decode yB 4 = .ok (.iload_n 3, 1) := by decide +kernel
theorem d5 : decode yB 5 = .ok (.ifCond (.ne) 22, 3) := by decide +kernel
theorem d27 : decode yB 27 = .ok (.getstatic 38, 3) := by decide +kernel
theorem d30 : decode yB 30 = .ok (.ifCond (.eq) 28, 3) := by decide +kernel
theorem d33 : decode yB 33 = .ok (.aload_n 1, 1) := by decide +kernel
theorem d34 : decode yB 34 = .ok (.iload_n 2, 1) := by decide +kernel
theorem d35 : decode yB 35 = .ok (.iload_n 3, 1) := by decide +kernel
theorem d36 : decode yB 36 = .ok (.invokestatic 177, 3) := by decide +kernel
theorem d39 : decode yB 39 = .ok (.astore 5, 2) := by decide +kernel
theorem d41 : decode yB 41 = .ok (.aload_n 0, 1) := by decide +kernel
theorem d42 : decode yB 42 = .ok (.aload 5, 2) := by decide +kernel
theorem d44 : decode yB 44 = .ok (.iload_n 3, 1) := by decide +kernel
theorem d45 : decode yB 45 = .ok (.invokestatic 47, 3) := by decide +kernel
theorem d48 : decode yB 48 = .ok (.putfield 15, 3) := by decide +kernel
theorem d51 : decode yB 51 = .ok (.aload_n 0, 1) := by decide +kernel
theorem d52 : decode yB 52 = .ok (.aload 5, 2) := by decide +kernel
theorem d54 : decode yB 54 = .ok (.putfield 9, 3) := by decide +kernel
theorem d57 : decode yB 57 = .ok (.return_, 1) := by decide +kernel
def site : List Cond := [.fieldLink "java/lang/String" 38 "java/lang/String" "COMPACT_STRINGS" "Z", Cmp3.tab, CodL.tab, .laysFinal "java/lang/String" "java/lang/String" "value" "[B", .fieldLink "java/lang/String" 9 "java/lang/String" "value" "[B", .laysFinal "java/lang/String" "java/lang/String" "coder" "B", .fieldLink "java/lang/String" 15 "java/lang/String" "coder" "B"] ++ objW "java/lang/String" 1 ++ staticW "java/lang/String" 177 Cmp3.yN ++ staticW "java/lang/String" 47 CodL.yN
def tab : Cond := tabOf yN yB 6 none site
def P (a : Addr) (D : Cell) (fV fC : Field) (b : Addr) (A : Cell) (z : Int32) (o len : Nat) (args : Array Value) (s : State) : Prop := args = #[.ref a, .ref b, .int (Int32.ofNat o), .int (Int32.ofNat len), .null] ∧ Blank "java/lang/String" a D s ∧ Found "java/lang/String" "value" "[B" fV s ∧ Found "java/lang/String" "coder" "B" fC s ∧ Ch b A s ∧ StaticIs s "java/lang/String" "COMPACT_STRINGS" "Z" (.int z) ∧ ¬ z = 0 ∧ 0 < len ∧ o + len ≤ A.slots.size ∧ len ≤ 536870912 ∧ ∀ i, i < len → ¬ 255 < cv A (o + i)
def E (a : Addr) (D : Cell) (fV fC : Field) (A : Cell) (o len : Nat) (r : Option Value) (s u : State) : Prop := Got a D fV fC A o len r s u
/-- len > 0, no char of the range above 255: a Latin-1 String of their low bytes -/
theorem law (l : Launch) (a : Addr) (D : Cell) (fV fC : Field) (b : Addr) (A : Cell) (z : Int32) (o len : Nat) : Law l yN 5 4 2 35 yB 6 none site (P a D fV fC b A z o len) (E a D fV fC A o len) [⟨a, fC.slot⟩, ⟨a, fV.slot⟩] 1 len := by
  refine Law.of_walk (plainFor_of_name (by decide +kernel)) (by decide +kernel) (by decide +kernel) (by decide) (fun _ _ h => by rw [h.1]; rfl) (fun _ U U' hal hh h => ⟨h.1, h.2.1.mv hal hh, h.2.2.1.al hal, h.2.2.2.1.al hal, h.2.2.2.2.1.mv hal hh, h.2.2.2.2.2.1.there hal hh, h.2.2.2.2.2.2⟩) (fun r U U' V V' h1 hal h2 h => Got.mv r U U' V V' h1 hal h2 h) ?_
  intro p e s m args below meth c s₁ X0 hexec hbytes hml hret hlk hnm hown hh0 W hP
  obtain ⟨rfl, hB, f1, f2, hA, s1, hz, l0, l1, l2, hp⟩ := hP
  have a31 := hA.1.2.2.2
  have c1 : Steps p.tables e below (s₁.setTop (entryFrame m #[.ref a, .ref b, .int (Int32.ofNat o), .int (Int32.ofNat len), .null] 6)) (s₁.setTop (mkF m 0 #[.val (.ref a), .val (.ref b), .val (.int (Int32.ofNat o)), .val (.int (Int32.ofNat len)), .val .null, .unset] [])) := entry rfl
  have c2 : Steps p.tables e below (s₁.setTop (entryFrame m #[.ref a, .ref b, .int (Int32.ofNat o), .int (Int32.ofNat len), .null] 6)) (s₁.setTop (mkF m 1 #[.val (.ref a), .val (.ref b), .val (.int (Int32.ofNat o)), .val (.int (Int32.ofNat len)), .val .null, .unset] [.ref a])) := c1.trans (by
    refine XS.aloadN X0.here hexec rfl (hb hbytes d0) rfl rfl ?_
    exact Steps.refl _)
  obtain ⟨T3, X3, q3, st3⟩ := X0.oinit hexec hown (wks W (objW "java/lang/String" 1)) (g := (mkF m 1 #[.val (.ref a), .val (.ref b), .val (.int (Int32.ofNat o)), .val (.int (Int32.ofNat len)), .val .null, .unset] [.ref a])) rfl (by rw [hml]; rfl) (rest := []) rfl (hb hbytes d1) (W := 0) (by show 2 * 0 + 0 ≤ _; decide) (Nat.le_of_ble_eq_true rfl) (Nat.le_of_ble_eq_true rfl)
  have hh3 := q3.trans hh0
  have c4 : Steps p.tables e below (s₁.setTop (entryFrame m #[.ref a, .ref b, .int (Int32.ofNat o), .int (Int32.ofNat len), .null] 6)) (T3.setTop (mkF m 27 #[.val (.ref a), .val (.ref b), .val (.int (Int32.ofNat o)), .val (.int (Int32.ofNat len)), .val .null, .unset] [])) := (c2.trans (st3 _ (Steps.refl _))).trans (by
    refine XS.iloadN X3.here hexec rfl (hb hbytes d4) rfl ?_
    refine XS.ifYes X3.here hexec rfl (pc0 := 5) rfl (hb hbytes d5) rfl (i0_ne_t (nz32 (by omega) l0)) (by decide) rfl ?_
    exact Steps.refl _)
  obtain ⟨T5, X5, q5, st5⟩ := X3.sget hexec hown (wk W (.fieldLink "java/lang/String" 38 "java/lang/String" "COMPACT_STRINGS" "Z")) s1 (fun _ _ h => by rw [hh3]; exact h) (g := (mkF m 27 #[.val (.ref a), .val (.ref b), .val (.int (Int32.ofNat o)), .val (.int (Int32.ofNat len)), .val .null, .unset] [])) rfl (hb hbytes d27)
  have hh5 := q5.trans hh3
  have c6 : Steps p.tables e below (s₁.setTop (entryFrame m #[.ref a, .ref b, .int (Int32.ofNat o), .int (Int32.ofNat len), .null] 6)) (T5.setTop (mkF m 30 #[.val (.ref a), .val (.ref b), .val (.int (Int32.ofNat o)), .val (.int (Int32.ofNat len)), .val .null, .unset] [.int z])) := c4.trans (st5 _ (Steps.refl _))
  have c7 : Steps p.tables e below (s₁.setTop (entryFrame m #[.ref a, .ref b, .int (Int32.ofNat o), .int (Int32.ofNat len), .null] 6)) (T5.setTop (mkF m 36 #[.val (.ref a), .val (.ref b), .val (.int (Int32.ofNat o)), .val (.int (Int32.ofNat len)), .val .null, .unset] [.int (Int32.ofNat len), .int (Int32.ofNat o), .ref b])) := c6.trans (by
    refine XS.ifNo X5.here hexec rfl (hb hbytes d30) rfl (i0_eq_f hz) ?_
    refine XS.aloadN X5.here hexec rfl (hb hbytes d33) rfl rfl ?_
    refine XS.iloadN X5.here hexec rfl (hb hbytes d34) rfl ?_
    refine XS.iloadN X5.here hexec rfl (hb hbytes d35) rfl ?_
    exact Steps.refl _)
  obtain ⟨v8, T8, X8, E8, g8⟩ := X5.callS hexec (Cmp3.law l b A o len) hown (wks W (staticW "java/lang/String" 177 Cmp3.yN)) (wk W Cmp3.tab) (W := 0) (Nat.le_of_ble_eq_true rfl) (Nat.le_of_ble_eq_true rfl) (Nat.le_refl _) (by show 0 + len ≤ len; omega) (g := (mkF m 36 #[.val (.ref a), .val (.ref b), .val (.int (Int32.ofNat o)), .val (.int (Int32.ofNat len)), .val .null, .unset] [.int (Int32.ofNat len), .int (Int32.ofNat o), .ref b])) rfl (by rw [hml]; rfl) c7 (argsL := [.ref b, .int (Int32.ofNat o), .int (Int32.ofNat len)]) (rest := []) rfl rfl (by show 2 * 0 + 0 ≤ _; decide) (hb hbytes d36) (⟨rfl, hA.mv X5.warmed.alike hh5, l1, l2, hp⟩)
  obtain ⟨e8, z8⟩ := E8
  obtain ⟨rfl, N, n1, n2, n3, n4, n5, n6⟩ := NewArr.mv _ T5 s _ _ hh5.symm (Vm.Alike.refl _) rfl e8
  rw [hh5] at z8
  have hB1 := hB.keep X8.warmed.alike (n6 _ _ hB.1)
  have hne : s.heap.size ≠ a := (Nat.ne_of_lt (Array.getElem?_eq_some_iff.mp hB.1).1).symm
  have c9 : Steps p.tables e below (s₁.setTop (entryFrame m #[.ref a, .ref b, .int (Int32.ofNat o), .int (Int32.ofNat len), .null] 6)) (T8.setTop (mkF m 39 #[.val (.ref a), .val (.ref b), .val (.int (Int32.ofNat o)), .val (.int (Int32.ofNat len)), .val .null, .unset] [.ref s.heap.size])) := g8
  have c10 : Steps p.tables e below (s₁.setTop (entryFrame m #[.ref a, .ref b, .int (Int32.ofNat o), .int (Int32.ofNat len), .null] 6)) (T8.setTop (mkF m 45 #[.val (.ref a), .val (.ref b), .val (.int (Int32.ofNat o)), .val (.int (Int32.ofNat len)), .val .null, .val (.ref s.heap.size)] [.int (Int32.ofNat N.slots.size), .ref s.heap.size, .ref a])) := by
    have hc : Steps p.tables e below (s₁.setTop (entryFrame m #[.ref a, .ref b, .int (Int32.ofNat o), .int (Int32.ofNat len), .null] 6)) (T8.setTop (mkF m 45 #[.val (.ref a), .val (.ref b), .val (.int (Int32.ofNat o)), .val (.int (Int32.ofNat len)), .val .null, .val (.ref s.heap.size)] [.int (Int32.ofNat len), .ref s.heap.size, .ref a])) := c9.trans (by
      refine XS.astore X8.here hexec rfl (hb hbytes d39) rfl rfl rfl ?_
      refine XS.aloadN X8.here hexec rfl (hb hbytes d41) rfl rfl ?_
      refine XS.aload X8.here hexec rfl (hb hbytes d42) rfl rfl ?_
      refine XS.iloadN X8.here hexec rfl (hb hbytes d44) rfl ?_
      exact Steps.refl _)
    rw [n4]; exact hc
  obtain ⟨v11, T11, X11, E11, g11⟩ := X8.callS hexec (CodL.law l s.heap.size N) hown (wks W (staticW "java/lang/String" 47 CodL.yN)) (wk W CodL.tab) (W := 1) (Nat.le_of_ble_eq_true rfl) (Nat.le_of_ble_eq_true rfl) (Nat.le_refl _) (by show 0 + len + 0 ≤ len; omega) (g := (mkF m 45 #[.val (.ref a), .val (.ref b), .val (.int (Int32.ofNat o)), .val (.int (Int32.ofNat len)), .val .null, .val (.ref s.heap.size)] [.int (Int32.ofNat N.slots.size), .ref s.heap.size, .ref a])) rfl (by rw [hml]; rfl) c10 (argsL := [.ref s.heap.size, .int (Int32.ofNat N.slots.size)]) (rest := [.ref a]) rfl rfl (by show 2 * 0 + (1 + 0) ≤ _; decide) (hb hbytes d45) (⟨rfl, n1⟩)
  obtain ⟨rfl, q11⟩ := E11
  have hB11 := hB1.mv (X8.warmed.alike.symm.trans X11.warmed.alike) q11
  have c12 : Steps p.tables e below (s₁.setTop (entryFrame m #[.ref a, .ref b, .int (Int32.ofNat o), .int (Int32.ofNat len), .null] 6)) (T11.setTop (mkF m 48 #[.val (.ref a), .val (.ref b), .val (.int (Int32.ofNat o)), .val (.int (Int32.ofNat len)), .val .null, .val (.ref s.heap.size)] [.int 0, .ref a])) := g11
  obtain ⟨T13, X13, p13, bl13, sl13, st13⟩ := X11.finit hexec hown (wk W (.fieldLink "java/lang/String" 15 "java/lang/String" "coder" "B")) (Or.inr ⟨_, (wk W (.laysFinal "java/lang/String" "java/lang/String" "coder" "B"))⟩) (Or.inl ⟨rfl, hnm⟩) f2 (Or.inl rfl) hB11 (t := .byte) (by decide +kernel) rfl (g := (mkF m 48 #[.val (.ref a), .val (.ref b), .val (.int (Int32.ofNat o)), .val (.int (Int32.ofNat len)), .val .null, .val (.ref s.heap.size)] [.int 0, .ref a])) rfl (rest := []) rfl (hb hbytes d48)
  have c14 : Steps p.tables e below (s₁.setTop (entryFrame m #[.ref a, .ref b, .int (Int32.ofNat o), .int (Int32.ofNat len), .null] 6)) (T13.setTop (mkF m 54 #[.val (.ref a), .val (.ref b), .val (.int (Int32.ofNat o)), .val (.int (Int32.ofNat len)), .val .null, .val (.ref s.heap.size)] [.ref s.heap.size, .ref a])) := (c12.trans (st13 _ (Steps.refl _))).trans (by
    refine XS.aloadN X13.here hexec rfl (hb hbytes d51) rfl rfl ?_
    refine XS.aload X13.here hexec rfl (hb hbytes d52) rfl rfl ?_
    exact Steps.refl _)
  obtain ⟨T15, X15, p15, bl15, sl15, st15⟩ := X13.finit hexec hown (wk W (.fieldLink "java/lang/String" 9 "java/lang/String" "value" "[B")) (Or.inr ⟨_, (wk W (.laysFinal "java/lang/String" "java/lang/String" "value" "[B"))⟩) (Or.inl ⟨rfl, hnm⟩) f1 (Or.inl rfl) bl13 (t := (.array .byte)) (by decide +kernel) rfl (g := (mkF m 54 #[.val (.ref a), .val (.ref b), .val (.int (Int32.ofNat o)), .val (.int (Int32.ofNat len)), .val .null, .val (.ref s.heap.size)] [.ref s.heap.size, .ref a])) rfl (rest := []) rfl (hb hbytes d54)
  have c16 : Steps p.tables e below (s₁.setTop (entryFrame m #[.ref a, .ref b, .int (Int32.ofNat o), .int (Int32.ofNat len), .null] 6)) (T15.setTop (mkF m 57 #[.val (.ref a), .val (.ref b), .val (.int (Int32.ofNat o)), .val (.int (Int32.ofNat len)), .val .null, .val (.ref s.heap.size)] [])) := c14.trans (st15 _ (Steps.refl _))
  have ap := apart (Or.inr ⟨_, (wk W (.laysFinal "java/lang/String" "java/lang/String" "value" "[B"))⟩) (Or.inr ⟨_, (wk W (.laysFinal "java/lang/String" "java/lang/String" "coder" "B"))⟩) f1 f2 (t₁ := .array .byte) (t₂ := .byte) (by decide +kernel) (by decide +kernel) (by decide)
  have al := X8.warmed.alike.symm.trans X15.warmed.alike
  have n7 : T11.heap[s.heap.size]? = some N := by rw [q11]; exact n1.1
  exact ⟨T15, none, _, _, _, X15, by simp, rfl, by omega, (fun _ => rfl), ⟨rfl, _, N, bl15, ((Same.refl D _).set _ (by simp)).set _ (by simp), sl15, (Cell.slots_setSlot_ne _ ap).trans sl13, n1.keep al (p15.other hne (p13.other hne n7)), n2, by rw [al.findClass]; exact n3, n4, n5, fun y c h1 h2 => p15.other h1 (p13.other h1 (by rw [q11]; exact n6 y c h2)), by rw [p15.2.2, p13.2.2, q11]; exact z8⟩, fun fs hl => c16.trans (X15.returnOut hexec hret (hb hbytes d57) hl)⟩
end New4
namespace New1
def yN : MethodName := ⟨"java/lang/String", "<init>", "([C)V"⟩
abbrev yB : ByteArray := jdk_42_method_3_code
theorem d0 : decode yB 0 = .ok (.aload_n 0, 1) := by decide +kernel
theorem d1 : decode yB 1 = .ok (.aload_n 1, 1) := by decide +kernel
theorem d2 : decode yB 2 = .ok (.iconst 0, 1) := by decide +kernel
theorem d3 : decode yB 3 = .ok (.aload_n 1, 1) := by decide +kernel
theorem d4 : decode yB 4 = .ok (.arraylength, 1) := by decide +kernel
theorem d5 : decode yB 5 = .ok (.aconst_null, 1) := by decide +kernel
theorem d6 : decode yB 6 = .ok (.invokespecial 27, 3) := by decide +kernel
theorem d9 : decode yB 9 = .ok (.return_, 1) := by decide +kernel
def site : List Cond := [New4.tab] ++ initW "java/lang/String" 27 New4.yN
def tab : Cond := tabOf yN yB 2 none site
def P (a : Addr) (D : Cell) (fV fC : Field) (b : Addr) (A : Cell) (z : Int32) (args : Array Value) (s : State) : Prop := args = #[.ref a, .ref b] ∧ Blank "java/lang/String" a D s ∧ Found "java/lang/String" "value" "[B" fV s ∧ Found "java/lang/String" "coder" "B" fC s ∧ Ch b A s ∧ StaticIs s "java/lang/String" "COMPACT_STRINGS" "Z" (.int z) ∧ ¬ z = 0 ∧ 0 < A.slots.size ∧ A.slots.size ≤ 536870912 ∧ ∀ i, i < A.slots.size → ¬ 255 < cv A i
def E (a : Addr) (D : Cell) (fV fC : Field) (A : Cell) (r : Option Value) (s u : State) : Prop := Got a D fV fC A 0 A.slots.size r s u
/-- new String(chars), not empty, no char above 255: a Latin-1 String of their low bytes -/
theorem law (l : Launch) (a : Addr) (D : Cell) (fV fC : Field) (b : Addr) (A : Cell) (z : Int32) : Law l yN 2 1 3 52 yB 2 none site (P a D fV fC b A z) (E a D fV fC A) [⟨a, fC.slot⟩, ⟨a, fV.slot⟩] 1 A.slots.size := by
  refine Law.of_walk (plainFor_of_name (by decide +kernel)) (by decide +kernel) (by decide +kernel) (by decide) (fun _ _ h => by rw [h.1]; rfl) (fun _ U U' hal hh h => ⟨h.1, h.2.1.mv hal hh, h.2.2.1.al hal, h.2.2.2.1.al hal, h.2.2.2.2.1.mv hal hh, h.2.2.2.2.2.1.there hal hh, h.2.2.2.2.2.2⟩) (fun r U U' V V' h1 hal h2 h => Got.mv r U U' V V' h1 hal h2 h) ?_
  intro p e s m args below meth c s₁ X0 hexec hbytes hml hret hlk hnm hown hh0 W hP
  obtain ⟨rfl, hB, f1, f2, hA, s1, hz, l0, l2, hp⟩ := hP
  have c1 : Steps p.tables e below (s₁.setTop (entryFrame m #[.ref a, .ref b] 2)) (s₁.setTop (mkF m 0 #[.val (.ref a), .val (.ref b)] [])) := entry rfl
  have c2 : Steps p.tables e below (s₁.setTop (entryFrame m #[.ref a, .ref b] 2)) (s₁.setTop (mkF m 6 #[.val (.ref a), .val (.ref b)] [.null, .int (Int32.ofNat A.slots.size), .int 0, .ref b, .ref a])) := c1.trans (by
    refine XS.aloadN X0.here hexec rfl (hb hbytes d0) rfl rfl ?_
    refine XS.aloadN X0.here hexec rfl (hb hbytes d1) rfl rfl ?_
    refine iconstV X0.here hexec rfl 0 (hb hbytes d2) (by decide) ?_
    refine XS.aloadN X0.here hexec rfl (hb hbytes d3) rfl rfl ?_
    refine X0.alen hexec (hA.1.mv X0.warmed.alike hh0) rfl rfl (hb hbytes d4) ?_
    refine XS.aconstNull X0.here hexec rfl (hb hbytes d5) ?_
    exact Steps.refl _)
  obtain ⟨v3, T3, X3, E3, g3⟩ := X0.callN hexec (New4.law l a D fV fC b A z 0 A.slots.size) rfl hown (wks W (initW "java/lang/String" 27 New4.yN)) (W New4.tab (by simp only [site, List.mem_cons, List.mem_append, true_or, or_true])) (W := 0) (Nat.le_of_ble_eq_true rfl) (Nat.le_of_ble_eq_true rfl) (Nat.le_refl _) (by show 0 + A.slots.size ≤ A.slots.size; omega) (g := (mkF m 6 #[.val (.ref a), .val (.ref b)] [.null, .int (Int32.ofNat A.slots.size), .int (Int32.ofNat 0), .ref b, .ref a])) rfl (by rw [hml]; rfl) c2 (argsL := [.ref b, .int (Int32.ofNat 0), .int (Int32.ofNat A.slots.size), .null]) (rest := []) rfl rfl (by show 2 * 0 + 0 ≤ _; decide) (hb hbytes d6) (⟨rfl, hB.mv X0.warmed.alike hh0, f1.al X0.warmed.alike, f2.al X0.warmed.alike, hA.mv X0.warmed.alike hh0, s1.there X0.warmed.alike hh0, hz, l0, by omega, l2, fun i hi => by rw [Nat.zero_add]; exact hp i hi⟩)
  have e0 := Got.mv _ s₁ s _ _ hh0.symm (Vm.Alike.refl _) rfl E3
  obtain rfl := e0.1
  have c4 : Steps p.tables e below (s₁.setTop (entryFrame m #[.ref a, .ref b] 2)) (T3.setTop (mkF m 9 #[.val (.ref a), .val (.ref b)] [])) := g3
  exact ⟨T3, none, _, _, _, X3, by simp, rfl, by omega, (fun _ => rfl), e0, fun fs hl => c4.trans (X3.returnOut hexec hret (hb hbytes d9) hl)⟩
theorem pays {l : Launch} {R : Room} {p : Program} {e : Env} {below : List Frame} {s : State} {sargs : Array Value} {len W : Nat} (a : Addr) (D : Cell) (fV fC : Field) (b : Addr) (A : Cell) (z : Int32) (htab : tab.before sargs s = true) (hfr : 4 ≤ R.frames) (hlo : W + 65 ≤ R.locals) :
    Back l R p e below s sargs yN len W (fun A₁ a₁ => A₁.cells + 1 ≤ R.cells ∧ A₁.slots + A.slots.size ≤ R.slots ∧ P a D fV fC b A z a₁ A₁.U) (fun A₁ _ v₁ B₁ => E a D fV fC A v₁ A₁.U B₁.U ∧ B₁.locs = A₁.locs ++ [⟨a, fC.slot⟩, ⟨a, fV.slot⟩] ∧ B₁.cells = A₁.cells + 1 ∧ B₁.slots = A₁.slots + A.slots.size) :=
  (law l a D fV fC b A z).pays htab hfr (by omega)
end New1
/-- the byte, read back as charAt reads it, is the char -/
theorem lo8_mask {x : Int32} (h0 : ¬ x < 0) (h1 : ¬ 255 < x) : lo8 x &&& 255 = x := by
  have t : ∀ k : Fin 256, lo8 (Int32.ofNat k.val) &&& 255 = Int32.ofNat k.val := by decide +kernel
  rw [Int32.lt_iff_toInt_lt] at h0 h1
  have e0 : (0 : Int32).toInt = 0 := rfl
  have e1 : (255 : Int32).toInt = 255 := rfl
  obtain ⟨k, hk⟩ : ∃ k : Nat, x.toInt = k := ⟨x.toInt.toNat, by omega⟩
  have hx : x = Int32.ofNat k := Int32.toInt_inj.mp (by rw [hk, Int32.toInt_ofNat_small (by omega)])
  rw [hx]
  exact t ⟨k, by omega⟩
end StrChars
namespace StrChars.Road
open Jvm Sem ClassFile Op Lib Jvm.Stand Jvm.Free Jvm.Free.XT
open Jvm.Lib.Cold (StaticIs)
abbrev ST : String := "java/lang/String"
/-- every table word that New1's law asks, flat -/
abbrev words : List Jvm.Cond := [.code New1.yN New1.yB 2 none, .initialized ST, .methodLink ST 27 New4.yN, .instanceMethod New4.yN,
  .code New4.yN New4.yB 6 none, .fieldLink ST 38 ST "COMPACT_STRINGS" "Z", .laysFinal ST ST "value" "[B", .fieldLink ST 9 ST "value" "[B", .laysFinal ST ST "coder" "B", .fieldLink ST 15 ST "coder" "B",
  .methodLink ST 1 Lib.objectInit, .instanceMethod Lib.objectInit, .code Lib.objectInit ⟨#[0xb1]⟩ 1 none, .methodLink ST 177 Cmp3.yN, .static Cmp3.yN, .methodLink ST 47 CodL.yN, .static CodL.yN,
  .code Cmp3.yN Cmp3.yB 6 (some (.array .byte)), .initialized U16, .arrayClass .byte, .methodLink U16 115 Cmp5.yN, .static Cmp5.yN, .code Cmp5.yN Cmp5.yB 7 (some .int), .code CodL.yN CodL.yB 2 (some .byte)]
theorem tab_of {a : Array Value} {s : State} (h : ∀ w ∈ words, w.before a s = true) : New1.tab.before a s = true := by
  have h5 : Cmp5.tab.before a s = true := unparts (wk h (.code Cmp5.yN Cmp5.yB 7 (some .int))) (wks h (.initialized Cmp5.yN.cls :: Cmp5.site))
  have hc : CodL.tab.before a s = true := unparts (wk h (.code CodL.yN CodL.yB 2 (some .byte))) (wks h (.initialized CodL.yN.cls :: CodL.site))
  have q5 : ∀ w ∈ Cmp5.tab :: words, w.before a s = true := fun w hw => (List.mem_cons.mp hw).elim (fun e => e ▸ h5) (h w)
  have h3 : Cmp3.tab.before a s = true := unparts (wk q5 (.code Cmp3.yN Cmp3.yB 6 (some (.array .byte)))) (wks q5 (.initialized Cmp3.yN.cls :: Cmp3.site))
  have q3 : ∀ w ∈ Cmp3.tab :: CodL.tab :: words, w.before a s = true := fun w hw => (List.mem_cons.mp hw).elim (fun e => e ▸ h3) fun hw => (List.mem_cons.mp hw).elim (fun e => e ▸ hc) (h w)
  have h4 : New4.tab.before a s = true := unparts (wk q3 (.code New4.yN New4.yB 6 none)) (wks q3 (.initialized New4.yN.cls :: New4.site))
  have q4 : ∀ w ∈ New4.tab :: words, w.before a s = true := fun w hw => (List.mem_cons.mp hw).elim (fun e => e ▸ h4) (h w)
  exact unparts (wk q4 (.code New1.yN New1.yB 2 none)) (wks q4 (.initialized New1.yN.cls :: New1.site))
/-- the words ride from the start Z to the walk's own state -/
theorem moved {Z s : State} {a0 args : Array Value} (hZ : Z.Warmed39 s.vm) (hw : ∀ d ∈ words, d.before a0 Z = true) : ∀ d ∈ words, d.before args s = true := fun d hd => by
  have q := hw d hd
  have t : ∀ d ∈ words, d = .arrayClass .byte ∨ (d.onTables && d.keepsFace) = true := by decide +kernel
  rcases t d hd with rfl | t
  · exact RoadKit.mvA hZ q
  · exact RoadKit.mv hZ q t
/-- WHAT COMES BACK, over the tables of the start Z: h the heap at the call, h' behind it -/
def Q (Z : State) (x : Addr) (A : Cell) (h : Heap) (v : Option Value) (h' : Heap) (L : List Loc) : Prop := v = none ∧ (∀ y ∈ L, y.base = x) ∧ RoadKit.Keep h h' [x] ∧ h'.size = h.size + 1 ∧ RoadKit.Exa Z h' x ST ∧ RoadKit.Fld Z h' x ST "value" "[B" (.ref h.size) ∧ RoadKit.Fld Z h' x ST "coder" "B" (.int 0) ∧
  (∃ V : Cell, RoadKit.Arr Z h' h.size V .byte ∧ V.vm = .none ∧ Z.vm.findClass "[B" = some V.cls ∧ V.slots.size = A.slots.size ∧ ∀ j, j < A.slots.size → V.slots[j]? = some (.int (lo8 (cv A j)))) ∧
  ∀ (O n d : String) (w : Value), RoadKit.Fld Z h x O n d w → RoadKit.slotOf Z O n d ≠ RoadKit.slotOf Z ST "value" "[B" → RoadKit.slotOf Z O n d ≠ RoadKit.slotOf Z ST "coder" "B" → RoadKit.Fld Z h' x O n d w
/-- **new String(chars) AT A CALL, IN THE ROAD'S FORM**: for specialBack behind newO: x the fresh String, b the char[] with the cell A -/
theorem back {p : Program} {l : Launch} {e : Env} {R : Room} {s : State} {args : Array Value} {below : List Frame} {len W : Nat} {Z : State} {a0 : Array Value} {h : Heap} (hZ : Z.Warmed39 s.vm) (hw : ∀ d ∈ words, d.before a0 Z = true) {kI : Nat} (wi : (Jvm.Cond.instantiable ST kI).before a0 Z = true)
    {x b : Addr} {A : Cell} {z : Int32} {v0 c0 : Value} (E : RoadKit.Exa Z h x ST) (V : RoadKit.Fld Z h x ST "value" "[B" v0) (C : RoadKit.Fld Z h x ST "coder" "B" c0) (K : RoadKit.Arr Z h b A .char) (hty : Typed .char A) (S : RoadKit.Sta Z h ST "COMPACT_STRINGS" "Z" (.int z)) (hz : ¬ z = 0)
    (l0 : 0 < A.slots.size) (l2 : A.slots.size ≤ 536870912) (hp : ∀ i, i < A.slots.size → ¬ 255 < cv A i) (hfr : 4 ≤ R.frames) (hlo : W + 65 ≤ R.locals) :
    Back l R p e below s args New1.yN len W (fun P a => a = #[.ref x, .ref b] ∧ P.U.heap = h ∧ P.cells + 1 ≤ R.cells ∧ P.slots + A.slots.size ≤ R.slots)
      (fun P _ v B => ∃ L, Q Z x A h v B.U.heap L ∧ B.locs = P.locs ++ L ∧ B.cells = P.cells + 1 ∧ B.slots = P.slots + A.slots.size) := by
  intro m meth c P g ig mk a X hg hsize hdg hW hn hp'
  obtain ⟨rfl, rfl, r1, r2⟩ := hp'
  have al : Z.vm.Alike P.U.vm := hZ.alike.trans X.warmed.alike
  obtain ⟨D, cfV, kV, iV, fV, hD, gV, stV, knV, obV, asV, slV⟩ := id V
  obtain ⟨D', cfC, kC, iC, fC, hD', gC, stC, -, -, asC, slC⟩ := id C
  cases hD.symm.trans hD'
  obtain ⟨D2, kD, e1, e2, e3, e4, e5⟩ := id E
  cases hD.symm.trans e1
  obtain ⟨c2, k2, i1, i2, i3, -⟩ := Cond.instantiable_spec wi
  cases e2.symm.trans i1
  cases e3.symm.trans i2
  obtain ⟨kU, u1, u2⟩ := al.2.2 _ _ e3
  have hB : Blank ST x D P.U := ⟨hD, ⟨knV, fun q hq => by rw [hq] at obV; cases obV⟩, by rw [al.findClass]; exact e2, kU, u1, by rw [u2]; exact i3, by rw [u2]; exact e5 i3⟩
  have F1 : Found ST "value" "[B" fV P.U := ⟨SBG.found_only al ⟨cfV, kV, iV, gV⟩, stV⟩
  have F2 : Found ST "coder" "B" fC P.U := ⟨SBG.found_only al ⟨cfC, kC, iC, gC⟩, stC⟩
  have hA : Ch b A P.U := ⟨⟨K.1, State.isArrayOf_alike al K.2.1, K.2.2, by omega⟩, hty⟩
  have hS : StaticIs P.U ST "COMPACT_STRINGS" "Z" (.int z) := by
    obtain ⟨cfS, iS, kS, fS, st, cS, t1, t2, t3, t4, t5, t6, t7⟩ := S
    exact StaticIs.there (s := { Z with heap := P.U.heap }) ⟨cfS, iS, kS, fS, st, cS, t1, t2, t3, t4, t5, (fun q => by rw [q] at t6; cases t6), t7⟩ al rfl
  obtain ⟨v, B, X', ⟨⟨hv, E', V', q1, q2, q3, q4, q5, q6, q7, q8, q9, q10, q11⟩, hl, hc, hs⟩, st⟩ := New1.pays x D fV fC b A z (tab_of (moved hZ hw)) hfr hlo m meth c P g ig mk _ X hg hsize hdg hW hn ⟨r1, r2, rfl, hB, F1, F2, hA, hS, hz, l0, l2, hp⟩
  have al' : Z.vm.Alike B.U.vm := hZ.alike.trans X'.warmed.alike
  have hsz : E'.slots.size = D.slots.size := by
    obtain ⟨-, -, -, kB, w1, w2, w3⟩ := q1
    obtain ⟨kB', y1, y2⟩ := al'.2.2 _ _ e3
    rw [q2.2.1] at w1
    cases w1.symm.trans y1
    rw [w3, e5 i3, y2]
  refine ⟨v, B, X', ⟨_, ⟨hv, ?_, ⟨by omega, fun y cy hy hn' => q10 y cy (by simpa using hn') hy, fun y cy hy => ?_⟩, q11, ⟨E', _, q1.1, by rw [q2.2.1]; exact e2, by rw [q2.2.1]; exact e3, by rw [q2.1]; exact obV, fun _ => by rw [hsz]; exact e5 i3⟩,
    ⟨E', cfV, kV, iV, fV, q1.1, gV, stV, by rw [q2.1]; exact knV, by rw [q2.1]; exact obV, by rw [q2.2.1]; exact asV, q3⟩, ⟨E', cfC, kC, iC, fC, q1.1, gC, stC, by rw [q2.1]; exact knV, by rw [q2.1]; exact obV, by rw [q2.2.1]; exact asC, q4⟩,
    ⟨V', ⟨q5.1, State.isArrayOf_alike al'.symm q5.2.1, q5.2.2.1⟩, q6, by rw [← al'.findClass]; exact q7, q8, fun j hj => by have := q9 j hj; rwa [Nat.zero_add] at this⟩, fun O n d w F n1 n2 => ?_⟩, hl, hc, hs⟩, st⟩
  · intro y hy
    simp only [List.mem_cons, List.not_mem_nil, or_false] at hy
    rcases hy with rfl | rfl <;> rfl
  · by_cases q : y = x
    · subst q
      cases hD.symm.trans hy
      exact ⟨E', q1.1, q2.2.1, q2.1, hsz⟩
    · exact ⟨cy, q10 y cy q hy, rfl, rfl, rfl⟩
  · obtain ⟨D3, cf, k, i, f, g1, g2, g3, g4, g5, g6, g7⟩ := F
    cases hD.symm.trans g1
    simp only [RoadKit.slotOf, g2, gV, gC, Option.map_some, Option.getD_some] at n1 n2
    exact ⟨E', cf, k, i, f, q1.1, g2, g3, by rw [q2.1]; exact g4, by rw [q2.1]; exact g5, by rw [q2.2.1]; exact g6, by rw [q2.2.2 f.slot (by simp [n1, n2])]; exact g7⟩
end StrChars.Road
namespace StrChars.Road
open Jvm Sem ClassFile Op Lib Jvm.Stand Jvm.Free Jvm.Free.XT
/-- WHAT COMES BACK, the byte[] as a list of values -/
def QA (Z : State) (x : Addr) (zn : Int32) (cs : List Int32) (h : Heap) (v : Option Value) (h' : Heap) (L : List Loc) : Prop := v = none ∧ (∀ y ∈ L, y.base = x) ∧ RoadKit.Keep h h' [x] ∧ h'.size = h.size + 1 ∧ RoadKit.Exa Z h' x ST ∧ RoadKit.Fld Z h' x ST "value" "[B" (.ref h.size) ∧ RoadKit.Fld Z h' x ST "coder" "B" (.int 0) ∧
  (∃ kb, Z.vm.findClass "[B" = some kb ∧ RoadKit.Arv Z h' h.size kb .byte zn (cs.map fun c => .int (lo8 c)) (.int 0)) ∧
  ∀ (O n d : String) (w : Value), RoadKit.Fld Z h x O n d w → RoadKit.slotOf Z O n d ≠ RoadKit.slotOf Z ST "value" "[B" → RoadKit.slotOf Z O n d ≠ RoadKit.slotOf Z ST "coder" "B" → RoadKit.Fld Z h' x O n d w
/-- **new String(chars) AT A CALL, THE ARRAYS AS LISTS**: the char[] at b holds cs, not empty, no char above 255 -/
theorem backArv {p : Program} {l : Launch} {e : Env} {R : Room} {s : State} {args : Array Value} {below : List Frame} {len W : Nat} {Z : State} {a0 : Array Value} {h : Heap} (hZ : Z.Warmed39 s.vm) (hw : ∀ d ∈ words, d.before a0 Z = true) {kI : Nat} (wi : (Jvm.Cond.instantiable ST kI).before a0 Z = true)
    {x b : Addr} {k : ClassId} {zn z : Int32} {cs : List Int32} {dv v0 c0 : Value} (E : RoadKit.Exa Z h x ST) (V : RoadKit.Fld Z h x ST "value" "[B" v0) (C : RoadKit.Fld Z h x ST "coder" "B" c0) (K : RoadKit.Arv Z h b k .char zn (cs.map Value.int) dv) (S : RoadKit.Sta Z h ST "COMPACT_STRINGS" "Z" (.int z)) (hz : ¬ z = 0)
    (hlen : zn.toNatClampNeg = cs.length) (h0 : 0 < cs.length) (hbig : cs.length ≤ 536870912) (hall : ∀ c ∈ cs, ¬ 255 < c) (hfr : 4 ≤ R.frames) (hlo : W + 65 ≤ R.locals) :
    Back l R p e below s args New1.yN len W (fun P a => a = #[.ref x, .ref b] ∧ P.U.heap = h ∧ P.cells + 1 ≤ R.cells ∧ P.slots + cs.length ≤ R.slots)
      (fun P _ v B => ∃ L, QA Z x zn cs h v B.U.heap L ∧ B.locs = P.locs ++ L ∧ B.cells = P.cells + 1 ∧ B.slots = P.slots + cs.length) := by
  obtain ⟨A, K1, K2, K3, K4, K5, K6⟩ := K
  have e : A.slots.size = cs.length := K3.trans hlen
  have hat : ∀ (i : Nat) (hi : i < cs.length), A.slots[i]? = some (.int cs[i]) := fun i hi => by rw [K5 i (by omega)]; simp [List.getD_eq_getElem?_getD, hi]
  have hcv : ∀ (i : Nat) (hi : i < cs.length), cv A i = cs[i] := fun i hi => by unfold cv; rw [hat i hi]
  have hty : Typed .char A := fun i v hv => by
    have hi : i < A.slots.size := (Array.getElem?_eq_some_iff.mp hv).1
    have q := K5 i hi
    rw [hv] at q
    rw [Option.some.inj q]
    exact K6 i hi
  refine Back.mono (back hZ hw wi E V C K1 hty S hz (by omega) (by omega) (fun i hi => by rw [hcv i (by omega)]; exact hall _ (List.getElem_mem _)) hfr hlo) (fun P a hp => ⟨hp.1, hp.2.1, hp.2.2.1, by rw [e]; exact hp.2.2.2⟩) (fun P a v B hp hq => ?_)
  obtain ⟨L, ⟨q1, q2, q3, q4, q5, q6, q7, ⟨V', v1, v2, v3, v4, v5⟩, q9⟩, hl, hc, hs⟩ := hq
  refine ⟨L, ⟨q1, q2, q3, q4, q5, q6, q7, ⟨V'.cls, v3, V', v1, rfl, by rw [v4, e, hlen], K4, fun i hi => ?_, fun i hi => ?_⟩, q9⟩, hl, hc, by rw [hs, e]⟩
  · have hi' : i < cs.length := by omega
    rw [v5 i (by omega), hcv i hi']; simp [List.getD_eq_getElem?_getD, hi']
  · have hi' : i < cs.length := by omega
    simp only [List.getD_eq_getElem?_getD, List.getElem?_map, List.getElem?_eq_getElem hi', Option.map_some, Option.getD_some]
    exact fits_lo8 _
end StrChars.Road
namespace StrChars.Road
open Jvm Sem ClassFile Op Lib Jvm.Stand Jvm.Free Jvm.Free.XT
/-- WHAT COMES BACK, in the writer's own shape -/
def QV (Z : State) (x : Addr) (N : Int32) (bs : List Int32) (h : Heap) (n0 : Nat) (v : Option Value) (h' : Heap) (L : List Loc) : Prop := v = none ∧ RoadKit.Fr n0 L ∧ RoadKit.Keep h h' [x] ∧ RoadKit.Exa Z h' x ST ∧ RoadKit.Fld Z h' x ST "coder" "B" (.int 0) ∧
  ∃ (t : Addr) (kb : ClassId), n0 ≤ t ∧ h.size ≤ t ∧ ¬ t = x ∧ RoadKit.Fld Z h' x ST "value" "[B" (.ref t) ∧ RoadKit.Arv Z h' t kb .byte N (bs.map Value.int) (.int 0)
/-- **new String(chars) AT A CALL, FOR THE WRITER**: a char[] of n known ints, each 0 to 255 -/
theorem backV {p : Program} {l : Launch} {e : Env} {R : Room} {s : State} {args : Array Value} {below : List Frame} {len W : Nat} {Z : State} {a0 : Array Value} {h : Heap} (hZ : Z.Warmed39 s.vm) (hw : ∀ d ∈ words, d.before a0 Z = true) {kI : Nat} (wi : (Jvm.Cond.instantiable ST kI).before a0 Z = true)
    {x b : Addr} {kC : ClassId} {cs bs : List Int32} {d v0 c0 : Value} {z N : Int32} {n n0 : Nat} (hx0 : n0 ≤ x) (hh0 : n0 ≤ h.size) (E : RoadKit.Exa Z h x ST) (V : RoadKit.Fld Z h x ST "value" "[B" v0) (C : RoadKit.Fld Z h x ST "coder" "B" c0) (K : RoadKit.Arv Z h b kC .char N (cs.map Value.int) d) (S : RoadKit.Sta Z h ST "COMPACT_STRINGS" "Z" (.int z)) (hz : ¬ z = 0)
    (hn : cs.length = n) (hN : N = Int32.ofNat n) (l0 : 0 < n) (l2 : n ≤ 4000) (hp : ∀ c ∈ cs, ¬ c < 0 ∧ ¬ (255 : Int32) < c) (hb : bs = cs.map (fun c => c.toInt8.toInt32)) (hfr : 4 ≤ R.frames) (hlo : W + 65 ≤ R.locals) :
    Back l R p e below s args (⟨"java/lang/String", "<init>", "([C)V"⟩ : MethodName) len W (fun P a => a = #[.ref x, .ref b] ∧ P.U.heap = h ∧ P.cells + 1 ≤ R.cells ∧ P.slots + n ≤ R.slots)
      (fun P _ v B => ∃ L, QV Z x N bs h n0 v B.U.heap L ∧ B.locs = P.locs ++ L ∧ B.cells = P.cells + 1 ∧ B.slots = P.slots + n) := by
  subst hn hN hb
  refine Back.mono (backArv hZ hw wi E V C K S hz (n32 (by omega)) l0 (by omega) (fun c hc => (hp c hc).2) hfr hlo) (fun P a hp => hp) (fun P a v B hp hq => ?_)
  obtain ⟨L, ⟨q1, q2, q3, q4, q5, q6, q7, ⟨kb, v1, v2⟩, q9⟩, hl, hc, hs⟩ := hq
  exact ⟨L, ⟨q1, fun y hy => by rw [q2 y hy]; exact hx0, q3, q5, q7, h.size, kb, hh0, Nat.le_refl _, Nat.ne_of_gt E.lt, q6, by rw [List.map_map]; exact v2⟩, hl, hc, hs⟩
end StrChars.Road
namespace StrChars
open Jvm Sem ClassFile Op Lib Jvm.Stand Jvm.Free.XT Jvm.Free.ALB Jvm.Free.JM Jvm.Free
open Jvm.Lib.Cold (StaticIs)
def hi8 (x : Int32) : Int32 := lo8 (x >>> ((8 : Int32) &&& 31))
/-- what StringUTF16.getChar makes of two bytes -/
def pairCh (u v : Int32) : Int32 := (((u &&& 255) <<< ((0 : Int32) &&& 31)) ||| ((v &&& 255) <<< ((8 : Int32) &&& 31))).toUInt32.toUInt16.toUInt32.toInt32
theorem lo8_and (x : Int32) : (lo8 x &&& 255).toBitVec.toNat = x.toBitVec.toNat % 256 := by
  have h : (lo8 x).toBitVec = (x.toBitVec.signExtend 8).signExtend 32 := by rw [lo8, Int8.toBitVec_toInt32, Int32.toBitVec_toInt8]
  rw [Int32.toBitVec_and, BitVec.toNat_and, h]
  have e : ((x.toBitVec.signExtend 8).signExtend 32).toNat % 256 = x.toBitVec.toNat % 256 := by
    rw [BitVec.toNat_signExtend]
    have hlt := x.toBitVec.isLt
    simp only [BitVec.toNat_setWidth, BitVec.toNat_signExtend]
    split <;> split <;> omega
  rw [← e]
  exact Nat.and_two_pow_sub_one_eq_mod _ 8
theorem pair_says {c : Int32} (h0 : ¬ c < 0) (h1 : ¬ 65535 < c) : pairCh (lo8 c) (hi8 c) = c := by
  rw [Int32.lt_iff_toInt_lt] at h0 h1
  have e0 : (0 : Int32).toInt = 0 := rfl
  have e1 : (65535 : Int32).toInt = 65535 := rfl
  have hc : c.toInt = c.toBitVec.toNat := by
    have := c.toBitVec.isLt
    have e : c.toInt = c.toBitVec.toInt := rfl
    rw [e] at h0 h1
    rw [e]
    rw [BitVec.toInt_eq_toNat_cond] at h0 h1 ⊢
    split at h0 <;> split <;> omega
  have hn : c.toBitVec.toNat < 65536 := by omega
  have a1 := lo8_and c
  have a2 : (hi8 c &&& 255).toBitVec.toNat = c.toBitVec.toNat / 256 := by
    rw [hi8, lo8_and]
    have e : ((8 : Int32) &&& 31) = 8 := by decide
    rw [e, Int32.toBitVec_shiftRight]
    have e2 : ((8 : Int32).toBitVec.smod 32) = 8#32 := by decide
    rw [e2, BitVec.sshiftRight_eq', BitVec.toNat_sshiftRight_of_msb_false (by rw [BitVec.msb_eq_false_iff_two_mul_lt]; omega)]
    show c.toBitVec.toNat >>> 8 % 256 = _
    rw [Nat.shiftRight_eq_div_pow]
    omega
  unfold pairCh
  apply Int32.toBitVec_inj.mp
  apply BitVec.eq_of_toNat_eq
  have f0 : ((0 : Int32) &&& 31) = 0 := by decide
  have f8 : ((8 : Int32) &&& 31) = 8 := by decide
  rw [f0, f8]
  have g : (((lo8 c &&& 255) <<< (0 : Int32)) ||| ((hi8 c &&& 255) <<< (8 : Int32))).toBitVec.toNat = c.toBitVec.toNat := by
    rw [Int32.toBitVec_or, Int32.toBitVec_shiftLeft, Int32.toBitVec_shiftLeft]
    have s0 : ((0 : Int32).toBitVec.smod 32) = 0#32 := by decide
    have s8 : ((8 : Int32).toBitVec.smod 32) = 8#32 := by decide
    rw [s0, s8, BitVec.toNat_or]
    simp only [BitVec.shiftLeft_eq', BitVec.toNat_shiftLeft, a1, a2]
    show (c.toBitVec.toNat % 256) <<< 0 % 2 ^ 32 ||| (c.toBitVec.toNat / 256) <<< 8 % 2 ^ 32 = _
    rw [Nat.shiftLeft_zero, Nat.mod_eq_of_lt (show c.toBitVec.toNat % 256 < 2 ^ 32 by omega), Nat.mod_eq_of_lt (show (c.toBitVec.toNat / 256) <<< 8 < 2 ^ 32 by rw [Nat.shiftLeft_eq]; omega), Nat.or_comm, ← Nat.shiftLeft_add_eq_or_of_lt (by omega), Nat.shiftLeft_eq]
    omega
  show BitVec.toNat (((((lo8 c &&& 255) <<< (0 : Int32)) ||| ((hi8 c &&& 255) <<< (8 : Int32))).toBitVec.setWidth 16).setWidth 32) = _
  rw [BitVec.toNat_setWidth, BitVec.toNat_setWidth, g]
  omega
end StrChars
namespace StrChars
open Jvm Sem ClassFile Op Lib Jvm.Stand Jvm.Free.XT Jvm.Free.ALB Jvm.Free.JM Jvm.Free
open Jvm.Lib.Cold (StaticIs)
/-- the array's cell V codes the n chars f 0 .. f (n - 1) by the coder cd, as the JDK does: coder 1 just where some char is above 255 -/
def Cod (cd : Int32) (n : Nat) (f : Nat → Int32) (V : Cell) : Prop := (cd = 0 ∧ V.slots.size = n ∧ ∀ j, j < n → V.slots[j]? = some (.int (lo8 (f j))) ∧ ¬ 255 < f j) ∨ (cd = 1 ∧ V.slots.size = 2 * n ∧ (∀ j, j < n → V.slots[2 * j]? = some (.int (lo8 (f j))) ∧ V.slots[2 * j + 1]? = some (.int (hi8 (f j)))) ∧ ∃ j, j < n ∧ 255 < f j)
/-- **x is a String of the n chars f 0 .. f (n - 1)**, Latin-1 or UTF-16; its array at t has the cell V -/
def Txt (x t : Addr) (V : Cell) (cd : Int32) (n : Nat) (f : Nat → Int32) (U : State) : Prop := Exact "java/lang/String" x U ∧ Has x "java/lang/String" "value" "[B" (.ref t) U ∧ Has x "java/lang/String" "coder" "B" (.int cd) U ∧ XT.Arr .byte t V U ∧ Cod cd n f V ∧ ∀ j, j < n → ¬ f j < 0 ∧ ¬ 65535 < f j
theorem Txt.mv {x t : Addr} {V : Cell} {cd : Int32} {n : Nat} {f : Nat → Int32} {U U' : State} (h : Txt x t V cd n f U) (hal : U.vm.Alike U'.vm) (hh : U'.heap = U.heap) : Txt x t V cd n f U' := ⟨h.1.mv hal hh, h.2.1.mv hal hh, h.2.2.1.mv hal hh, h.2.2.2.1.mv hal hh, h.2.2.2.2⟩
end StrChars
namespace StrChars.Road
open Jvm Sem ClassFile Op Lib Jvm.Stand Jvm.Free Jvm.Free.XT
open Jvm.Lib.Cold (StaticIs)
theorem consq {a : Array Value} {s : State} {c : Jvm.Cond} {L : List Jvm.Cond} (h0 : c.before a s = true) (h : ∀ w ∈ L, w.before a s = true) : ∀ w ∈ c :: L, w.before a s = true := fun w hw => (List.mem_cons.mp hw).elim (fun e => e ▸ h0) (h w)
/-- the bytes of the chars cs, low before high -/
def wideBytes : List Int32 → List Value
  | [] => []
  | c :: cs => .int (lo8 c) :: .int (hi8 c) :: wideBytes cs
theorem wide_lo (d : Value) : ∀ (cs : List Int32) (j : Nat), j < cs.length → (wideBytes cs).getD (2 * j) d = .int (lo8 (cs.getD j 0))
  | [], j, h => absurd h (Nat.not_lt_zero j)
  | c :: cs, 0, _ => rfl
  | c :: cs, j + 1, h => by
    have q := wide_lo d cs j (by simpa using h)
    rw [show 2 * (j + 1) = 2 * j + 1 + 1 from by omega]
    simpa [wideBytes] using q
theorem wide_hi (d : Value) : ∀ (cs : List Int32) (j : Nat), j < cs.length → (wideBytes cs).getD (2 * j + 1) d = .int (hi8 (cs.getD j 0))
  | [], j, h => absurd h (Nat.not_lt_zero j)
  | c :: cs, 0, _ => rfl
  | c :: cs, j + 1, h => by
    have q := wide_hi d cs j (by simpa using h)
    rw [show 2 * (j + 1) + 1 = 2 * j + 1 + 1 + 1 from by omega]
    simpa [wideBytes] using q
theorem low_at (d : Value) (cs : List Int32) (j : Nat) (h : j < cs.length) : (cs.map fun c => Value.int (lo8 c)).getD j d = .int (lo8 (cs.getD j 0)) := by
  simp [List.getD_eq_getElem?_getD, h]
/-- an array of N2 bytes vs codes the chars cs by the coder cd -/
def CodA (cs : List Int32) (cd N2 : Int32) (vs : List Value) : Prop := (cd = 0 ∧ N2 = Int32.ofNat cs.length ∧ vs = (cs.map fun c => Value.int (lo8 c)) ∧ ∀ c ∈ cs, ¬ 255 < c) ∨ (cd = 1 ∧ N2 = Int32.ofNat (2 * cs.length) ∧ vs = wideBytes cs ∧ ∃ c ∈ cs, 255 < c)
theorem CodA.cod {cs : List Int32} {cd N2 : Int32} {vs : List Value} {V : Cell} (h : CodA cs cd N2 vs) (hn : 2 * cs.length < 2 ^ 31) (hs : V.slots.size = N2.toNatClampNeg) (hv : RoadKit.Has V vs (.int 0)) : Cod cd cs.length (fun j => cs.getD j 0) V := by
  rcases h with ⟨rfl, rfl, rfl, h⟩ | ⟨rfl, rfl, rfl, c, hc, hw⟩
  · rw [n32 (by omega)] at hs
    exact Or.inl ⟨rfl, hs, fun j hj => ⟨by rw [hv j (by omega), low_at _ _ _ hj], by
      have e : cs.getD j 0 = cs[j] := by simp [List.getD_eq_getElem?_getD, hj]
      show ¬ 255 < cs.getD j 0
      rw [e]; exact h _ (List.getElem_mem _)⟩⟩
  · rw [n32 (by omega)] at hs
    obtain ⟨j, hj, rfl⟩ := List.getElem_of_mem hc
    exact Or.inr ⟨rfl, hs, fun j hj => ⟨by rw [hv _ (by omega), wide_lo _ _ _ hj], by rw [hv _ (by omega), wide_hi _ _ _ hj]⟩, j, hj, by
      have e : cs.getD j 0 = cs[j] := by simp [List.getD_eq_getElem?_getD, hj]
      show 255 < cs.getD j 0
      rw [e]; exact hw⟩
/-- an object of exactly java/lang/String, its two fields found: as the laws ask it -/
theorem strObj {Z U : State} {a0 : Array Value} {kI : Nat} (wi : (Jvm.Cond.instantiable ST kI).before a0 Z = true) (al : Z.vm.Alike U.vm) {x : Addr} {v0 c0 : Value} (E : RoadKit.Exa Z U.heap x ST) (V : RoadKit.Fld Z U.heap x ST "value" "[B" v0) (C : RoadKit.Fld Z U.heap x ST "coder" "B" c0) :
    ∃ (D : Cell) (fV fC : Field), Blank ST x D U ∧ Found ST "value" "[B" fV U ∧ Found ST "coder" "B" fC U ∧ D.slots[fV.slot]? = some v0 ∧ D.slots[fC.slot]? = some c0 ∧ RoadKit.slotOf Z ST "value" "[B" = fV.slot ∧ RoadKit.slotOf Z ST "coder" "B" = fC.slot := by
  obtain ⟨D, cfV, kV, iV, fV, hD, gV, stV, knV, obV, asV, slV⟩ := V
  obtain ⟨D', cfC, kC, iC, fC, hD', gC, stC, -, -, asC, slC⟩ := C
  cases hD.symm.trans hD'
  obtain ⟨D2, kD, e1, e2, e3, e4, e5⟩ := E
  cases hD.symm.trans e1
  obtain ⟨c2, k2, i1, i2, i3, -⟩ := Cond.instantiable_spec wi
  cases e2.symm.trans i1
  cases e3.symm.trans i2
  obtain ⟨kU, u1, u2⟩ := al.2.2 _ _ e3
  exact ⟨D, fV, fC, ⟨hD, ⟨knV, fun q hq => by rw [hq] at obV; cases obV⟩, by rw [al.findClass]; exact e2, kU, u1, by rw [u2]; exact i3, by rw [u2]; exact e5 i3⟩, ⟨SBG.found_only al ⟨cfV, kV, iV, gV⟩, stV⟩, ⟨SBG.found_only al ⟨cfC, kC, iC, gC⟩, stC⟩, slV, slC, by simp [RoadKit.slotOf, gV], by simp [RoadKit.slotOf, gC]⟩
theorem sta_is {Z U : State} (al : Z.vm.Alike U.vm) {C n d : String} {v : Value} (S : RoadKit.Sta Z U.heap C n d v) : StaticIs U C n d v := by
  obtain ⟨cfS, iS, kS, fS, st, cS, t1, t2, t3, t4, t5, t6, t7⟩ := S
  exact StaticIs.there (s := { Z with heap := U.heap }) ⟨cfS, iS, kS, fS, st, cS, t1, t2, t3, t4, t5, (fun q => by rw [q] at t6; cases t6), t7⟩ al rfl
end StrChars.Road
namespace StrChars
open Jvm Sem ClassFile Op Lib Jvm.Stand Jvm.Free.XT Jvm.Free.ALB Jvm.Free.JM Jvm.Free
open Jvm.Lib.Cold (StaticIs)
/-- what place i of a byte[]'s cell holds -/
def yv (A : Cell) (i : Nat) : Int32 := match A.slots[i]? with | some (.int x) => x | _ => 0
theorem yv_get {a : Addr} {A : Cell} {U : State} (h : XT.Arr .byte a A U) (ht : Typed .byte A) {i : Nat} (hi : i < A.slots.size) : A.slots[i]? = some (.int (yv A i)) := by
  have e := Array.getElem?_eq_getElem hi
  have f := ht i _ e
  unfold yv; rw [e]
  generalize A.slots[i] = v at f
  cases v <;> simp [fits] at f ⊢
/-- the two arrays are equal, place for place -/
def EqC (A B : Cell) : Prop := A.slots.size = B.slots.size ∧ ∀ i, i < A.slots.size → yv A i = yv B i
/-- a boolean that says whether p -/
def Says01 (q : Prop) (r : Option Value) (s u : State) : Prop := ∃ v : Int32, r = some (.int v) ∧ u.heap = s.heap ∧ ((v = 1 ∧ q) ∨ (v = 0 ∧ ¬ q))
theorem Says01.mv {q : Prop} : ∀ r (U U' V V' : State), U'.heap = U.heap → V.vm.Alike V'.vm → V'.heap = V.heap → Says01 q r U V → Says01 q r U' V' :=
  fun r U U' V V' h1 _ h2 ⟨v, a, b, c⟩ => ⟨v, a, by rw [h1, h2]; exact b, c⟩
namespace LEq
def yN : MethodName := ⟨"java/lang/StringLatin1", "equals", "([B[B)Z"⟩
abbrev yB : ByteArray := jdk_43_method_13_code
theorem d0 : decode yB 0 = .ok (.aload_n 0, 1) := by decide +kernel
theorem d1 : decode yB 1 = .ok (.arraylength, 1) := by decide +kernel
theorem d2 : decode yB 2 = .ok (.aload_n 1, 1) := by decide +kernel
theorem d3 : decode yB 3 = .ok (.arraylength, 1) := by decide +kernel
theorem d4 : decode yB 4 = .ok (.if_icmp (.ne) 30, 3) := by decide +kernel
theorem d7 : decode yB 7 = .ok (.iconst 0, 1) := by decide +kernel
theorem d8 : decode yB 8 = .ok (.istore_n 2, 1) := by decide +kernel
theorem d9 : decode yB 9 = .ok (.iload_n 2, 1) := by decide +kernel
theorem d10 : decode yB 10 = .ok (.aload_n 0, 1) := by decide +kernel
theorem d11 : decode yB 11 = .ok (.arraylength, 1) := by decide +kernel
theorem d12 : decode yB 12 = .ok (.if_icmp (.ge) 20, 3) := by decide +kernel
theorem d15 : decode yB 15 = .ok (.aload_n 0, 1) := by decide +kernel
theorem d16 : decode yB 16 = .ok (.iload_n 2, 1) := by decide +kernel
theorem d17 : decode yB 17 = .ok (.baload, 1) := by decide +kernel
theorem d18 : decode yB 18 = .ok (.aload_n 1, 1) := by decide +kernel
theorem d19 : decode yB 19 = .ok (.iload_n 2, 1) := by decide +kernel
theorem d20 : decode yB 20 = .ok (.baload, 1) := by decide +kernel
theorem d21 : decode yB 21 = .ok (.if_icmp (.eq) 5, 3) := by decide +kernel
theorem d24 : decode yB 24 = .ok (.iconst 0, 1) := by decide +kernel
theorem d25 : decode yB 25 = .ok (.ireturn, 1) := by decide +kernel
theorem d26 : decode yB 26 = .ok (.iinc 2 1, 3) := by decide +kernel
theorem d29 : decode yB 29 = .ok (.goto (-20), 3) := by decide +kernel
theorem d32 : decode yB 32 = .ok (.iconst 1, 1) := by decide +kernel
theorem d33 : decode yB 33 = .ok (.ireturn, 1) := by decide +kernel
theorem d34 : decode yB 34 = .ok (.iconst 0, 1) := by decide +kernel
theorem d35 : decode yB 35 = .ok (.ireturn, 1) := by decide +kernel
def site : List Cond := []
def tab : Cond := tabOf yN yB 3 (some .boolean) site
def P (a : Addr) (A : Cell) (b : Addr) (B : Cell) (args : Array Value) (s : State) : Prop := args = #[.ref a, .ref b] ∧ XT.Arr .byte a A s ∧ Typed .byte A ∧ XT.Arr .byte b B s ∧ Typed .byte B
/-- whether two byte[] are equal, place for place -/
theorem law (l : Launch) (a : Addr) (A : Cell) (b : Addr) (B : Cell) : Law l yN 2 2 0 0 yB 3 (some .boolean) site (P a A b B) (Says01 (EqC A B)) [] 0 0 := by
  refine Law.of_walk (plainFor_of_name (by decide +kernel)) (by decide +kernel) (by decide +kernel) (by decide) (fun _ _ h => by rw [h.1]; rfl) (fun _ U U' hal hh h => ⟨h.1, h.2.1.mv hal hh, h.2.2.1, h.2.2.2.1.mv hal hh, h.2.2.2.2⟩) (fun r U U' V V' h1 hal h2 h => Says01.mv r U U' V V' h1 hal h2 h) ?_
  intro p e s m args below meth c s₁ X0 hexec hbytes hml hret hlk hnm hown hh0 W hP
  obtain ⟨rfl, hA, tA, hB, tB⟩ := hP
  have a31 := hA.2.2.2
  have b31 := hB.2.2.2
  have hA0 := hA.mv X0.warmed.alike hh0
  have hB0 := hB.mv X0.warmed.alike hh0
  have c1 : Steps p.tables e below (s₁.setTop (entryFrame m #[.ref a, .ref b] 3)) (s₁.setTop (mkF m 0 #[.val (.ref a), .val (.ref b), .unset] [])) := entry rfl
  have c2 : Steps p.tables e below (s₁.setTop (entryFrame m #[.ref a, .ref b] 3)) (s₁.setTop (mkF m 4 #[.val (.ref a), .val (.ref b), .unset] [.int (Int32.ofNat B.slots.size), .int (Int32.ofNat A.slots.size)])) := c1.trans (by
    refine XS.aloadN X0.here hexec rfl (hb hbytes d0) rfl rfl ?_
    refine X0.alen hexec hA0 rfl rfl (hb hbytes d1) ?_
    refine XS.aloadN X0.here hexec rfl (hb hbytes d2) rfl rfl ?_
    refine X0.alen hexec hB0 rfl rfl (hb hbytes d3) ?_
    exact Steps.refl _)
  by_cases hs : A.slots.size = B.slots.size
  · have c3 : Steps p.tables e below (s₁.setTop (entryFrame m #[.ref a, .ref b] 3)) (s₁.setTop (mkF m 9 #[.val (.ref a), .val (.ref b), .val (.int 0)] [])) := c2.trans (by
      refine XS.icmpNo X0.here hexec rfl (hb hbytes d4) rfl (ii_ne_f (by rw [hs])) ?_
      refine iconstV X0.here hexec rfl 0 (hb hbytes d7) (by decide) ?_
      refine XS.istoreN X0.here hexec rfl (hb hbytes d8) rfl rfl ?_
      exact Steps.refl _)
    have loop : ∀ (r i : Nat), i + r = A.slots.size → (∀ j, j < i → yv A j = yv B j) → Steps p.tables e below (s₁.setTop (entryFrame m #[.ref a, .ref b] 3)) (s₁.setTop (mkF m 9 #[.val (.ref a), .val (.ref b), .val (.int (Int32.ofNat i))] [])) → ∃ (pc : Nat) (Ls : Array Slot) (v : Int32), (pc = 25 ∨ pc = 33) ∧ ((v = 1 ∧ EqC A B) ∨ (v = 0 ∧ ¬ EqC A B)) ∧ Steps p.tables e below (s₁.setTop (entryFrame m #[.ref a, .ref b] 3)) (s₁.setTop (mkF m pc Ls [.int v])) := by
      intro r
      induction r with
      | zero =>
        intro i hi he cl
        exact ⟨33, _, 1, Or.inr rfl, Or.inl ⟨rfl, hs, fun j hj => he j (by omega)⟩, cl.trans (by
          refine XS.iloadN X0.here hexec rfl (hb hbytes d9) rfl ?_
          refine XS.aloadN X0.here hexec rfl (hb hbytes d10) rfl rfl ?_
          refine X0.alen hexec hA0 rfl rfl (hb hbytes d11) ?_
          refine XS.icmpYes X0.here hexec rfl (pc0 := 12) rfl (hb hbytes d12) rfl (ii_ge_t (nlt32 (by omega) (by omega))) (by decide) rfl ?_
          refine iconstV X0.here hexec rfl 1 (hb hbytes d32) (by decide) ?_
          exact Steps.refl _)⟩
      | succ r ih =>
        intro i hi he cl
        have c4 : Steps p.tables e below (s₁.setTop (entryFrame m #[.ref a, .ref b] 3)) (s₁.setTop (mkF m 21 #[.val (.ref a), .val (.ref b), .val (.int (Int32.ofNat i))] [.int (yv B i), .int (yv A i)])) := cl.trans (by
          refine XS.iloadN X0.here hexec rfl (hb hbytes d9) rfl ?_
          refine XS.aloadN X0.here hexec rfl (hb hbytes d10) rfl rfl ?_
          refine X0.alen hexec hA0 rfl rfl (hb hbytes d11) ?_
          refine XS.icmpNo X0.here hexec rfl (hb hbytes d12) rfl (ii_ge_f (lt32 (by omega) (by omega))) ?_
          refine XS.aloadN X0.here hexec rfl (hb hbytes d15) rfl rfl ?_
          refine XS.iloadN X0.here hexec rfl (hb hbytes d16) rfl ?_
          refine X0.aget hexec hA0 rfl (yv_get hA tA (i := i) (by omega)) rfl rfl (hb hbytes d17) ?_
          refine XS.aloadN X0.here hexec rfl (hb hbytes d18) rfl rfl ?_
          refine XS.iloadN X0.here hexec rfl (hb hbytes d19) rfl ?_
          refine X0.aget hexec hB0 rfl (yv_get hB tB (i := i) (by omega)) rfl rfl (hb hbytes d20) ?_
          exact Steps.refl _)
        by_cases hv : yv A i = yv B i
        · have c5 : Steps p.tables e below (s₁.setTop (entryFrame m #[.ref a, .ref b] 3)) (s₁.setTop (mkF m 9 #[.val (.ref a), .val (.ref b), .val (.int (Int32.ofNat i + 1))] [])) := c4.trans (by
            refine XS.icmpYes X0.here hexec rfl (pc0 := 21) rfl (hb hbytes d21) rfl (ii_eq_t hv) (by decide) rfl ?_
            refine iincV X0.here hexec rfl 1 (hb hbytes d26) (by decide) rfl rfl ?_
            refine XS.goto X0.here hexec rfl (pc0 := 29) rfl (hb hbytes d29) (by decide) rfl ?_
            exact Steps.refl _)
          rw [succ32] at c5
          exact ih (i + 1) (by omega) (fun j hj => by
            by_cases e : j = i
            · rw [e]; exact hv
            · exact he j (by omega)) c5
        · exact ⟨25, _, 0, Or.inl rfl, Or.inr ⟨rfl, fun q => hv (q.2 i (by omega))⟩, c4.trans (by
            refine XS.icmpNo X0.here hexec rfl (hb hbytes d21) rfl (ii_eq_f hv) ?_
            refine iconstV X0.here hexec rfl 0 (hb hbytes d24) (by decide) ?_
            exact Steps.refl _)⟩
    obtain ⟨pc, Ls, v, hpc, hv, cz⟩ := loop A.slots.size 0 (by omega) (fun j hj => absurd hj (Nat.not_lt_zero j)) c3
    have nv : narrow .boolean (.int v) = .int v := by rcases hv with ⟨rfl, -⟩ | ⟨rfl, -⟩ <;> rfl
    rcases hpc with rfl | rfl
    · exact ⟨s₁, some (.int v), _, _, _, X0, rfl, rfl, rfl, (fun h => by cases h), ⟨v, rfl, hh0, hv⟩, fun fs hl => cz.trans (X0.ireturnOut hexec hret nv (Or.inr (Or.inl rfl)) (hb hbytes d25) hl)⟩
    · exact ⟨s₁, some (.int v), _, _, _, X0, rfl, rfl, rfl, (fun h => by cases h), ⟨v, rfl, hh0, hv⟩, fun fs hl => cz.trans (X0.ireturnOut hexec hret nv (Or.inr (Or.inl rfl)) (hb hbytes d33) hl)⟩
  · have c3 : Steps p.tables e below (s₁.setTop (entryFrame m #[.ref a, .ref b] 3)) (s₁.setTop (mkF m 35 #[.val (.ref a), .val (.ref b), .unset] [.int 0])) := c2.trans (by
      refine XS.icmpYes X0.here hexec rfl (pc0 := 4) rfl (hb hbytes d4) rfl (ii_ne_t (ne32 a31 b31 hs)) (by decide) rfl ?_
      refine iconstV X0.here hexec rfl 0 (hb hbytes d34) (by decide) ?_
      exact Steps.refl _)
    exact ⟨s₁, some (.int 0), _, _, _, X0, rfl, rfl, rfl, (fun h => by cases h), ⟨0, rfl, hh0, Or.inr ⟨rfl, fun q => hs q.1⟩⟩, fun fs hl => c3.trans (X0.ireturnOut hexec hret rfl (Or.inr (Or.inl rfl)) (hb hbytes d35) hl)⟩
end LEq
theorem Cod.ty {cd : Int32} {n : Nat} {f : Nat → Int32} {V : Cell} (h : Cod cd n f V) : Typed .byte V := fun i v hv => by
  have hi : i < V.slots.size := (Array.getElem?_eq_some_iff.mp hv).1
  rcases h with ⟨-, k1, k2⟩ | ⟨-, k1, k2, -⟩
  · rw [(k2 i (by omega)).1] at hv; cases hv; exact fits_lo8 _
  · rcases Nat.mod_two_eq_zero_or_one i with e | e
    · obtain ⟨j, rfl⟩ : ∃ j, i = 2 * j := ⟨i / 2, by omega⟩
      rw [(k2 j (by omega)).1] at hv; cases hv; exact fits_lo8 _
    · obtain ⟨j, rfl⟩ : ∃ j, i = 2 * j + 1 := ⟨i / 2, by omega⟩
      rw [(k2 j (by omega)).2] at hv; cases hv; exact fits_lo8 _
/-- the same text -/
def SameT (n : Nat) (f : Nat → Int32) (k : Nat) (g : Nat → Int32) : Prop := n = k ∧ ∀ j, j < n → f j = g j
theorem lo8_inj {x y : Int32} (h0 : ¬ x < 0) (h1 : ¬ 255 < x) (k0 : ¬ y < 0) (k1 : ¬ 255 < y) (h : lo8 x = lo8 y) : x = y := by
  rw [← lo8_mask h0 h1, ← lo8_mask k0 k1, h]
/-- arrays coded by one coder are equal just where the texts are -/
theorem Cod.eqv {cd : Int32} {n k : Nat} {f g : Nat → Int32} {V V' : Cell} (h : Cod cd n f V) (h' : Cod cd k g V') (hf : ∀ j, j < n → ¬ f j < 0 ∧ ¬ 65535 < f j) (hg : ∀ j, j < k → ¬ g j < 0 ∧ ¬ 65535 < g j) : EqC V V' ↔ SameT n f k g := by
  have yvv : ∀ {W : Cell} {i : Nat} {x : Int32}, W.slots[i]? = some (.int x) → yv W i = x := fun q => by unfold yv; rw [q]
  rcases h with ⟨rfl, k1, k2⟩ | ⟨rfl, k1, k2, -⟩
  · rcases h' with ⟨-, m1, m2⟩ | ⟨e, -⟩
    · constructor
      · rintro ⟨e1, e2⟩
        refine ⟨by omega, fun j hj => ?_⟩
        have q := e2 j (by omega)
        rw [yvv (k2 j hj).1, yvv (m2 j (by omega)).1] at q
        exact lo8_inj (hf j hj).1 (k2 j hj).2 (hg j (by omega)).1 (m2 j (by omega)).2 q
      · rintro ⟨rfl, e2⟩
        refine ⟨by omega, fun j hj => ?_⟩
        rw [yvv (k2 j (by omega)).1, yvv (m2 j (by omega)).1, e2 j (by omega)]
    · exact absurd e (by decide)
  · rcases h' with ⟨e, -⟩ | ⟨-, m1, m2, -⟩
    · exact absurd e (by decide)
    · constructor
      · rintro ⟨e1, e2⟩
        refine ⟨by omega, fun j hj => ?_⟩
        have q1 := e2 (2 * j) (by omega)
        have q2 := e2 (2 * j + 1) (by omega)
        rw [yvv (k2 j hj).1, yvv (m2 j (by omega)).1] at q1
        rw [yvv (k2 j hj).2, yvv (m2 j (by omega)).2] at q2
        rw [← pair_says (hf j hj).1 (hf j hj).2, ← pair_says (hg j (by omega)).1 (hg j (by omega)).2, q1, q2]
      · rintro ⟨rfl, e2⟩
        refine ⟨by omega, fun i hi => ?_⟩
        rcases Nat.mod_two_eq_zero_or_one i with e | e
        · obtain ⟨j, rfl⟩ : ∃ j, i = 2 * j := ⟨i / 2, by omega⟩
          rw [yvv (k2 j (by omega)).1, yvv (m2 j (by omega)).1, e2 j (by omega)]
        · obtain ⟨j, rfl⟩ : ∃ j, i = 2 * j + 1 := ⟨i / 2, by omega⟩
          rw [yvv (k2 j (by omega)).2, yvv (m2 j (by omega)).2, e2 j (by omega)]
/-- two codings differ: so do the texts -/
theorem Cod.dif {cd cd' : Int32} {n k : Nat} {f g : Nat → Int32} {V V' : Cell} (h : Cod cd n f V) (h' : Cod cd' k g V') (hne : ¬ cd = cd') : ¬ SameT n f k g := by
  rintro ⟨rfl, e⟩
  rcases h with ⟨rfl, -, k2⟩ | ⟨rfl, -, -, j, hj, hw⟩
  · rcases h' with ⟨rfl, -⟩ | ⟨-, -, -, j, hj, hw⟩
    · exact hne rfl
    · exact (k2 j hj).2 (by rw [e j hj]; exact hw)
  · rcases h' with ⟨-, -, m2⟩ | ⟨rfl, -⟩
    · exact (m2 j hj).2 (by rw [← e j hj]; exact hw)
    · exact hne rfl
/-- an object of exactly C is an instance of C -/
theorem cinst {p : Program} {l : Launch} {e : Env} {R : Room} {s : State} {m : MethodId} {args : Array Value} {below : List Frame} {meth : Method} {c : Code} {T : State} {locs : List Loc} {cells slots : Nat} (X : Stand p l e R s m args below meth c T locs cells slots) (hexec : p.tables.exec = Jvm.exec) {own C : String} {index : Nat} (hown : s.vm.findClass own = some m.cls) (hlink : (Cond.classLink own index C).before args s = true) {a : Addr} (hE : Exact C a T)
    {g : JFrame} (hg : g.method = m) {rest : List Value} (hstack : g.stack = .ref a :: rest) (hdg : decode c.code g.pc = .ok (.instanceof index, 3)) :
    ∃ T', Stand p l e R s m args below meth c T' locs cells slots ∧ T'.heap = T.heap ∧ ∀ target, Steps p.tables e below (T'.setTop { g with pc := g.pc + 3, stack := .int 1 :: rest }) target → Steps p.tables e below (T.setTop g) target := by
  obtain ⟨cB, h1, D, h2, h3, h4⟩ := hE
  have h1' : s.vm.findClass C = some cB := by rw [← X.warmed.alike.findClass]; exact h1
  obtain ⟨vm', X', st⟩ := X.instanceofYes hexec hown hlink h2 h4 h1' (by rw [h3]; exact Jvm.Free.SB.assignable_self _ _) hg hstack hdg
  exact ⟨_, X', rfl, st⟩
theorem cself {p : Program} {l : Launch} {e : Env} {R : Room} {s : State} {m : MethodId} {args : Array Value} {below : List Frame} {meth : Method} {c : Code} {T : State} {locs : List Loc} {cells slots : Nat} (X : Stand p l e R s m args below meth c T locs cells slots) (hexec : p.tables.exec = Jvm.exec) {own C : String} {index : Nat} (hown : s.vm.findClass own = some m.cls) (hlink : (Cond.classLink own index C).before args s = true) {a : Addr} (hE : Exact C a T)
    {g : JFrame} (hg : g.method = m) {rest : List Value} (hstack : g.stack = .ref a :: rest) (hdg : decode c.code g.pc = .ok (.checkcast index, 3)) :
    ∃ T', Stand p l e R s m args below meth c T' locs cells slots ∧ T'.heap = T.heap ∧ ∀ target, Steps p.tables e below (T'.setTop { g with pc := g.pc + 3, stack := .ref a :: rest }) target → Steps p.tables e below (T.setTop g) target := by
  obtain ⟨cB, h1, D, h2, h3, h4⟩ := hE
  have h1' : s.vm.findClass C = some cB := by rw [← X.warmed.alike.findClass]; exact h1
  obtain ⟨vm', X', st⟩ := X.checkcastYes hexec hown hlink h2 h4 h1' (by rw [h3]; exact Jvm.Free.SB.assignable_self _ _) hg hstack hdg
  exact ⟨_, X', rfl, fun t h => st t (by rw [← hstack] at h; exact h)⟩
namespace SEq
def yN : MethodName := ⟨"java/lang/String", "equals", "(Ljava/lang/Object;)Z"⟩
abbrev yB : ByteArray := jdk_42_method_66_code
theorem d0 : decode yB 0 = .ok (.aload_n 0, 1) := by decide +kernel
theorem d1 : decode yB 1 = .ok (.aload_n 1, 1) := by decide +kernel
theorem d2 : decode yB 2 = .ok (.if_acmp (.ne) 5, 3) := by decide +kernel
theorem d5 : decode yB 5 = .ok (.iconst 1, 1) := by decide +kernel
theorem d6 : decode yB 6 = .ok (.ireturn, 1) := by decide +kernel
theorem d7 : decode yB 7 = .ok (.aload_n 1, 1) := by decide +kernel
theorem d8 : decode yB 8 = .ok (.instanceof 10, 3) := by decide +kernel
theorem d11 : decode yB 11 = .ok (.ifCond (.eq) 43, 3) := by decide +kernel
theorem d14 : decode yB 14 = .ok (.aload_n 1, 1) := by decide +kernel
theorem d15 : decode yB 15 = .ok (.checkcast 10, 3) := by decide +kernel
theorem d18 : decode yB 18 = .ok (.astore_n 2, 1) := by decide +kernel
theorem d19 : decode yB 19 = .ok (.getstatic 38, 3) := by decide +kernel
theorem d22 : decode yB 22 = .ok (.ifCond (.eq) 14, 3) := by decide +kernel
theorem d25 : decode yB 25 = .ok (.aload_n 0, 1) := by decide +kernel
theorem d26 : decode yB 26 = .ok (.getfield 15, 3) := by decide +kernel
theorem d29 : decode yB 29 = .ok (.aload_n 2, 1) := by decide +kernel
theorem d30 : decode yB 30 = .ok (.getfield 15, 3) := by decide +kernel
theorem d33 : decode yB 33 = .ok (.if_icmp (.ne) 21, 3) := by decide +kernel
theorem d36 : decode yB 36 = .ok (.aload_n 0, 1) := by decide +kernel
theorem d37 : decode yB 37 = .ok (.getfield 9, 3) := by decide +kernel
theorem d40 : decode yB 40 = .ok (.aload_n 2, 1) := by decide +kernel
theorem d41 : decode yB 41 = .ok (.getfield 9, 3) := by decide +kernel
theorem d44 : decode yB 44 = .ok (.invokestatic 541, 3) := by decide +kernel
theorem d47 : decode yB 47 = .ok (.ifCond (.eq) 7, 3) := by decide +kernel
theorem d50 : decode yB 50 = .ok (.iconst 1, 1) := by decide +kernel
theorem d51 : decode yB 51 = .ok (.goto 4, 3) := by decide +kernel
theorem d54 : decode yB 54 = .ok (.iconst 0, 1) := by decide +kernel
theorem d55 : decode yB 55 = .ok (.ireturn, 1) := by decide +kernel
def site : List Cond := [.classLink "java/lang/String" 10 "java/lang/String", .fieldLink "java/lang/String" 38 "java/lang/String" "COMPACT_STRINGS" "Z", .fieldLink "java/lang/String" 15 "java/lang/String" "coder" "B", .fieldLink "java/lang/String" 9 "java/lang/String" "value" "[B", LEq.tab] ++ staticW "java/lang/String" 541 LEq.yN
def tab : Cond := tabOf yN yB 3 (some .boolean) site
def P (x t : Addr) (V : Cell) (cd : Int32) (n : Nat) (f : Nat → Int32) (y t' : Addr) (V' : Cell) (cd' : Int32) (k : Nat) (g : Nat → Int32) (z : Int32) (args : Array Value) (s : State) : Prop := args = #[.ref x, .ref y] ∧ Txt x t V cd n f s ∧ Txt y t' V' cd' k g s ∧ StaticIs s "java/lang/String" "COMPACT_STRINGS" "Z" (.int z) ∧ ¬ z = 0
/-- equals(Object) of two Strings: whether the texts are the same -/
theorem law (l : Launch) (x t : Addr) (V : Cell) (cd : Int32) (n : Nat) (f : Nat → Int32) (y t' : Addr) (V' : Cell) (cd' : Int32) (k : Nat) (g : Nat → Int32) (z : Int32) : Law l yN 2 1 1 14 yB 3 (some .boolean) site (P x t V cd n f y t' V' cd' k g z) (Says01 (SameT n f k g)) [] 0 0 := by
  refine Law.of_walk (plainFor_of_name (by decide +kernel)) (by decide +kernel) (by decide +kernel) (by decide) (fun _ _ h => by rw [h.1]; rfl) (fun _ U U' hal hh h => ⟨h.1, h.2.1.mv hal hh, h.2.2.1.mv hal hh, h.2.2.2.1.there hal hh, h.2.2.2.2⟩) (fun r U U' V V' h1 hal h2 h => Says01.mv r U U' V V' h1 hal h2 h) ?_
  intro p e s m args below meth c s₁ X0 hexec hbytes hml hret hlk hnm hown hh0 W hP
  obtain ⟨rfl, hx, hy, s1, hz⟩ := hP
  have c1 : Steps p.tables e below (s₁.setTop (entryFrame m #[.ref x, .ref y] 3)) (s₁.setTop (mkF m 2 #[.val (.ref x), .val (.ref y), .unset] [.ref y, .ref x])) := Steps.trans (entry rfl) (by
    show Steps p.tables e below (s₁.setTop (mkF m 0 #[.val (.ref x), .val (.ref y), .unset] [])) _
    refine XS.aloadN X0.here hexec rfl (hb hbytes d0) rfl rfl ?_
    refine XS.aloadN X0.here hexec rfl (hb hbytes d1) rfl rfl ?_
    exact Steps.refl _)
  by_cases hxy : x = y
  · have c2 : Steps p.tables e below (s₁.setTop (entryFrame m #[.ref x, .ref y] 3)) (s₁.setTop (mkF m 6 #[.val (.ref x), .val (.ref y), .unset] [.int 1])) := c1.trans (by
      refine acmpNo X0.here hexec rfl (hb hbytes d2) rfl rfl rfl (by simp [acmp, hxy]) ?_
      refine iconstV X0.here hexec rfl 1 (hb hbytes d5) (by decide) ?_
      exact Steps.refl _)
    subst hxy
    have ec : cd = cd' := by
      obtain ⟨D, fd, a1, a2, a3⟩ := hx.2.2.1
      obtain ⟨D', fd', b1, b2, b3⟩ := hy.2.2.1
      cases a1.symm.trans b1
      obtain ⟨q1, q2, q3, q4⟩ := a2.1
      obtain ⟨r1, r2, r3, r4⟩ := b2.1
      cases q4.symm.trans r4
      cases a3.symm.trans b3; rfl
    have et : t = t' := by
      obtain ⟨D, fd, a1, a2, a3⟩ := hx.2.1
      obtain ⟨D', fd', b1, b2, b3⟩ := hy.2.1
      cases a1.symm.trans b1
      obtain ⟨q1, q2, q3, q4⟩ := a2.1
      obtain ⟨r1, r2, r3, r4⟩ := b2.1
      cases q4.symm.trans r4
      cases a3.symm.trans b3; rfl
    subst ec et
    have ev : V = V' := by cases hx.2.2.2.1.1.symm.trans hy.2.2.2.1.1; rfl
    subst ev
    have hs : SameT n f k g := (Cod.eqv hx.2.2.2.2.1 hy.2.2.2.2.1 hx.2.2.2.2.2 hy.2.2.2.2.2).mp ⟨rfl, fun _ _ => rfl⟩
    exact ⟨s₁, some (.int 1), _, _, _, X0, rfl, rfl, rfl, (fun h => by cases h), ⟨1, rfl, hh0, Or.inl ⟨rfl, hs⟩⟩, fun fs hl => c2.trans (X0.ireturnOut hexec hret rfl (Or.inr (Or.inl rfl)) (hb hbytes d6) hl)⟩
  · have c2 : Steps p.tables e below (s₁.setTop (entryFrame m #[.ref x, .ref y] 3)) (s₁.setTop (mkF m 8 #[.val (.ref x), .val (.ref y), .unset] [.ref y])) := c1.trans (by
      refine acmpYes X0.here hexec rfl (pc0 := 2) rfl (hb hbytes d2) rfl rfl rfl (by simp [acmp, hxy]) (by decide) rfl ?_
      refine XS.aloadN X0.here hexec rfl (hb hbytes d7) rfl rfl ?_
      exact Steps.refl _)
    obtain ⟨T3, X3, q3, st3⟩ := cinst X0 hexec hown (wk W (.classLink "java/lang/String" 10 "java/lang/String")) (hy.mv X0.warmed.alike hh0).1 (g := (mkF m 8 #[.val (.ref x), .val (.ref y), .unset] [.ref y])) rfl (rest := []) rfl (hb hbytes d8)
    have hh3 := q3.trans hh0
    have c4 : Steps p.tables e below (s₁.setTop (entryFrame m #[.ref x, .ref y] 3)) (T3.setTop (mkF m 15 #[.val (.ref x), .val (.ref y), .unset] [.ref y])) := (c2.trans (st3 _ (Steps.refl _))).trans (by
      refine XS.ifNo X3.here hexec rfl (hb hbytes d11) rfl (i0_eq_f (by decide)) ?_
      refine XS.aloadN X3.here hexec rfl (hb hbytes d14) rfl rfl ?_
      exact Steps.refl _)
    obtain ⟨T5, X5, q5, st5⟩ := cself X3 hexec hown (wk W (.classLink "java/lang/String" 10 "java/lang/String")) (hy.mv X3.warmed.alike hh3).1 (g := (mkF m 15 #[.val (.ref x), .val (.ref y), .unset] [.ref y])) rfl (rest := []) rfl (hb hbytes d15)
    have hh5 := q5.trans hh3
    have c6 : Steps p.tables e below (s₁.setTop (entryFrame m #[.ref x, .ref y] 3)) (T5.setTop (mkF m 19 #[.val (.ref x), .val (.ref y), .val (.ref y)] [])) := (c4.trans (st5 _ (Steps.refl _))).trans (by
      refine XS.astoreN X5.here hexec rfl (hb hbytes d18) rfl rfl rfl ?_
      exact Steps.refl _)
    obtain ⟨T7, X7, q7, st7⟩ := X5.sget hexec hown (wk W (.fieldLink "java/lang/String" 38 "java/lang/String" "COMPACT_STRINGS" "Z")) s1 (fun _ _ h => by rw [hh5]; exact h) (g := (mkF m 19 #[.val (.ref x), .val (.ref y), .val (.ref y)] [])) rfl (hb hbytes d19)
    have hh7 := q7.trans hh5
    have c8 : Steps p.tables e below (s₁.setTop (entryFrame m #[.ref x, .ref y] 3)) (T7.setTop (mkF m 26 #[.val (.ref x), .val (.ref y), .val (.ref y)] [.ref x])) := (c6.trans (st7 _ (Steps.refl _))).trans (by
      refine XS.ifNo X7.here hexec rfl (hb hbytes d22) rfl (i0_eq_f hz) ?_
      refine XS.aloadN X7.here hexec rfl (hb hbytes d25) rfl rfl ?_
      exact Steps.refl _)
    obtain ⟨T9, X9, q9, st9⟩ := X7.hget hexec hown (wk W (.fieldLink "java/lang/String" 15 "java/lang/String" "coder" "B")) (hx.mv X7.warmed.alike hh7).2.2.1 (g := (mkF m 26 #[.val (.ref x), .val (.ref y), .val (.ref y)] [.ref x])) rfl (rest := []) rfl (hb hbytes d26)
    have hh9 := q9.trans hh7
    have c10 : Steps p.tables e below (s₁.setTop (entryFrame m #[.ref x, .ref y] 3)) (T9.setTop (mkF m 30 #[.val (.ref x), .val (.ref y), .val (.ref y)] [.ref y, .int cd])) := (c8.trans (st9 _ (Steps.refl _))).trans (by
      refine XS.aloadN X9.here hexec rfl (hb hbytes d29) rfl rfl ?_
      exact Steps.refl _)
    obtain ⟨T11, X11, q11, st11⟩ := X9.hget hexec hown (wk W (.fieldLink "java/lang/String" 15 "java/lang/String" "coder" "B")) (hy.mv X9.warmed.alike hh9).2.2.1 (g := (mkF m 30 #[.val (.ref x), .val (.ref y), .val (.ref y)] [.ref y, .int cd])) rfl (rest := [.int cd]) rfl (hb hbytes d30)
    have hh11 := q11.trans hh9
    have c12 : Steps p.tables e below (s₁.setTop (entryFrame m #[.ref x, .ref y] 3)) (T11.setTop (mkF m 33 #[.val (.ref x), .val (.ref y), .val (.ref y)] [.int cd', .int cd])) := c10.trans (st11 _ (Steps.refl _))
    by_cases hcd : cd = cd'
    · subst hcd
      have c13 : Steps p.tables e below (s₁.setTop (entryFrame m #[.ref x, .ref y] 3)) (T11.setTop (mkF m 37 #[.val (.ref x), .val (.ref y), .val (.ref y)] [.ref x])) := c12.trans (by
        refine XS.icmpNo X11.here hexec rfl (hb hbytes d33) rfl (ii_ne_f rfl) ?_
        refine XS.aloadN X11.here hexec rfl (hb hbytes d36) rfl rfl ?_
        exact Steps.refl _)
      obtain ⟨T14, X14, q14, st14⟩ := X11.hget hexec hown (wk W (.fieldLink "java/lang/String" 9 "java/lang/String" "value" "[B")) (hx.mv X11.warmed.alike hh11).2.1 (g := (mkF m 37 #[.val (.ref x), .val (.ref y), .val (.ref y)] [.ref x])) rfl (rest := []) rfl (hb hbytes d37)
      have hh14 := q14.trans hh11
      have c15 : Steps p.tables e below (s₁.setTop (entryFrame m #[.ref x, .ref y] 3)) (T14.setTop (mkF m 41 #[.val (.ref x), .val (.ref y), .val (.ref y)] [.ref y, .ref t])) := (c13.trans (st14 _ (Steps.refl _))).trans (by
        refine XS.aloadN X14.here hexec rfl (hb hbytes d40) rfl rfl ?_
        exact Steps.refl _)
      obtain ⟨T16, X16, q16, st16⟩ := X14.hget hexec hown (wk W (.fieldLink "java/lang/String" 9 "java/lang/String" "value" "[B")) (hy.mv X14.warmed.alike hh14).2.1 (g := (mkF m 41 #[.val (.ref x), .val (.ref y), .val (.ref y)] [.ref y, .ref t])) rfl (rest := [.ref t]) rfl (hb hbytes d41)
      have hh16 := q16.trans hh14
      have c17 : Steps p.tables e below (s₁.setTop (entryFrame m #[.ref x, .ref y] 3)) (T16.setTop (mkF m 44 #[.val (.ref x), .val (.ref y), .val (.ref y)] [.ref t', .ref t])) := c15.trans (st16 _ (Steps.refl _))
      obtain ⟨v18, T18, X18, E18, g18⟩ := X16.callS hexec (LEq.law l t V t' V') hown (wks W (staticW "java/lang/String" 541 LEq.yN)) (wk W LEq.tab) (W := 0) (Nat.le_of_ble_eq_true rfl) (Nat.le_of_ble_eq_true rfl) (Nat.le_refl _) (Nat.le_refl _) (g := (mkF m 44 #[.val (.ref x), .val (.ref y), .val (.ref y)] [.ref t', .ref t])) rfl (by rw [hml]; rfl) c17 (argsL := [.ref t, .ref t']) (rest := []) rfl rfl (by show 2 * 0 + 0 ≤ _; decide) (hb hbytes d44) (⟨rfl, hx.2.2.2.1.mv X16.warmed.alike hh16, hx.2.2.2.2.1.ty, hy.2.2.2.1.mv X16.warmed.alike hh16, hy.2.2.2.2.1.ty⟩)
      obtain ⟨v, rfl, q18, hv⟩ := E18
      have iff := Cod.eqv hx.2.2.2.2.1 hy.2.2.2.2.1 hx.2.2.2.2.2 hy.2.2.2.2.2
      rcases hv with ⟨rfl, he⟩ | ⟨rfl, he⟩
      · have c19 : Steps p.tables e below (s₁.setTop (entryFrame m #[.ref x, .ref y] 3)) (T18.setTop (mkF m 55 #[.val (.ref x), .val (.ref y), .val (.ref y)] [.int 1])) := Steps.trans g18 (by
          refine XS.ifNo X18.here hexec rfl (hb hbytes d47) rfl (i0_eq_f (by decide)) ?_
          refine iconstV X18.here hexec rfl 1 (hb hbytes d50) (by decide) ?_
          refine XS.goto X18.here hexec rfl (pc0 := 51) rfl (hb hbytes d51) (by decide) rfl ?_
          exact Steps.refl _)
        exact ⟨T18, some (.int 1), _, _, _, X18, rfl, rfl, rfl, (fun h => by cases h), ⟨1, rfl, q18.trans hh16, Or.inl ⟨rfl, iff.mp he⟩⟩, fun fs hl => c19.trans (X18.ireturnOut hexec hret rfl (Or.inr (Or.inl rfl)) (hb hbytes d55) hl)⟩
      · have c19 : Steps p.tables e below (s₁.setTop (entryFrame m #[.ref x, .ref y] 3)) (T18.setTop (mkF m 55 #[.val (.ref x), .val (.ref y), .val (.ref y)] [.int 0])) := Steps.trans g18 (by
          refine XS.ifYes X18.here hexec rfl (pc0 := 47) rfl (hb hbytes d47) rfl (i0_eq_t rfl) (by decide) rfl ?_
          refine iconstV X18.here hexec rfl 0 (hb hbytes d54) (by decide) ?_
          exact Steps.refl _)
        exact ⟨T18, some (.int 0), _, _, _, X18, rfl, rfl, rfl, (fun h => by cases h), ⟨0, rfl, q18.trans hh16, Or.inr ⟨rfl, fun q => he (iff.mpr q)⟩⟩, fun fs hl => c19.trans (X18.ireturnOut hexec hret rfl (Or.inr (Or.inl rfl)) (hb hbytes d55) hl)⟩
    · have c13 : Steps p.tables e below (s₁.setTop (entryFrame m #[.ref x, .ref y] 3)) (T11.setTop (mkF m 55 #[.val (.ref x), .val (.ref y), .val (.ref y)] [.int 0])) := c12.trans (by
        refine XS.icmpYes X11.here hexec rfl (pc0 := 33) rfl (hb hbytes d33) rfl (ii_ne_t hcd) (by decide) rfl ?_
        refine iconstV X11.here hexec rfl 0 (hb hbytes d54) (by decide) ?_
        exact Steps.refl _)
      exact ⟨T11, some (.int 0), _, _, _, X11, rfl, rfl, rfl, (fun h => by cases h), ⟨0, rfl, hh11, Or.inr ⟨rfl, Cod.dif hx.2.2.2.2.1 hy.2.2.2.2.1 hcd⟩⟩, fun fs hl => c13.trans (X11.ireturnOut hexec hret rfl (Or.inr (Or.inl rfl)) (hb hbytes d55) hl)⟩
theorem pays {l : Launch} {R : Room} {p : Program} {e : Env} {below : List Frame} {s : State} {sargs : Array Value} {len W : Nat} (x t : Addr) (V : Cell) (cd : Int32) (n : Nat) (f : Nat → Int32) (y t' : Addr) (V' : Cell) (cd' : Int32) (k : Nat) (g : Nat → Int32) (z : Int32) (htab : tab.before sargs s = true) (hfr : 2 ≤ R.frames) (hlo : W + 28 ≤ R.locals) :
    Back l R p e below s sargs yN len W (fun A₁ a₁ => A₁.cells + 0 ≤ R.cells ∧ A₁.slots + 0 ≤ R.slots ∧ P x t V cd n f y t' V' cd' k g z a₁ A₁.U) (fun A₁ _ v₁ B₁ => Says01 (SameT n f k g) v₁ A₁.U B₁.U ∧ B₁.locs = A₁.locs ++ [] ∧ B₁.cells = A₁.cells + 0 ∧ B₁.slots = A₁.slots + 0) :=
  (law l x t V cd n f y t' V' cd' k g z).pays htab hfr (by omega)
end SEq
end StrChars
namespace StrChars.Road
open Jvm Sem ClassFile Op Lib Jvm.Stand Jvm.Free Jvm.Free.XT
open Jvm.Lib.Cold (StaticIs)
/-- the words of String.equals(Object) -/
abbrev wordsEq : List Jvm.Cond := [.code SEq.yN SEq.yB 3 (some .boolean), .initialized ST, .classLink ST 10 ST, .fieldLink ST 38 ST "COMPACT_STRINGS" "Z", .fieldLink ST 15 ST "coder" "B", .fieldLink ST 9 ST "value" "[B", .methodLink ST 541 LEq.yN, .static LEq.yN, .code LEq.yN LEq.yB 3 (some .boolean), .initialized "java/lang/StringLatin1"]
theorem tabEq_of {a : Array Value} {s : State} (h : ∀ w ∈ wordsEq, w.before a s = true) : SEq.tab.before a s = true := by
  have hl : LEq.tab.before a s = true := unparts (wk h (.code LEq.yN LEq.yB 3 (some .boolean))) (wks h (.initialized LEq.yN.cls :: LEq.site))
  have q := consq hl h
  exact unparts (wk q (.code SEq.yN SEq.yB 3 (some .boolean))) (wks q (.initialized SEq.yN.cls :: SEq.site))
theorem movedEq {Z s : State} {a0 args : Array Value} (hZ : Z.Warmed39 s.vm) (hw : ∀ d ∈ wordsEq, d.before a0 Z = true) : ∀ d ∈ wordsEq, d.before args s = true := fun d hd => by
  have t : ∀ d ∈ wordsEq, (d.onTables && d.keepsFace) = true := by decide +kernel
  exact RoadKit.mv hZ (hw d hd) (t d hd)
/-- the road's facts of a String, as the laws ask it -/
theorem txt_of {Z U : State} {a0 : Array Value} {kI : Nat} (wi : (Jvm.Cond.instantiable ST kI).before a0 Z = true) (al : Z.vm.Alike U.vm) {x t : Addr} {kb : ClassId} {cs : List Int32} {cd N2 : Int32} {vs : List Value} (E : RoadKit.Exa Z U.heap x ST) (V : RoadKit.Fld Z U.heap x ST "value" "[B" (.ref t)) (C : RoadKit.Fld Z U.heap x ST "coder" "B" (.int cd)) (K : RoadKit.Arv Z U.heap t kb .byte N2 vs (.int 0)) (hc : CodA cs cd N2 vs) (hb : ∀ c ∈ cs, ¬ c < 0 ∧ ¬ (65535 : Int32) < c) (l2 : cs.length ≤ 4000) :
    ∃ A, Txt x t A cd cs.length (fun j => cs.getD j 0) U := by
  obtain ⟨A, K1, K2, K3, K4, K5, K6⟩ := K
  have hcod := hc.cod (by omega) K3 K5
  obtain ⟨D, fV, fC, hB, F1, F2, g1, g2, -, -⟩ := strObj wi al E V C
  exact ⟨A, ⟨_, hB.2.2.1, D, hB.1, rfl, by cases q : D.vm <;> first | rfl | exact absurd q (hB.2.1.2 _)⟩, Has.of hB F1 g1, Has.of hB F2 g2, ⟨K1.1, State.isArrayOf_alike al K1.2.1, K1.2.2, by rcases hcod with ⟨-, q, -⟩ | ⟨-, q, -⟩ <;> omega⟩, hcod, fun j hj => by
    have e : cs.getD j 0 = cs[j] := by simp [List.getD_eq_getElem?_getD, hj]
    show ¬ cs.getD j 0 < 0 ∧ ¬ 65535 < cs.getD j 0
    rw [e]; exact hb _ (List.getElem_mem _)⟩
theorem same_list (cs ds : List Int32) : SameT cs.length (fun j => cs.getD j 0) ds.length (fun j => ds.getD j 0) ↔ cs = ds := by
  constructor
  · rintro ⟨e, q⟩
    refine List.ext_getElem e fun j h1 h2 => ?_
    have := q j h1
    simpa [List.getD_eq_getElem?_getD, h1, h2] using this
  · rintro rfl
    exact ⟨rfl, fun _ _ => rfl⟩
/-- **equals(Object) OF TWO SUCH STRINGS**: 1 just where the chars are the same -/
theorem eqW {p : Program} {l : Launch} {e : Env} {R : Room} {s : State} {args : Array Value} {below : List Frame} {len W : Nat} {Z : State} {a0 : Array Value} {h : Heap} (hZ : Z.Warmed39 s.vm) (hw : ∀ d ∈ wordsEq, d.before a0 Z = true) {kI : Nat} (wi : (Jvm.Cond.instantiable ST kI).before a0 Z = true)
    {x t : Addr} {kb : ClassId} {cs : List Int32} {cd N2 : Int32} {vs : List Value} (E : RoadKit.Exa Z h x ST) (V : RoadKit.Fld Z h x ST "value" "[B" (.ref t)) (C : RoadKit.Fld Z h x ST "coder" "B" (.int cd)) (K : RoadKit.Arv Z h t kb .byte N2 vs (.int 0)) (hc : CodA cs cd N2 vs) (hb : ∀ c ∈ cs, ¬ c < 0 ∧ ¬ (65535 : Int32) < c) (l2 : cs.length ≤ 4000)
    {y t' : Addr} {kb' : ClassId} {ds : List Int32} {cd' N2' : Int32} {vs' : List Value} (E' : RoadKit.Exa Z h y ST) (V' : RoadKit.Fld Z h y ST "value" "[B" (.ref t')) (C' : RoadKit.Fld Z h y ST "coder" "B" (.int cd')) (K' : RoadKit.Arv Z h t' kb' .byte N2' vs' (.int 0)) (hc' : CodA ds cd' N2' vs') (hb' : ∀ c ∈ ds, ¬ c < 0 ∧ ¬ (65535 : Int32) < c) (l2' : ds.length ≤ 4000)
    {z : Int32} (S : RoadKit.Sta Z h ST "COMPACT_STRINGS" "Z" (.int z)) (hz : ¬ z = 0) (hfr : 2 ≤ R.frames) (hlo : W + 28 ≤ R.locals) :
    Back l R p e below s args (⟨"java/lang/String", "equals", "(Ljava/lang/Object;)Z"⟩ : MethodName) len W (fun P a => a = #[.ref x, .ref y] ∧ P.U.heap = h ∧ P.cells + 0 ≤ R.cells ∧ P.slots + 0 ≤ R.slots)
      (fun P _ v B => ∃ L, (((v = some (.int 1) ∧ cs = ds) ∨ (v = some (.int 0) ∧ ¬ cs = ds)) ∧ L = [] ∧ B.U.heap = h) ∧ B.locs = P.locs ++ L ∧ B.cells = P.cells + 0 ∧ B.slots = P.slots + 0) := by
  intro m meth c P g ig mk a X hg hsize hdg hW hn hp'
  obtain ⟨rfl, rfl, r1, r2⟩ := hp'
  have al : Z.vm.Alike P.U.vm := hZ.alike.trans X.warmed.alike
  obtain ⟨A, hx⟩ := txt_of wi al E V C K hc hb l2
  obtain ⟨A', hy⟩ := txt_of wi al E' V' C' K' hc' hb' l2'
  obtain ⟨v, B, X', ⟨⟨w, hv, hh, hq⟩, hl, hk, hs⟩, st⟩ := SEq.pays x t A cd cs.length (fun j => cs.getD j 0) y t' A' cd' ds.length (fun j => ds.getD j 0) z (tabEq_of (movedEq hZ hw)) hfr hlo m meth c P g ig mk _ X hg hsize hdg hW hn ⟨r1, r2, rfl, hx, hy, sta_is al S, hz⟩
  refine ⟨v, B, X', ⟨[], ⟨?_, rfl, hh⟩, hl, hk, hs⟩, st⟩
  rcases hq with ⟨rfl, q⟩ | ⟨rfl, q⟩
  · exact Or.inl ⟨hv, (same_list cs ds).mp q⟩
  · exact Or.inr ⟨hv, fun e => q ((same_list cs ds).mpr e)⟩
end StrChars.Road
namespace StrChars.Road
open Jvm Sem ClassFile Op Lib Jvm.Stand Jvm.Free Jvm.Free.XT
open Jvm.Lib.Cold (StaticIs)
/-- what backV says of its String, as the contracts of this text ask it: cs's low bytes, coder 0 -/
theorem codOf {cs : List Int32} {n : Nat} (hn : cs.length = n) (hb : ∀ c ∈ cs, ¬ 255 < c) : CodA cs 0 (Int32.ofNat n) ((cs.map lo8).map Value.int) := Or.inl ⟨rfl, by rw [hn], by simp [List.map_map, Function.comp_def], hb⟩
end StrChars.Road
end Jvm.Pilot.@@N@@
namespace Jvm.Pilot.@@N@@
open Jvm Jvm.ClassFile Sem Op Lib Jvm.Free Jvm.Stand Jvm.LawKit Jvm.RoadKit Bundle Jvm.Pilot.@@N@@.Jvm.D
section Own
variable {p : Program} {l : Launch} {e : Env} {R : Room} {s : State} {m : MethodId} {args : Array Value} {below : List Frame} {meth : Method} {c : Code} {T : State} {locs : List Loc} {cells slots cl sl : Nat} {Q : Option Value → Heap → List Loc → Prop}
/-- from the state S the invocation comes to its end, returns, and Q holds of what it returned and left -/
def Goes (p : Program) (e : Env) (below : List Frame) (s : State) (cl sl : Nat) (Q : Option Value → Heap → List Loc → Prop) (S : State) : Prop :=
  ∃ s₂ o, Steps p.tables e below S s₂ ∧ s₂.status = .running ∧ Ended s₂ below o ∧ ∃ v L, o = .returned v ∧ Q v s₂.heap L ∧ FrameEnd s o s₂ L cl sl
theorem Goes.step {S S' : State} (h : ∀ t, Steps p.tables e below S' t → Steps p.tables e below S t) (k : Goes p e below s cl sl Q S') : Goes p e below s cl sl Q S := by
  obtain ⟨s₂, o, a, b⟩ := k
  exact ⟨s₂, o, h _ a, b⟩
theorem Goes.back {S S' : State} (h : Steps p.tables e below S S') (k : Goes p e below s cl sl Q S') : Goes p e below s cl sl Q S := Goes.step (fun _ q => h.trans q) k
theorem Goes.ret (X : Stand p l e R s m args below meth c T locs cells slots) (hx : p.tables.exec = Jvm.exec) (hlk : meth.locks = false) {pc : Nat} {Ls : Array Slot} {w : Value} {t : FieldType} {i : Instr} {rest : List Value} (hret : meth.sig.returnType = some t) (hn : narrow t w = w)
    (hi : (i = .ireturn ∧ (t = .int ∨ t = .boolean ∨ t = .byte ∨ t = .char ∨ t = .short) ∧ ∃ z, w = .int z) ∨ (i = .lreturn ∧ t = .long ∧ ∃ z, w = .long z) ∨ (i = .dreturn ∧ t = .double ∧ ∃ z, w = .double z) ∨ (i = .freturn ∧ t = .float ∧ ∃ z, w = .float z) ∨ (i = .areturn ∧ t.isReference = true ∧ w.isRef = true))
    (hd : decode c.code pc = .ok (i, 1)) (hQ : Q (some w) T.heap locs) (hc : cells ≤ cl) (hs : slots ≤ sl) : Goes p e below s cl sl Q (T.setTop (mkF m pc Ls (w :: rest))) := by
  obtain ⟨fs, hr, hrun, hended, hW, hsame⟩ := X.leave (v := some w) (fun h => by rw [hret] at h; cases h) hlk
  exact ⟨_, _, retOut X hx hret hn hi hd hr, hrun, hended, _, _, rfl, hQ, ⟨_, rfl⟩, hW, hsame.mono hc hs⟩
theorem Goes.retV (X : Stand p l e R s m args below meth c T locs cells slots) (hx : p.tables.exec = Jvm.exec) (hlk : meth.locks = false) {pc : Nat} {Ls : Array Slot} (hret : meth.sig.returnType = none)
    (hd : decode c.code pc = .ok (.return_, 1)) (hQ : Q none T.heap locs) (hc : cells ≤ cl) (hs : slots ≤ sl) : Goes p e below s cl sl Q (T.setTop (mkF m pc Ls [])) := by
  obtain ⟨fs, hr, hrun, hended, hW, hsame⟩ := X.leave (v := none) (fun _ => rfl) hlk
  exact ⟨_, _, X.returnOut hx hret hd hr, hrun, hended, _, _, rfl, hQ, ⟨_, rfl⟩, hW, hsame.mono hc hs⟩
theorem own_eqInt {args : Array Value} {s : State} {t : Term} {k : Int32} (h : (Cond.eq t (.int k)).value args s none s [] = some true) : t.eval args s none [] s = some (.int k) := by
  obtain ⟨x, y, hx, hy, -, k2⟩ := cmp_v (Or.inl h)
  obtain rfl : y = .int k := (Option.some.inj hy).symm
  obtain ⟨z, rfl⟩ := k2
  have e : (Cond.eq t (.int k)).value args s none s [] = some (decide (z = k)) := by simp [Cond.value, hx, hy]
  rw [hx, gotT e h]
theorem own_eqLong {args : Array Value} {s : State} {t : Term} {k : Int64} (h : (Cond.eq t (.long k)).value args s none s [] = some true) : t.eval args s none [] s = some (.long k) := by
  obtain ⟨x, y, hx, hy, -, k2⟩ := cmp_v (Or.inl h)
  obtain rfl : y = .long k := (Option.some.inj hy).symm
  obtain ⟨z, rfl⟩ := k2
  rw [hx, gotT (eq_L hx hy) h]
theorem own_neFld {Z : State} {h : Heap} {a b : Addr} {C n d : String} {x y : Int32} (F : Fld Z h a C n d (.int x)) (G : Fld Z h b C n d (.int y)) (q : x ≠ y) : a ≠ b := fun e => by
  subst e
  obtain ⟨cell, cf, k, i, f, h1, h2, -, -, -, -, h7⟩ := F
  obtain ⟨cell', cf', k', i', f', g1, g2, -, -, -, -, g7⟩ := G
  cases h1.symm.trans g1
  cases h2.symm.trans g2
  rw [h7] at g7
  injection g7 with g8
  injection g8 with g9
  exact q g9
theorem own_miss1 {k : Int32} {a : Int} (b : Int32) (hb : b.toInt = a) (h : ¬ k = b) : a ≠ k.toInt := fun q => h (Int32.toInt_inj.mp (by rw [hb, q]))
theorem own_find3 {k : Int32} {a b c' o1 o2 o3 : Int} {a' b' d' : Int32} (ha : ¬ k = a') (hb : ¬ k = b') (hc : ¬ k = d') (ea : a'.toInt = a := by rfl) (eb : b'.toInt = b := by rfl) (ec : d'.toInt = c' := by rfl) : (#[(a, o1), (b, o2), (c', o3)] : Array (Int × Int)).find? (·.1 == k.toInt) = none :=
  find_miss fun p hp => by
    simp only [List.mem_cons, List.not_mem_nil, or_false] at hp
    rcases hp with rfl | rfl | rfl
    · exact own_miss1 _ ea ha
    · exact own_miss1 _ eb hb
    · exact own_miss1 _ ec hc
theorem own_insKeep {Z : State} {h h' : Heap} {a : Addr} {C : String} {b : Bool} {ws : List Addr} (F : Ins Z h a C b) (K : Keep h h' ws) : Ins Z h' a C b := by
  obtain ⟨cell, cT, h1, h2, h3⟩ := F
  obtain ⟨c', q, r1, r2, r3⟩ := K.2.2 a cell h1
  exact ⟨c', cT, q, h2, by rw [r1, r2]; exact h3⟩
theorem own_insLt {Z : State} {h : Heap} {a : Addr} {C : String} {b : Bool} (F : Ins Z h a C b) : a < h.size := by
  obtain ⟨cell, cT, h1, -⟩ := F
  exact (Array.getElem?_eq_some_iff.mp h1).1
theorem own_cat {v : Value} (h : v.isRef = true) : v.category = 1 := by cases v <;> first | rfl | (simp [Value.isRef] at h)
theorem own_nar {ty : FieldType} {v : Value} (h : v.isRef = true) : narrow ty v = v := by cases v <;> first | (simp [Value.isRef] at h; done) | (cases ty <;> rfl)
theorem own_fit {C : String} {v : Value} (h : v.isRef = true) : fits (.object C) v = true := by cases v <;> first | rfl | (simp [Value.isRef] at h)
/-- a private method is selected by its own type, which is no interface since another method of it is selected -/
theorem own_selPriv {s : State} {args : Array Value} {C : String} {x z y : MethodName} (w : (Cond.selects C x z).before args s = true) (hc : z.cls = y.cls) (hp : (Cond.privateMethod y).before args s = true) (hi : (Cond.instanceMethod y).before args s = true)
    (hy : y.cls ≠ "java/lang/invoke/MethodHandle" ∧ y.cls ≠ "java/lang/invoke/VarHandle") : (Cond.selects y.cls y y).before args s = true := by
  obtain ⟨c2, r2, m2, -, -, q3, -, kP, hkP, hkPi⟩ := Cond.selects_spec w
  have hf := findClass_of_methodNamed q3
  rw [hc] at hf
  exact selects_self_of_private hf hkP hkPi (Cond.privateMethod_at hp) hi hy
/-- an array whose contents aren't told -/
def Arx (Z : State) (h : Heap) (a : Addr) (k : ClassId) (ty : FieldType) (n : Int32) : Prop :=
  ∃ cl : Cell, Arr Z h a cl ty ∧ cl.cls = k ∧ cl.slots.size = n.toNatClampNeg ∧ ¬ n < 0 ∧ ∀ i, i < cl.slots.size → ∃ v, cl.slots[i]? = some v ∧ fits ty v = true
theorem Arx.lt {Z : State} {h : Heap} {a : Addr} {k : ClassId} {ty : FieldType} {n : Int32} (F : Arx Z h a k ty n) : a < h.size := by obtain ⟨cl, A, -⟩ := F; exact A.lt
theorem Arx.ext {Z : State} {h h' : Heap} {a : Addr} {k : ClassId} {ty : FieldType} {n : Int32} (F : Arx Z h a k ty n) (E : Ext h h') : Arx Z h' a k ty n := by obtain ⟨cl, A, r⟩ := F; exact ⟨cl, A.ext E, r⟩
theorem Arx.other {Z : State} {h h' : Heap} {a b : Addr} {k : ClassId} {ty : FieldType} {n : Int32} {sl : Nat} {v : Value} (F : Arx Z h b k ty n) (W : Wr h h' a sl v) (q : b ≠ a) : Arx Z h' b k ty n := by obtain ⟨cl, A, r⟩ := F; exact ⟨cl, A.other W q, r⟩
theorem Arx.keep {Z : State} {h h' : Heap} {a : Addr} {k : ClassId} {ty : FieldType} {n : Int32} {ws : List Addr} (F : Arx Z h a k ty n) (K : Keep h h' ws) (q : a ∉ ws) : Arx Z h' a k ty n := by obtain ⟨cl, A, r⟩ := F; exact ⟨cl, ⟨K.2.1 a cl A.1 q, A.2⟩, r⟩
theorem Arx.set {Z : State} {h h' : Heap} {a : Addr} {k : ClassId} {ty : FieldType} {n : Int32} {cl : Cell} {sl : Nat} {v : Value} (A : Arr Z h a cl ty) (q1 : cl.cls = k) (S : cl.slots.size = n.toNatClampNeg) (P : ¬ n < 0) (G : ∀ i, i < cl.slots.size → ∃ v, cl.slots[i]? = some v ∧ fits ty v = true) (hv : fits ty v = true) (W : Wr h h' a sl v) : Arx Z h' a k ty n := by
  refine ⟨_, A.same W, q1, by rw [sz_set]; exact S, P, fun i hi => ?_⟩
  rw [sz_set] at hi
  by_cases u : sl = i
  · subst u
    exact ⟨v, by simp [Cell.setSlot, hi], hv⟩
  · obtain ⟨w, e1, e2⟩ := G i hi
    refine ⟨w, ?_, e2⟩
    show (cl.slots.setIfInBounds sl v)[i]? = some w
    rw [Array.getElem?_setIfInBounds_ne u]
    exact e1
theorem own_arx {Z : State} {h : Heap} {a : Addr} {k : ClassId} {ty : FieldType} {n : Int32} {vs : List Value} {d : Value} (F : Arv Z h a k ty n vs d) : Arx Z h a k ty n := by
  obtain ⟨cl, A, r1, r2, r3, H, G⟩ := F
  exact ⟨cl, A, r1, r2, r3, fun i hi => ⟨_, H i hi, G i hi⟩⟩
theorem own_arI {cl : Cell} {j : Int32} (G : ∀ i, i < cl.slots.size → ∃ v, cl.slots[i]? = some v ∧ fits .int v = true) (hin : ¬ (j < 0 ∨ cl.slots.size ≤ j.toNatClampNeg)) : ∃ x : Int32, cl.slots[j.toNatClampNeg]? = some (.int x) := by
  obtain ⟨v, e1, e2⟩ := G _ (Nat.lt_of_not_le fun q => hin (Or.inr q))
  obtain ⟨x, rfl⟩ := fit_I e2 (Or.inl rfl)
  exact ⟨x, e1⟩
theorem own_arD {cl : Cell} {j : Int32} (G : ∀ i, i < cl.slots.size → ∃ v, cl.slots[i]? = some v ∧ fits .double v = true) (hin : ¬ (j < 0 ∨ cl.slots.size ≤ j.toNatClampNeg)) : ∃ x, cl.slots[j.toNatClampNeg]? = some (.double x) := by
  obtain ⟨v, e1, e2⟩ := G _ (Nat.lt_of_not_le fun q => hin (Or.inr q))
  obtain ⟨x, rfl⟩ := fit_D e2
  exact ⟨x, e1⟩
end Own
theorem own_arx0 {s : State} {args : Array Value} {t : Term} {a : Addr} {cl : Cell} {ty : FieldType} {n : Int32} (hfit : Fit s) (et : t.eval args s none [] s = some (.ref a)) (A : Arr s s.heap a cl ty) (hl : (Term.length t).eval args s none [] s = some (.int n)) (hn : ¬ n < 0) : Arx s s.heap a cl.cls ty n := by
  obtain ⟨x, c2, e1, e2, e4, e3⟩ := Jvm.Free.SB.Term.length_small hl
  cases et.symm.trans e1
  cases (A.fin (Vm.Alike.refl _)).symm.trans e2
  injection e4 with e5
  have hs : cl.slots.size = n.toNatClampNeg := by
    rw [e5]
    simp only [Int32.toNatClampNeg, len_toInt e3]
    rfl
  refine ⟨cl, A, rfl, hs, hn, fun i hi => ?_⟩
  have hq : ¬ (i.toInt32 < 0 ∨ cl.slots.size ≤ i.toInt32.toNatClampNeg) := idx_in hi e3
  obtain ⟨v, r1, r2⟩ := elem_fit hfit A hq
  refine ⟨v, ?_, r2⟩
  have hi2 : i.toInt32.toNatClampNeg = i := by simp only [Int32.toNatClampNeg, len_toInt (Nat.lt_trans hi e3)]; rfl
  rw [hi2] at r1
  exact r1
section OwnChars
theorem own_and255 (x : Int32) : ¬ nar .char ((x &&& (255 : Int32)).toUInt32.toUInt16.toUInt32.toInt32) < 0 ∧ ¬ (255 : Int32) < nar .char ((x &&& (255 : Int32)).toUInt32.toUInt16.toUInt32.toInt32) := by
  have t : ∀ k : Fin 256, ¬ nar .char ((Int32.ofNat k.val).toUInt32.toUInt16.toUInt32.toInt32) < 0 ∧ ¬ (255 : Int32) < nar .char ((Int32.ofNat k.val).toUInt32.toUInt16.toUInt32.toInt32) := by decide +kernel
  have h : (x &&& 255).toBitVec.toNat < 256 := by
    simp only [Int32.toBitVec_and, BitVec.toNat_and]
    exact Nat.lt_succ_of_le Nat.and_le_right
  have e : (x &&& 255) = Int32.ofNat (x &&& 255).toBitVec.toNat := by
    apply Int32.toBitVec_inj.mp
    show _ = BitVec.ofNat 32 _
    rw [BitVec.ofNat_toNat]; simp
  rw [e]
  exact t ⟨_, h⟩
end OwnChars
section OwnBox
theorem own_cacheIn {x : Int32} (h1 : ¬ x < (-128 : Int32)) (h2 : ¬ (127 : Int32) < x) : ¬ (x + (128 : Int32)) < 0 ∧ (x + (128 : Int32)) < (256 : Int32) := by
  rw [Int32.lt_iff_toInt_lt] at h1 h2
  have e1 : (-128 : Int32).toInt = -128 := rfl
  have e2 : (127 : Int32).toInt = 127 := rfl
  have e3 : (128 : Int32).toInt = 128 := rfl
  have e4 : (256 : Int32).toInt = 256 := rfl
  have e5 : (0 : Int32).toInt = 0 := rfl
  have e : (x + (128 : Int32)).toInt = x.toInt + 128 := Jvm.Kit.i32_add (by omega) (by omega)
  rw [Int32.lt_iff_toInt_lt, Int32.lt_iff_toInt_lt]
  omega
theorem own_c128 (x : Int32) : x + (128 : Int32) - (128 : Int32) = x := Int32.add_sub_cancel x 128
theorem own_bxs {s : State} {args : Array Value} {ca : Addr} {cc : Cell} (eca : (Term.static "java/lang/Integer$IntegerCache" "cache" "[Ljava/lang/Integer;").eval args s none [] s = some (.ref ca)) (A : Arr s s.heap ca cc (.object "java/lang/Integer"))
    (hl : (Term.length (Term.static "java/lang/Integer$IntegerCache" "cache" "[Ljava/lang/Integer;")).eval args s none [] s = some (.int (256 : Int32)))
    (h : (Cond.all (Term.static "java/lang/Integer$IntegerCache" "cache" "[Ljava/lang/Integer;") (.and (.exactly (.elem (Term.static "java/lang/Integer$IntegerCache" "cache" "[Ljava/lang/Integer;") (.index 0)) "java/lang/Integer") (.eq (.field (.elem (Term.static "java/lang/Integer$IntegerCache" "cache" "[Ljava/lang/Integer;") (.index 0)) "java/lang/Integer" "value" "I") (.sub (.index 0) (.int (128 : Int32)))))).value args s none s [] = some true) :
    Bxs s ca cc "java/lang/Integer" "I" (256 : Int32) (fun j => .int (j - (128 : Int32))) := by
  obtain ⟨x, cl, e1, e2, e4, e3⟩ := Jvm.Free.SB.Term.length_small hl
  cases eca.symm.trans e1
  cases (A.fin (Vm.Alike.refl _)).symm.trans e2
  refine Bxs.start (fun idx => eca) A e3 (by injection e4 with e5; exact e5.symm) (by decide) h (fun X j hj hX => ?_)
  exact eqv_i (by simp [Term.eval]; exact (back32 hj).1) hX
end OwnBox
section OwnWide
variable {p : Program} {l : Launch} {e : Env} {R : Room} {s : State} {m : MethodId} {args : Array Value} {below : List Frame} {meth : Method} {c : Code} {T Z : State} {locs : List Loc} {cells slots cl sl : Nat} {Q : Option Value → Vm → Heap → List Loc → Prop}
/-- 'Goes' for a body that may intern: the wide end -/
def GoesW (p : Program) (e : Env) (below : List Frame) (s : State) (cl sl : Nat) (Q : Option Value → Vm → Heap → List Loc → Prop) (S : State) : Prop :=
  ∃ s₂ o, Steps p.tables e below S s₂ ∧ s₂.status = .running ∧ Ended s₂ below o ∧ ∃ v L, o = .returned v ∧ Q v s₂.vm s₂.heap L ∧ ReturnedEndW s o s₂ L cl sl
theorem GoesW.step {S S' : State} (h : ∀ t, Steps p.tables e below S' t → Steps p.tables e below S t) (k : GoesW p e below s cl sl Q S') : GoesW p e below s cl sl Q S := by
  obtain ⟨s₂, o, a, b⟩ := k
  exact ⟨s₂, o, h _ a, b⟩
theorem GoesW.back {S S' : State} (h : Steps p.tables e below S S') (k : GoesW p e below s cl sl Q S') : GoesW p e below s cl sl Q S := GoesW.step (fun _ q => h.trans q) k
theorem own_rem {o : Outcome} {t : State} {L : List Loc} {k n k' n' : Nat} (h : ReturnedEndW s o t L k n) (hk : k ≤ k') (hn : n ≤ n') : ReturnedEndW s o t L k' n' := ⟨h.1, h.2.1, h.2.2.1, h.2.2.2.mono hk hn⟩
theorem GoesW.ret1 {vm₁ : Vm} {n : Nat} (X : Stand p l e R (s.setVm vm₁) m args below meth c T locs cells slots) (hS : s.Since vm₁ n) (hle : n ≤ T.heap.size) (hx : p.tables.exec = Jvm.exec) (hlk : meth.locks = false) {pc : Nat} {Ls : Array Slot} {w : Value} {t : FieldType} {i : Instr} {rest : List Value} (hret : meth.sig.returnType = some t) (hn : narrow t w = w)
    (hi : (i = .ireturn ∧ (t = .int ∨ t = .boolean ∨ t = .byte ∨ t = .char ∨ t = .short) ∧ ∃ z, w = .int z) ∨ (i = .lreturn ∧ t = .long ∧ ∃ z, w = .long z) ∨ (i = .dreturn ∧ t = .double ∧ ∃ z, w = .double z) ∨ (i = .freturn ∧ t = .float ∧ ∃ z, w = .float z) ∨ (i = .areturn ∧ t.isReference = true ∧ w.isRef = true))
    (hd : decode c.code pc = .ok (i, 1)) (hQ : Q (some w) T.vm T.heap locs) (hc : cells ≤ cl) (hs : slots ≤ sl) : GoesW p e below s cl sl Q (T.setTop (mkF m pc Ls (w :: rest))) := by
  obtain ⟨fs, hr, hrun, hended, hE⟩ := X.leaveW hS hle (v := some w) (fun h => by rw [hret] at h; cases h) hlk
  exact ⟨_, _, retOut X hx hret hn hi hd hr, hrun, hended, _, _, rfl, hQ, own_rem hE hc hs⟩
theorem GoesW.retV1 {vm₁ : Vm} {n : Nat} (X : Stand p l e R (s.setVm vm₁) m args below meth c T locs cells slots) (hS : s.Since vm₁ n) (hle : n ≤ T.heap.size) (hx : p.tables.exec = Jvm.exec) (hlk : meth.locks = false) {pc : Nat} {Ls : Array Slot} (hret : meth.sig.returnType = none)
    (hd : decode c.code pc = .ok (.return_, 1)) (hQ : Q none T.vm T.heap locs) (hc : cells ≤ cl) (hs : slots ≤ sl) : GoesW p e below s cl sl Q (T.setTop (mkF m pc Ls [])) := by
  obtain ⟨fs, hr, hrun, hended, hE⟩ := X.leaveW hS hle (v := none) (fun _ => rfl) hlk
  exact ⟨_, _, X.returnOut hx hret hd hr, hrun, hended, _, _, rfl, hQ, own_rem hE hc hs⟩
theorem own_retab (X : Stand p l e R s m args below meth c T locs cells slots) : Stand p l e R (s.setVm T.vm) m args below meth c T locs cells slots := X.retabled X.warmed.wide
theorem GoesW.ret0 (X : Stand p l e R s m args below meth c T locs cells slots) (hx : p.tables.exec = Jvm.exec) (hlk : meth.locks = false) {pc : Nat} {Ls : Array Slot} {w : Value} {t : FieldType} {i : Instr} {rest : List Value} (hret : meth.sig.returnType = some t) (hn : narrow t w = w)
    (hi : (i = .ireturn ∧ (t = .int ∨ t = .boolean ∨ t = .byte ∨ t = .char ∨ t = .short) ∧ ∃ z, w = .int z) ∨ (i = .lreturn ∧ t = .long ∧ ∃ z, w = .long z) ∨ (i = .dreturn ∧ t = .double ∧ ∃ z, w = .double z) ∨ (i = .freturn ∧ t = .float ∧ ∃ z, w = .float z) ∨ (i = .areturn ∧ t.isReference = true ∧ w.isRef = true))
    (hd : decode c.code pc = .ok (i, 1)) (hQ : Q (some w) T.vm T.heap locs) (hc : cells ≤ cl) (hs : slots ≤ sl) : GoesW p e below s cl sl Q (T.setTop (mkF m pc Ls (w :: rest))) :=
  GoesW.ret1 (own_retab X) (X.warmed.since 0) (Nat.zero_le _) hx hlk hret hn hi hd hQ hc hs
theorem GoesW.retV0 (X : Stand p l e R s m args below meth c T locs cells slots) (hx : p.tables.exec = Jvm.exec) (hlk : meth.locks = false) {pc : Nat} {Ls : Array Slot} (hret : meth.sig.returnType = none)
    (hd : decode c.code pc = .ok (.return_, 1)) (hQ : Q none T.vm T.heap locs) (hc : cells ≤ cl) (hs : slots ≤ sl) : GoesW p e below s cl sl Q (T.setTop (mkF m pc Ls [])) :=
  GoesW.retV1 (own_retab X) (X.warmed.since 0) (Nat.zero_le _) hx hlk hret hd hQ hc hs
theorem own_litv {S S' : State} {vm : Vm} {own : String} {i : Nat} {a : Addr} (L : Lit (S.setVm vm) own i a) : Lit (S'.setVm vm) own i a := L
/-- what is known of the constant "": nothing was interned since the case's start; or its entry is resolved to an empty String -/
def own_CH (Z : State) (vm : Vm) (h : Heap) : Prop := IB Z vm [] ∨ ∃ (a b : Addr) (k : ClassId), Lit (Z.setVm vm) "java/lang/String" 7 a ∧ Exa Z h a "java/lang/String" ∧ Fld Z h a "java/lang/String" "coder" "B" (.int (0 : Int32)) ∧ Fld Z h a "java/lang/String" "value" "[B" (.ref b) ∧ Arv Z h b k .byte (0 : Int32) [] (.int (0 : Int32))
theorem own_ib {Ts : List String} {vm₁ : Vm} (I : IB Z s.vm Ts) (hW : s.WarmedH vm₁) : IB Z vm₁ Ts := by
  obtain ⟨more, e1, e2⟩ := I
  exact ⟨more, hW.interned_eq.trans e1, e2⟩
theorem own_CH.warm {vm₁ : Vm} {h : Heap} (C : own_CH Z s.vm h) (hW : s.WarmedH vm₁) : own_CH Z vm₁ h := by
  rcases C with I | ⟨a, b, k, L, r⟩
  · exact Or.inl (own_ib I hW)
  · exact Or.inr ⟨a, b, k, own_litv (Lit.stays (s := s) (vm0 := s.vm) (own_litv L) hW.wide), r⟩
theorem own_CH.keep {vm : Vm} {h h' : Heap} (C : own_CH Z vm h) (K : Keep h h' []) : own_CH Z vm h' := by
  rcases C with I | ⟨a, b, k, L, e1, e2, e3, e4⟩
  · exact Or.inl I
  · exact Or.inr ⟨a, b, k, L, e1.keep K, e2.keep K nin0, e3.keep K nin0, e4.keep K nin0⟩
theorem own_backS {y : MethodName} {bytes : ByteArray} {maxL : Nat} {ret : Option FieldType} {rm : Room} {len W : Nat} {as' : Array Value} {h : Heap} {a0 : Array Value}
    (hM : MetFree l y (head1 [Cond.code y bytes maxL ret] rm) (fun a U => a = as' ∧ Z.Warmed39 U.vm ∧ U.heap = h ∧ own_CH Z U.vm h) (fun _ _ _ _ _ => True) (fun _ U o U' => ∃ v L, o = .returned v ∧ Q v U'.vm U'.heap L ∧ ReturnedEndW U o U' L rm.cells rm.slots))
    (hZ : Z.Warmed39 s.vm) (wc : (Cond.code y bytes maxL ret).before a0 Z = true) (wz : (Cond.initialized y.cls).before a0 Z = true) (hf : rm.frames + 1 ≤ R.frames) (hl : W + (maxL + 11) + rm.locals ≤ R.locals) :
    BackS l R p e below s args y len W (fun A a => a = as' ∧ A.U.heap = h ∧ A.cells + rm.cells ≤ R.cells ∧ A.slots + rm.slots ≤ R.slots ∧ own_CH Z A.U.vm h)
      (fun A _ v B => ∃ L, Q v B.U.vm B.U.heap L ∧ B.locs = A.locs ++ L ∧ B.cells = A.cells + rm.cells ∧ B.slots = A.slots + rm.slots) :=
  BackS.of_freeW (bytes := bytes) (maxL := maxL) (ret := ret) (E := fun _ _ o t L k n => k = rm.cells ∧ n = rm.slots ∧ ∃ v, o = .returned v ∧ Q v t.vm t.heap L) hM hf hl
    (fun m meth c A a Y hp => have hU : Z.Warmed39 A.U.vm := wtrans hZ Y.warmed
      ⟨by show (Cond.and _ .tt).before a A.U = true; rw [Cond.before_and, mv hU wc]; rfl, mv hU wc, mv hU wz, hp.2.2.1, hp.2.2.2.1⟩)
    (fun m meth c A a g mk Y hp => ⟨hp.1, wtrans hZ Y.warmed, hp.2.1, hp.2.2.2.2⟩) (fun _ _ _ _ _ _ _ _ _ => trivial)
    (fun _ _ _ _ ⟨v, L, h1, h2, h3⟩ => ⟨L, _, _, h3, rfl, rfl, v, h1, h2⟩)
    (fun m meth c A a g mk v t L k n Y hp _ _ ⟨e1, e2, v', e3, e4⟩ => by cases e3; subst e1 e2; exact ⟨L, e4, rfl, rfl, rfl⟩)
theorem own_neNul {h : Heap} {a b y : Addr} {C n d : String} (F : Fld Z h a C n d (.ref y)) (G : Fld Z h b C n d .null) : a ≠ b := fun e => by
  subst e
  obtain ⟨cell, cf, k, i, f, h1, h2, -, -, -, -, h7⟩ := F
  obtain ⟨cell', cf', k', i', f', g1, g2, -, -, -, -, g7⟩ := G
  cases h1.symm.trans g1
  cases h2.symm.trans g2
  rw [h7] at g7
  cases g7
theorem own_nsRoot {a0 : Array Value} {O K : String} {n : Nat} (w : (Cond.noSuperclass O).before a0 Z = true) (wk : (Cond.instantiable K n).before a0 Z = true) (hn : O ≠ K) : NS Z O K := by
  obtain ⟨c, k, h1, h2, h3, -, -⟩ := Cond.noSuperclass_spec w
  obtain ⟨t, kt, g1, -⟩ := Cond.instantiable_spec wk
  have ne := ids_ne h1 g1 hn
  refine ⟨c, t, h1, g1, fun fuel => ?_⟩
  cases fuel with
  | zero => rfl
  | succ f => simp [Vm.isSubclassAux, ne, h2, h3]
theorem own_nsNo {a0 : Array Value} {C S K : String} {n : Nat} (w : (Cond.superclass C S).before a0 Z = true) (wk : (Cond.instantiable K n).before a0 Z = true) (q : NS Z C K) (hn : C ≠ K) : ∃ c t, Z.vm.findClass C = some c ∧ Z.vm.findClass K = some t ∧ Z.vm.assignable c t = false := by
  obtain ⟨c, t, h0, g0, n3⟩ := q
  obtain ⟨p, k, kp, h1, h2, h3, h4, h5, -, h7⟩ := Cond.superclass_spec h0 w
  obtain ⟨t', kt, g1, g2, g5, g6, -⟩ := Cond.instantiable_spec wk
  cases g0.symm.trans g1
  have g7 : kt.isInterface = false := by
    cases hq : kt.isInterface with
    | false => rfl
    | true => rw [hq] at g6; cases g6
  have ne := ids_ne h0 g0 hn
  refine ⟨c, t, h0, g0, ?_⟩
  show Z.vm.assignableAux (255 + 1) c t = false
  simp [Vm.assignableAux, ne, h2, g2, h5, g5, g7, Vm.isSubclass, n3]
/-- a String that spells cs -/
def own_S (Z : State) (h : Heap) (x : Addr) (cs : List Int32) : Prop := ∃ (t : Addr) (kb : ClassId) (N : Int32) (vs : List Value), Exa Z h x "java/lang/String" ∧ Fld Z h x "java/lang/String" "value" "[B" (.ref t) ∧ Fld Z h x "java/lang/String" "coder" "B" (.int (0 : Int32)) ∧ Arv Z h t kb .byte N vs (.int (0 : Int32)) ∧ StrChars.Road.CodA cs 0 N vs ∧ (∀ c ∈ cs, ¬ c < 0 ∧ ¬ (65535 : Int32) < c) ∧ cs.length ≤ 4000
theorem own_S.lt {h : Heap} {x : Addr} {cs : List Int32} (S : own_S Z h x cs) : x < h.size := by obtain ⟨t, kb, N, vs, e1, -⟩ := S; exact e1.lt
theorem own_S.exa {h : Heap} {x : Addr} {cs : List Int32} (S : own_S Z h x cs) : Exa Z h x "java/lang/String" := by obtain ⟨t, kb, N, vs, e1, -⟩ := S; exact e1
theorem own_S.ext {h h' : Heap} {x : Addr} {cs : List Int32} (S : own_S Z h x cs) (E : Ext h h') : own_S Z h' x cs := by
  obtain ⟨t, kb, N, vs, e1, e2, e3, e4, r⟩ := S
  exact ⟨t, kb, N, vs, e1.ext E, e2.ext E, e3.ext E, e4.ext E, r⟩
theorem own_S.keep0 {h h' : Heap} {x : Addr} {cs : List Int32} (S : own_S Z h x cs) (K : Keep h h' []) : own_S Z h' x cs := by
  obtain ⟨t, kb, N, vs, e1, e2, e3, e4, r⟩ := S
  exact ⟨t, kb, N, vs, e1.keep K, e2.keep K nin0, e3.keep K nin0, e4.keep K nin0, r⟩
theorem own_S.keepT {h h' : Heap} {x y : Addr} {cs : List Int32} {a0 : Array Value} {D : String} {n : Nat} (S : own_S Z h x cs) (K : Keep h h' [y]) (E : Exa Z h y D) (w : (Cond.instantiable D n).before a0 Z = true) (hD : "java/lang/String" ≠ D) : own_S Z h' x cs := by
  obtain ⟨t, kb, N, vs, e1, e2, e3, e4, r⟩ := S
  have n1 : x ≠ y := Exa.ne e1 E hD
  have n2 : t ≠ y := Ne.symm (Exa.neArv E e4 w)
  exact ⟨t, kb, N, vs, e1.keep K, e2.keep K (ninS n1 nin0), e3.keep K (ninS n1 nin0), e4.keep K (ninS n2 nin0), r⟩
theorem own_up {cs : List Int32} (h : ∀ c ∈ cs, ¬ c < 0 ∧ ¬ (255 : Int32) < c) : ∀ c ∈ cs, ¬ c < 0 ∧ ¬ (65535 : Int32) < c := fun c hc => ⟨(h c hc).1, fun q => (h c hc).2 (Int32.lt_trans (by decide) q)⟩
end OwnWide
theorem d3_0 : decode jdk_42_method_149_code 0 = .ok (.aload_n 0, 1) := by decide +kernel
theorem d3_1 : decode jdk_42_method_149_code 1 = .ok (.invokespecial 1, 3) := by decide +kernel
theorem d3_4 : decode jdk_42_method_149_code 4 = .ok (.iload_n 3, 1) := by decide +kernel
theorem d3_5 : decode jdk_42_method_149_code 5 = .ok (.ifCond .ne 22, 3) := by decide +kernel
theorem d3_8 : decode jdk_42_method_149_code 8 = .ok (.aload_n 0, 1) := by decide +kernel
theorem d3_9 : decode jdk_42_method_149_code 9 = .ok (.ldc 7, 2) := by decide +kernel
theorem d3_11 : decode jdk_42_method_149_code 11 = .ok (.getfield 9, 3) := by decide +kernel
theorem d3_14 : decode jdk_42_method_149_code 14 = .ok (.putfield 9, 3) := by decide +kernel
theorem d3_17 : decode jdk_42_method_149_code 17 = .ok (.aload_n 0, 1) := by decide +kernel
theorem d3_18 : decode jdk_42_method_149_code 18 = .ok (.ldc 7, 2) := by decide +kernel
theorem d3_20 : decode jdk_42_method_149_code 20 = .ok (.getfield 15, 3) := by decide +kernel
theorem d3_23 : decode jdk_42_method_149_code 23 = .ok (.putfield 15, 3) := by decide +kernel
theorem d3_26 : decode jdk_42_method_149_code 26 = .ok (.return_, 1) := by decide +kernel
theorem pn_3 : plainName "java/lang/String" = true := by first | (simp [plainName, overriddenIn]; done) | decide +kernel
theorem ef_3 (m : MethodId) (x0 : Addr) (x1 : Addr)  : entryFrame m #[(.ref x0), (.ref x1), (.int (0 : Int32)), (.int (0 : Int32)), .null] 6 = mkF m 0 #[.val (.ref x0), .val (.ref x1), .val (.int (0 : Int32)), .val (.int (0 : Int32)), .val .null, .unset] [] := by first | (simp [entryFrame, mkF, argsToLocals, Value.category]; done) | rfl
def Q3 (Z : State) (x0 : Addr) (x1 : Addr) (h0 : Heap) (n0 : Nat) (v : Option Value) (vm : Vm) (h : Heap) (L : List Loc) : Prop := v = none ∧ Fr n0 L ∧ Keep h0 h [x0] ∧ Exa Z h x0 "java/lang/String" ∧ Fld Z h x0 "java/lang/String" "coder" "B" (.int (0 : Int32)) ∧ ∃ (t : Addr) (kb : ClassId), Fld Z h x0 "java/lang/String" "value" "[B" (.ref t) ∧ Arv Z h t kb .byte (0 : Int32) [] (.int (0 : Int32)) ∧ own_CH Z vm h
set_option maxRecDepth 65536 in
set_option maxHeartbeats 40000000 in
theorem rm3 (l : Launch) (Z : State) (a0 : Array Value) (hw : ∀ d ∈ tables_1, d.before a0 Z = true) (ws : List Jvm.Cond) (x0 : Addr) (x1 : Addr) (h0 : Heap) (n0 : Nat) (Z0 : n0 ≤ h0.size) (F_value : Fld Z h0 x0 "java/lang/String" "value" "[B" .null) (F_coder : Fld Z h0 x0 "java/lang/String" "coder" "B" (.int (0 : Int32))) (E_x0 : Exa Z h0 x0 "java/lang/String") (g_x0 : n0 ≤ x0) (X00 : Old Z n0 h0) (hheld : Jvm.Lit.constHeld Z "java/lang/String" 7) (hcw : Jvm.Lit.compactW.before a0 Z = true) :
    MetFree l (⟨"java/lang/String", "<init>", "([CIILjava/lang/Void;)V"⟩ : MethodName) (head1 (Jvm.Cond.code (⟨"java/lang/String", "<init>", "([CIILjava/lang/Void;)V"⟩ : MethodName) jdk_42_method_149_code 6 none :: ws) ({ frames := 1, cells := 2, slots := 4, locals := 12 } : Room)) (fun a U => a = #[(.ref x0), (.ref x1), (.int (0 : Int32)), (.int (0 : Int32)), .null] ∧ Z.Warmed39 U.vm ∧ U.heap = h0 ∧ own_CH Z U.vm h0) (fun _ _ _ _ _ => True) (fun _ U o U' => ∃ v L, o = .returned v ∧ Q3 Z x0 x1 h0 n0 v U'.vm U'.heap L ∧ ReturnedEndW U o U' L ({ frames := 1, cells := 2, slots := 4, locals := 12 } : Room).cells ({ frames := 1, cells := 2, slots := 4, locals := 12 } : Room).slots) := by
  refine MetFree.of_bodySF (plainFor_of_name pn_3) hisR ?_
  intro p e s m args below meth c s₁ Bd hml0 hP hK
  obtain ⟨rfl, hZ, hh, hCH⟩ := hP
  have w_5 := hw _ (List.mem_of_getElem? (i := 5) rfl)
  have w_15 := hw _ (List.mem_of_getElem? (i := 15) rfl)
  have w_16 := hw _ (List.mem_of_getElem? (i := 16) rfl)
  have w_17 := hw _ (List.mem_of_getElem? (i := 17) rfl)
  have w_18 := hw _ (List.mem_of_getElem? (i := 18) rfl)
  have w_20 := hw _ (List.mem_of_getElem? (i := 20) rfl)
  have w_21 := hw _ (List.mem_of_getElem? (i := 21) rfl)
  have w_24 := hw _ (List.mem_of_getElem? (i := 24) rfl)
  have w_25 := hw _ (List.mem_of_getElem? (i := 25) rfl)
  have hx := Bd.exec
  have hby := Bd.bytes
  have hml : c.maxLocals = 6 := hml0
  have hown : s.vm.findClass "java/lang/String" = some m.cls := findClass_of_methodNamed Bd.named
  have hnm := (name_of_methodNamed Bd.named Bd.method).1
  have X0 : Stand p l e ({ frames := 1, cells := 2, slots := 4, locals := 12 } : Room) s m #[(.ref x0), (.ref x1), (.int (0 : Int32)), (.int (0 : Int32)), .null] below meth c s₁ [] 0 0 := Stand.of_body Bd
  have e0 : s₁.heap = h0 := by rw [← hh, Bd.state]; rfl
  have N0 := Fr.nil n0
  have K0 : Keep h0 h0 [x0] := Keep.refl h0 _
  refine (?_ : GoesW p e below s ({ frames := 1, cells := 2, slots := 4, locals := 12 } : Room).cells ({ frames := 1, cells := 2, slots := 4, locals := 12 } : Room).slots (fun v vm h L => Q3 Z x0 x1 h0 n0 v vm h L) (s₁.setTop (entryFrame m #[(.ref x0), (.ref x1), (.int (0 : Int32)), (.int (0 : Int32)), .null] 6)))
  rw [ef_3 m x0 x1 ]
  show GoesW _ _ _ _ _ _ _ (s₁.setTop (mkF m 0 #[.val (.ref x0), .val (.ref x1), .val (.int (0 : Int32)), .val (.int (0 : Int32)), .val .null, .unset] []))
  refine GoesW.step (fun _ k => XS.aloadN X0.here hx rfl (hb hby d3_0) rfl rfl k) ?_
  obtain ⟨T1, X1, e1, st1⟩ := initO X0 hx hZ hown w_15 w_16 w_17 e0 (g := (mkF m 1 #[.val (.ref x0), .val (.ref x1), .val (.int (0 : Int32)), .val (.int (0 : Int32)), .val .null, .unset] [(.ref x0)])) rfl (by rw [hml]; rfl) rfl (hb hby d3_1) (by decide) (W := 0) (by show 2 * 0 + _ ≤ _; exact Nat.le_of_eq rfl) (by decide)
  refine GoesW.step st1 ?_
  show GoesW _ _ _ _ _ _ _ (T1.setTop (mkF m 4 _ []))
  refine GoesW.step (fun _ k => XS.iloadN X1.here hx rfl (hb hby d3_4) rfl  k) ?_
  refine GoesW.step (fun _ k => XS.ifNo X1.here hx rfl (hb hby d3_5) rfl ((if0 _ _).trans (teq (by decide : (0 : Int32) = (0 : Int32))).2) k) ?_
  show GoesW _ _ _ _ _ _ _ (T1.setTop (mkF m 8 _ []))
  refine GoesW.step (fun _ k => XS.aloadN X1.here hx rfl (hb hby d3_8) rfl rfl k) ?_
  rcases hCH with hI | ⟨ca, cb, ck, hL, cE, cC, cV, cA⟩
  · have XC := own_retab X1
    have hownT : T1.vm.findClass "java/lang/String" = some m.cls := (X1.warmed.wide.alike.findClass _ _).trans hown
    obtain ⟨ca, TL, hL1, kL, cb, ck, XL, eL, EL, SL, kLe, hZ, hown, cE, cC, cV, cA, -, -, -, LL, stL⟩ := ldcSVL (s := s) (vm0 := T1.vm) (Z := Z) (a0 := a0) (text := "") (Ts := []) (vs := []) (z := (0 : Int32)) XC hx (wtrans hZ X1.warmed) hownT w_18 (fun d hd => hw d ((by decide +kernel : ∀ d ∈ Bundle.stringAtoms, d ∈ tables_1) d hd)) e1 (X1.warmed.since 0) (Nat.zero_le _) (Fr.nil _) (fun b cl q => by rw [hh]; exact X00.2.2 b cl q) (own_ib hI X1.warmed) (by simp) hheld hcw ⟨by intro c hc; simp at hc, by simp⟩ (by decide) rfl (g := (mkF m 9 #[.val (.ref x0), .val (.ref x1), .val (.int (0 : Int32)), .val (.int (0 : Int32)), .val .null, .unset] [(.ref x0)])) rfl (hb hby d3_9) (n := 0) (by simp) (by decide) (by decide) (by decide)
    have XO2 : Old Z n0 hL1 := X00.ext EL
    have f3 := F_value.ext EL
    have f4 := F_coder.ext EL
    have f5 := E_x0.ext EL
    have K6 : Keep h0 hL1 [x0] := K0.ext EL
    have Z6 : n0 ≤ hL1.size := Nat.le_trans Z0 EL.1
    have neca : ca ≠ x0 := own_neNul cV f3
    have necb : cb ≠ x0 := Ne.symm (Exa.neArv f5 cA w_5)
    refine GoesW.step stL ?_
    show GoesW _ _ _ _ _ _ _ (TL.setTop (mkF m 11 #[.val (.ref x0), .val (.ref x1), .val (.int (0 : Int32)), .val (.int (0 : Int32)), .val .null, .unset] [(.ref ca), (.ref x0)]))
    obtain ⟨T7, X7, e7, st7⟩ := getF XL hx hZ hown (host := "") (Or.inl w_24) Via.refl eL cV (g := (mkF m 11 #[.val (.ref x0), .val (.ref x1), .val (.int (0 : Int32)), .val (.int (0 : Int32)), .val .null, .unset] [(.ref ca), (.ref x0)])) rfl rfl (hb hby d3_11)
    refine GoesW.step st7 ?_
    show GoesW _ _ _ _ _ _ _ (T7.setTop (mkF m 14 _ [(.ref cb), (.ref x0)]))
    obtain ⟨T8, h8, X8, e8, W8, st8⟩ := putF X7 hx hZ hown (host := "") (Or.inl w_24) Via.refl e7 f3 f5 (Or.inr ⟨w_20, rfl, hnm⟩) w_5 (ty := (.array .byte)) (by decide) rfl rfl (g := (mkF m 14 #[.val (.ref x0), .val (.ref x1), .val (.int (0 : Int32)), .val (.int (0 : Int32)), .val .null, .unset] [(.ref cb), (.ref x0)])) rfl rfl (hb hby d3_14)
    refine GoesW.step st8 ?_
    have XO9 : Old Z n0 h8 := XO2.wr W8 g_x0
    have f10 := f3.same W8
    have f11 := f4.other W8 (Or.inr (slot_ne (Or.inr w_21) (Or.inr w_20) (by decide) (t := .byte) (t' := (.array .byte)) (by decide) (by decide)))
    have f12 := f5.wr W8
    have f13 := cE.wr W8
    have f14 := cC.other W8 (Or.inl neca)
    have f15 := cV.other W8 (Or.inl neca)
    have f16 := cA.other W8 necb
    have K17 : Keep h0 h8 [x0] := K6.wr W8 (Or.inl (List.mem_of_getElem? (i := 0) rfl))
    have Z17 : n0 ≤ h8.size := by rw [Wr.size W8]; exact Z6
    have ZS17 : kL ≤ h8.size := by rw [Wr.size W8]; exact kLe
    have N17 := Fr.snoc X8 N0 g_x0
    show GoesW _ _ _ _ _ _ _ (T8.setTop (mkF m 17 _ []))
    refine GoesW.step (fun _ k => XS.aloadN X8.here hx rfl (hb hby d3_17) rfl rfl k) ?_
    refine GoesW.step (fun _ k => ldcAgain (s := s) (vm0 := TL.vm) X8 hx hZ hown w_18 LL (g := (mkF m 18 #[.val (.ref x0), .val (.ref x1), .val (.int (0 : Int32)), .val (.int (0 : Int32)), .val .null, .unset] [(.ref x0)])) rfl (hb hby d3_18) _ k) ?_
    show GoesW _ _ _ _ _ _ _ (T8.setTop (mkF m 20 _ [(.ref ca), (.ref x0)]))
    obtain ⟨T18, X18, e18, st18⟩ := getF X8 hx hZ hown (host := "") (Or.inl w_25) Via.refl e8 f14 (g := (mkF m 20 #[.val (.ref x0), .val (.ref x1), .val (.int (0 : Int32)), .val (.int (0 : Int32)), .val .null, .unset] [(.ref ca), (.ref x0)])) rfl rfl (hb hby d3_20)
    refine GoesW.step st18 ?_
    show GoesW _ _ _ _ _ _ _ (T18.setTop (mkF m 23 _ [(.int (0 : Int32)), (.ref x0)]))
    obtain ⟨T19, h19, X19, e19, W19, st19⟩ := putF X18 hx hZ hown (host := "") (Or.inl w_25) Via.refl e18 f11 f12 (Or.inr ⟨w_21, rfl, hnm⟩) w_5 (ty := .byte) (by decide) rfl rfl (g := (mkF m 23 #[.val (.ref x0), .val (.ref x1), .val (.int (0 : Int32)), .val (.int (0 : Int32)), .val .null, .unset] [(.int (0 : Int32)), (.ref x0)])) rfl rfl (hb hby d3_23)
    refine GoesW.step st19 ?_
    have XO20 : Old Z n0 h19 := XO9.wr W19 g_x0
    have f21 := f10.other W19 (Or.inr (slot_ne (Or.inr w_20) (Or.inr w_21) (by decide) (t := (.array .byte)) (t' := .byte) (by decide) (by decide)))
    have f22 := f11.same W19
    have f23 := f12.wr W19
    have f24 := f13.wr W19
    have f25 := f14.other W19 (Or.inl neca)
    have f26 := f15.other W19 (Or.inl neca)
    have f27 := f16.other W19 necb
    have K28 : Keep h0 h19 [x0] := K17.wr W19 (Or.inl (List.mem_of_getElem? (i := 0) rfl))
    have Z28 : n0 ≤ h19.size := by rw [Wr.size W19]; exact Z17
    have ZS28 : kL ≤ h19.size := by rw [Wr.size W19]; exact ZS17
    have N28 := Fr.snoc X19 N17 g_x0
    show GoesW _ _ _ _ _ _ _ (T19.setTop (mkF m 26 _ []))
    exact GoesW.retV1 X19 SL (by rw [e19]; exact ZS28) hx (BodyLoose.notSynchronized Bd) Bd.returns (hb hby d3_26) (by show Q3 Z x0 x1 h0 n0 none T19.vm T19.heap _; rw [e19]; exact ⟨rfl, N28, K28, f23, f22, cb, ck, f21, f27, Or.inr ⟨ca, cb, ck, own_litv (Lit.stays (s := s) (vm0 := TL.vm) LL X19.warmed.wide), f24, f25, f26, f27⟩⟩) (by decide) (by decide)
  · have neca : ca ≠ x0 := own_neNul cV F_value
    have necb : cb ≠ x0 := Ne.symm (Exa.neArv E_x0 cA w_5)
    refine GoesW.step (fun _ k => ldcAgain (s := s) (vm0 := s.vm) X1 hx hZ hown w_18 (own_litv hL) (g := (mkF m 9 #[.val (.ref x0), .val (.ref x1), .val (.int (0 : Int32)), .val (.int (0 : Int32)), .val .null, .unset] [(.ref x0)])) rfl (hb hby d3_9) _ k) ?_
    show GoesW _ _ _ _ _ _ _ (T1.setTop (mkF m 11 #[.val (.ref x0), .val (.ref x1), .val (.int (0 : Int32)), .val (.int (0 : Int32)), .val .null, .unset] [(.ref ca), (.ref x0)]))
    obtain ⟨T29, X29, e29, st29⟩ := getF X1 hx hZ hown (host := "") (Or.inl w_24) Via.refl e1 cV (g := (mkF m 11 #[.val (.ref x0), .val (.ref x1), .val (.int (0 : Int32)), .val (.int (0 : Int32)), .val .null, .unset] [(.ref ca), (.ref x0)])) rfl rfl (hb hby d3_11)
    refine GoesW.step st29 ?_
    show GoesW _ _ _ _ _ _ _ (T29.setTop (mkF m 14 _ [(.ref cb), (.ref x0)]))
    obtain ⟨T30, h30, X30, e30, W30, st30⟩ := putF X29 hx hZ hown (host := "") (Or.inl w_24) Via.refl e29 F_value E_x0 (Or.inr ⟨w_20, rfl, hnm⟩) w_5 (ty := (.array .byte)) (by decide) rfl rfl (g := (mkF m 14 #[.val (.ref x0), .val (.ref x1), .val (.int (0 : Int32)), .val (.int (0 : Int32)), .val .null, .unset] [(.ref cb), (.ref x0)])) rfl rfl (hb hby d3_14)
    refine GoesW.step st30 ?_
    have XO31 : Old Z n0 h30 := X00.wr W30 g_x0
    have f32 := F_value.same W30
    have f33 := F_coder.other W30 (Or.inr (slot_ne (Or.inr w_21) (Or.inr w_20) (by decide) (t := .byte) (t' := (.array .byte)) (by decide) (by decide)))
    have f34 := E_x0.wr W30
    have f35 := cE.wr W30
    have f36 := cC.other W30 (Or.inl neca)
    have f37 := cV.other W30 (Or.inl neca)
    have f38 := cA.other W30 necb
    have K39 : Keep h0 h30 [x0] := K0.wr W30 (Or.inl (List.mem_of_getElem? (i := 0) rfl))
    have Z39 : n0 ≤ h30.size := by rw [Wr.size W30]; exact Z0
    have N39 := Fr.snoc X30 N0 g_x0
    show GoesW _ _ _ _ _ _ _ (T30.setTop (mkF m 17 _ []))
    refine GoesW.step (fun _ k => XS.aloadN X30.here hx rfl (hb hby d3_17) rfl rfl k) ?_
    refine GoesW.step (fun _ k => ldcAgain (s := s) (vm0 := s.vm) X30 hx hZ hown w_18 (own_litv hL) (g := (mkF m 18 #[.val (.ref x0), .val (.ref x1), .val (.int (0 : Int32)), .val (.int (0 : Int32)), .val .null, .unset] [(.ref x0)])) rfl (hb hby d3_18) _ k) ?_
    show GoesW _ _ _ _ _ _ _ (T30.setTop (mkF m 20 _ [(.ref ca), (.ref x0)]))
    obtain ⟨T40, X40, e40, st40⟩ := getF X30 hx hZ hown (host := "") (Or.inl w_25) Via.refl e30 f36 (g := (mkF m 20 #[.val (.ref x0), .val (.ref x1), .val (.int (0 : Int32)), .val (.int (0 : Int32)), .val .null, .unset] [(.ref ca), (.ref x0)])) rfl rfl (hb hby d3_20)
    refine GoesW.step st40 ?_
    show GoesW _ _ _ _ _ _ _ (T40.setTop (mkF m 23 _ [(.int (0 : Int32)), (.ref x0)]))
    obtain ⟨T41, h41, X41, e41, W41, st41⟩ := putF X40 hx hZ hown (host := "") (Or.inl w_25) Via.refl e40 f33 f34 (Or.inr ⟨w_21, rfl, hnm⟩) w_5 (ty := .byte) (by decide) rfl rfl (g := (mkF m 23 #[.val (.ref x0), .val (.ref x1), .val (.int (0 : Int32)), .val (.int (0 : Int32)), .val .null, .unset] [(.int (0 : Int32)), (.ref x0)])) rfl rfl (hb hby d3_23)
    refine GoesW.step st41 ?_
    have XO42 : Old Z n0 h41 := XO31.wr W41 g_x0
    have f43 := f32.other W41 (Or.inr (slot_ne (Or.inr w_20) (Or.inr w_21) (by decide) (t := (.array .byte)) (t' := .byte) (by decide) (by decide)))
    have f44 := f33.same W41
    have f45 := f34.wr W41
    have f46 := f35.wr W41
    have f47 := f36.other W41 (Or.inl neca)
    have f48 := f37.other W41 (Or.inl neca)
    have f49 := f38.other W41 necb
    have K50 : Keep h0 h41 [x0] := K39.wr W41 (Or.inl (List.mem_of_getElem? (i := 0) rfl))
    have Z50 : n0 ≤ h41.size := by rw [Wr.size W41]; exact Z39
    have N50 := Fr.snoc X41 N39 g_x0
    show GoesW _ _ _ _ _ _ _ (T41.setTop (mkF m 26 _ []))
    exact GoesW.retV0 X41 hx (BodyLoose.notSynchronized Bd) Bd.returns (hb hby d3_26) (by show Q3 Z x0 x1 h0 n0 none T41.vm T41.heap _; rw [e41]; exact ⟨rfl, N50, K50, f45, f44, cb, ck, f43, f49, Or.inr ⟨ca, cb, ck, own_litv (Lit.stays (s := s) (vm0 := s.vm) (own_litv hL) X41.warmed.wide), f46, f47, f48, f49⟩⟩) (by decide) (by decide)
theorem d2_0 : decode jdk_42_method_3_code 0 = .ok (.aload_n 0, 1) := by decide +kernel
theorem d2_1 : decode jdk_42_method_3_code 1 = .ok (.aload_n 1, 1) := by decide +kernel
theorem d2_2 : decode jdk_42_method_3_code 2 = .ok (.iconst 0, 1) := by decide +kernel
theorem d2_3 : decode jdk_42_method_3_code 3 = .ok (.aload_n 1, 1) := by decide +kernel
theorem d2_4 : decode jdk_42_method_3_code 4 = .ok (.arraylength, 1) := by decide +kernel
theorem d2_5 : decode jdk_42_method_3_code 5 = .ok (.aconst_null, 1) := by decide +kernel
theorem d2_6 : decode jdk_42_method_3_code 6 = .ok (.invokespecial 27, 3) := by decide +kernel
theorem d2_9 : decode jdk_42_method_3_code 9 = .ok (.return_, 1) := by decide +kernel
theorem pn_2 : plainName "java/lang/String" = true := by first | (simp [plainName, overriddenIn]; done) | decide +kernel
theorem ef_2 (m : MethodId) (x0 : Addr) (x1 : Addr) (kc : ClassId)  : entryFrame m #[(.ref x0), (.ref x1)] 2 = mkF m 0 #[.val (.ref x0), .val (.ref x1)] [] := by first | (simp [entryFrame, mkF, argsToLocals, Value.category]; done) | rfl
theorem pd_2 : parseMethodDescriptor "([CIILjava/lang/Void;)V" = some ⟨[(.array .char), .int, .int, (.object "java/lang/Void")], none⟩ := by decide +kernel
def Q2 (Z : State) (x0 : Addr) (x1 : Addr) (kc : ClassId) (h0 : Heap) (n0 : Nat) (v : Option Value) (vm : Vm) (h : Heap) (L : List Loc) : Prop := v = none ∧ Fr n0 L ∧ Keep h0 h [x0] ∧ Exa Z h x0 "java/lang/String" ∧ Fld Z h x0 "java/lang/String" "coder" "B" (.int (0 : Int32)) ∧ ∃ (t : Addr) (kb : ClassId), Fld Z h x0 "java/lang/String" "value" "[B" (.ref t) ∧ Arv Z h t kb .byte (0 : Int32) [] (.int (0 : Int32)) ∧ own_CH Z vm h
set_option maxRecDepth 65536 in
set_option maxHeartbeats 40000000 in
theorem rm2 (l : Launch) (Z : State) (a0 : Array Value) (hw : ∀ d ∈ tables_1, d.before a0 Z = true) (ws : List Jvm.Cond) (x0 : Addr) (x1 : Addr) (kc : ClassId) (h0 : Heap) (n0 : Nat) (Z0 : n0 ≤ h0.size) (F_value : Fld Z h0 x0 "java/lang/String" "value" "[B" .null) (F_coder : Fld Z h0 x0 "java/lang/String" "coder" "B" (.int (0 : Int32))) (E_x0 : Exa Z h0 x0 "java/lang/String") (g_x0 : n0 ≤ x0) (X00 : Old Z n0 h0) (hheld : Jvm.Lit.constHeld Z "java/lang/String" 7) (hcw : Jvm.Lit.compactW.before a0 Z = true) (V_x1 : Arv Z h0 x1 kc .char (0 : Int32) [] (.int (0 : Int32))) (ne_x0_x1 : x0 ≠ x1) :
    MetFree l (⟨"java/lang/String", "<init>", "([C)V"⟩ : MethodName) (head1 (Jvm.Cond.code (⟨"java/lang/String", "<init>", "([C)V"⟩ : MethodName) jdk_42_method_3_code 2 none :: ws) ({ frames := 2, cells := 2, slots := 4, locals := 29 } : Room)) (fun a U => a = #[(.ref x0), (.ref x1)] ∧ Z.Warmed39 U.vm ∧ U.heap = h0 ∧ own_CH Z U.vm h0) (fun _ _ _ _ _ => True) (fun _ U o U' => ∃ v L, o = .returned v ∧ Q2 Z x0 x1 kc h0 n0 v U'.vm U'.heap L ∧ ReturnedEndW U o U' L ({ frames := 2, cells := 2, slots := 4, locals := 29 } : Room).cells ({ frames := 2, cells := 2, slots := 4, locals := 29 } : Room).slots) := by
  refine MetFree.of_bodySF (plainFor_of_name pn_2) hisR ?_
  intro p e s m args below meth c s₁ Bd hml0 hP hK
  obtain ⟨rfl, hZ, hh, hCH⟩ := hP
  have w_6 := hw _ (List.mem_of_getElem? (i := 6) rfl)
  have w_11 := hw _ (List.mem_of_getElem? (i := 11) rfl)
  have w_12 := hw _ (List.mem_of_getElem? (i := 12) rfl)
  have w_14 := hw _ (List.mem_of_getElem? (i := 14) rfl)
  have hx := Bd.exec
  have hby := Bd.bytes
  have hml : c.maxLocals = 2 := hml0
  have hown : s.vm.findClass "java/lang/String" = some m.cls := findClass_of_methodNamed Bd.named
  have hnm := (name_of_methodNamed Bd.named Bd.method).1
  have X0 : Stand p l e ({ frames := 2, cells := 2, slots := 4, locals := 29 } : Room) s m #[(.ref x0), (.ref x1)] below meth c s₁ [] 0 0 := Stand.of_body Bd
  have e0 : s₁.heap = h0 := by rw [← hh, Bd.state]; rfl
  have N0 := Fr.nil n0
  have K0 : Keep h0 h0 [x0] := Keep.refl h0 _
  refine (?_ : GoesW p e below s ({ frames := 2, cells := 2, slots := 4, locals := 29 } : Room).cells ({ frames := 2, cells := 2, slots := 4, locals := 29 } : Room).slots (fun v vm h L => Q2 Z x0 x1 kc h0 n0 v vm h L) (s₁.setTop (entryFrame m #[(.ref x0), (.ref x1)] 2)))
  rw [ef_2 m x0 x1 kc ]
  show GoesW _ _ _ _ _ _ _ (s₁.setTop (mkF m 0 #[.val (.ref x0), .val (.ref x1)] []))
  refine GoesW.step (fun _ k => XS.aloadN X0.here hx rfl (hb hby d2_0) rfl rfl k) ?_
  refine GoesW.step (fun _ k => XS.aloadN X0.here hx rfl (hb hby d2_1) rfl rfl k) ?_
  refine GoesW.step (fun _ k => XS.iconst X0.here hx rfl (hb hby d2_2) k) ?_
  refine GoesW.step (fun _ k => XS.aloadN X0.here hx rfl (hb hby d2_3) rfl rfl k) ?_
  show GoesW _ _ _ _ _ _ _ (s₁.setTop (mkF m 4 _ [(.ref x1), (.int (0 : Int32)), (.ref x1), (.ref x0)]))
  obtain ⟨cl1, Ar1, q1, S1, P1, H1, G1⟩ := id V_x1
  refine GoesW.step (fun _ k => X0.arraylength hx (by rw [e0]; exact Ar1.1) (State.isArrayOf_alike hZ.alike Ar1.2.1) (g := (mkF m 4 #[.val (.ref x0), .val (.ref x1)] [(.ref x1), (.int (0 : Int32)), (.ref x1), (.ref x0)])) rfl rfl (hb hby d2_4) _ k) ?_
  rw [len_of S1 P1]
  show GoesW _ _ _ _ _ _ _ (s₁.setTop (mkF m 5 _ [(.int (0 : Int32)), (.int (0 : Int32)), (.ref x1), (.ref x0)]))
  refine GoesW.step (fun _ k => XS.aconstNull X0.here hx rfl (hb hby d2_5) k) ?_
  obtain ⟨_, _, ⟨T2, L2, k2, n2⟩, -, X2, hs2, hg2, ⟨Lc2, hQ2, l2, y2, z2⟩, st2⟩ := X0.specialBackS hx (y := (⟨"java/lang/String", "<init>", "([CIILjava/lang/Void;)V"⟩ : MethodName)) rfl hown (mvT hZ w_11) (mvT hZ w_12) (mvT hZ w_14) (by decide) (own_backS (W := 0) (rm3 l Z a0 hw [] x0 x1 h0 n0 Z0 F_value F_coder E_x0 g_x0 X00 hheld hcw) hZ w_14 w_6 (by decide) (by decide)) (g := (mkF m 6 #[.val (.ref x0), .val (.ref x1)] [.null, (.int (0 : Int32)), (.int (0 : Int32)), (.ref x1), (.ref x0)])) rfl (by rw [hml]; rfl) (Steps.refl _) (a := x0) (argsL := [(.ref x1), (.int (0 : Int32)), (.int (0 : Int32)), .null]) (rest := []) (lenOf pd_2 rfl) rfl (by show 2 * 0 + _ ≤ _; exact Nat.le_of_eq rfl) (hb hby d2_6) (fun _ hWc => ⟨rfl, e0, (by decide : 0 + 2 ≤ _), (by decide : 0 + 4 ≤ _), own_CH.warm (s := s) hCH hWc⟩)
  dsimp only [Pt.U, Pt.locs, Pt.cells, Pt.slots] at X2 l2 y2 z2 st2 hQ2 hs2 hg2
  rw [l2, y2, z2] at X2
  have XX2 := X2
  have hS2 := hs2
  have hZ : Z.Warmed39 (s.setVm T2.vm).vm := State.Warmed39.trans (t := s) hZ hs2.1
  have hown : (s.setVm T2.vm).vm.findClass "java/lang/String" = some m.cls := (hs2.1.alike.findClass _ _).trans hown
  obtain ⟨rfl, N2, KK2, ex2, cd2, t2, kb2, fv2, va2, CH2⟩ := hQ2
  have NA2 := Fr.app N0 N2
  have XO3 : Old Z n0 T2.heap := X00.keep KK2 (allS g_x0 all0)
  have f6 := E_x0.keep KK2
  have f7 := V_x1.keep KK2 (ninS (Ne.symm ne_x0_x1) nin0)
  have K8 : Keep h0 T2.heap [x0] := K0.trans KK2 (allS (Or.inl (List.mem_of_getElem? (i := 0) rfl)) all0)
  have Z8 : n0 ≤ T2.heap.size := Nat.le_trans Z0 KK2.1
  refine GoesW.back st2 ?_
  show GoesW _ _ _ _ _ _ _ (T2.setTop (mkF m 9 _ []))
  exact GoesW.retV1 XX2 hS2 (Nat.le_refl _) hx (BodyLoose.notSynchronized Bd) Bd.returns (hb hby d2_9) (by show Q2 Z x0 x1 kc h0 n0 none T2.vm T2.heap _; exact ⟨rfl, NA2, K8, f6, cd2, t2, kb2, fv2, va2, CH2⟩) (by decide) (by decide)
theorem d1_0 : decode method_2_code 0 = .ok (.iload_n 0, 1) := by decide +kernel
theorem d1_1 : decode method_2_code 1 = .ok (.sipush 255, 3) := by decide +kernel
theorem d1_4 : decode method_2_code 4 = .ok (.iand, 1) := by decide +kernel
theorem d1_5 : decode method_2_code 5 = .ok (.i2c, 1) := by decide +kernel
theorem d1_6 : decode method_2_code 6 = .ok (.istore_n 2, 1) := by decide +kernel
theorem d1_7 : decode method_2_code 7 = .ok (.iload_n 0, 1) := by decide +kernel
theorem d1_8 : decode method_2_code 8 = .ok (.bipush 8, 2) := by decide +kernel
theorem d1_10 : decode method_2_code 10 = .ok (.iushr, 1) := by decide +kernel
theorem d1_11 : decode method_2_code 11 = .ok (.sipush 255, 3) := by decide +kernel
theorem d1_14 : decode method_2_code 14 = .ok (.iand, 1) := by decide +kernel
theorem d1_15 : decode method_2_code 15 = .ok (.i2c, 1) := by decide +kernel
theorem d1_16 : decode method_2_code 16 = .ok (.istore_n 3, 1) := by decide +kernel
theorem d1_17 : decode method_2_code 17 = .ok (.iload_n 0, 1) := by decide +kernel
theorem d1_18 : decode method_2_code 18 = .ok (.bipush 16, 2) := by decide +kernel
theorem d1_20 : decode method_2_code 20 = .ok (.iushr, 1) := by decide +kernel
theorem d1_21 : decode method_2_code 21 = .ok (.sipush 255, 3) := by decide +kernel
theorem d1_24 : decode method_2_code 24 = .ok (.iand, 1) := by decide +kernel
theorem d1_25 : decode method_2_code 25 = .ok (.i2c, 1) := by decide +kernel
theorem d1_26 : decode method_2_code 26 = .ok (.istore 4, 2) := by decide +kernel
theorem d1_28 : decode method_2_code 28 = .ok (.iload_n 1, 1) := by decide +kernel
theorem d1_29 : decode method_2_code 29 = .ok (.ifCond .ne 14, 3) := by decide +kernel
theorem d1_32 : decode method_2_code 32 = .ok (.new 7, 3) := by decide +kernel
theorem d1_35 : decode method_2_code 35 = .ok (.dup, 1) := by decide +kernel
theorem d1_36 : decode method_2_code 36 = .ok (.iconst 0, 1) := by decide +kernel
theorem d1_37 : decode method_2_code 37 = .ok (.newarray .char, 2) := by decide +kernel
theorem d1_39 : decode method_2_code 39 = .ok (.invokespecial 9, 3) := by decide +kernel
theorem d1_42 : decode method_2_code 42 = .ok (.areturn, 1) := by decide +kernel
theorem d1_43 : decode method_2_code 43 = .ok (.iload_n 1, 1) := by decide +kernel
theorem d1_44 : decode method_2_code 44 = .ok (.iconst 1, 1) := by decide +kernel
theorem d1_45 : decode method_2_code 45 = .ok (.if_icmp .ne 18, 3) := by decide +kernel
theorem d1_48 : decode method_2_code 48 = .ok (.new 7, 3) := by decide +kernel
theorem d1_51 : decode method_2_code 51 = .ok (.dup, 1) := by decide +kernel
theorem d1_52 : decode method_2_code 52 = .ok (.iconst 1, 1) := by decide +kernel
theorem d1_53 : decode method_2_code 53 = .ok (.newarray .char, 2) := by decide +kernel
theorem d1_55 : decode method_2_code 55 = .ok (.dup, 1) := by decide +kernel
theorem d1_56 : decode method_2_code 56 = .ok (.iconst 0, 1) := by decide +kernel
theorem d1_57 : decode method_2_code 57 = .ok (.iload_n 2, 1) := by decide +kernel
theorem d1_58 : decode method_2_code 58 = .ok (.castore, 1) := by decide +kernel
theorem d1_59 : decode method_2_code 59 = .ok (.invokespecial 9, 3) := by decide +kernel
theorem d1_62 : decode method_2_code 62 = .ok (.areturn, 1) := by decide +kernel
theorem d1_63 : decode method_2_code 63 = .ok (.iload_n 1, 1) := by decide +kernel
theorem d1_64 : decode method_2_code 64 = .ok (.iconst 2, 1) := by decide +kernel
theorem d1_65 : decode method_2_code 65 = .ok (.if_icmp .ne 22, 3) := by decide +kernel
theorem d1_68 : decode method_2_code 68 = .ok (.new 7, 3) := by decide +kernel
theorem d1_71 : decode method_2_code 71 = .ok (.dup, 1) := by decide +kernel
theorem d1_72 : decode method_2_code 72 = .ok (.iconst 2, 1) := by decide +kernel
theorem d1_73 : decode method_2_code 73 = .ok (.newarray .char, 2) := by decide +kernel
theorem d1_75 : decode method_2_code 75 = .ok (.dup, 1) := by decide +kernel
theorem d1_76 : decode method_2_code 76 = .ok (.iconst 0, 1) := by decide +kernel
theorem d1_77 : decode method_2_code 77 = .ok (.iload_n 2, 1) := by decide +kernel
theorem d1_78 : decode method_2_code 78 = .ok (.castore, 1) := by decide +kernel
theorem d1_79 : decode method_2_code 79 = .ok (.dup, 1) := by decide +kernel
theorem d1_80 : decode method_2_code 80 = .ok (.iconst 1, 1) := by decide +kernel
theorem d1_81 : decode method_2_code 81 = .ok (.iload_n 3, 1) := by decide +kernel
theorem d1_82 : decode method_2_code 82 = .ok (.castore, 1) := by decide +kernel
theorem d1_83 : decode method_2_code 83 = .ok (.invokespecial 9, 3) := by decide +kernel
theorem d1_86 : decode method_2_code 86 = .ok (.areturn, 1) := by decide +kernel
theorem d1_87 : decode method_2_code 87 = .ok (.new 7, 3) := by decide +kernel
theorem d1_90 : decode method_2_code 90 = .ok (.dup, 1) := by decide +kernel
theorem d1_91 : decode method_2_code 91 = .ok (.iconst 3, 1) := by decide +kernel
theorem d1_92 : decode method_2_code 92 = .ok (.newarray .char, 2) := by decide +kernel
theorem d1_94 : decode method_2_code 94 = .ok (.dup, 1) := by decide +kernel
theorem d1_95 : decode method_2_code 95 = .ok (.iconst 0, 1) := by decide +kernel
theorem d1_96 : decode method_2_code 96 = .ok (.iload_n 2, 1) := by decide +kernel
theorem d1_97 : decode method_2_code 97 = .ok (.castore, 1) := by decide +kernel
theorem d1_98 : decode method_2_code 98 = .ok (.dup, 1) := by decide +kernel
theorem d1_99 : decode method_2_code 99 = .ok (.iconst 1, 1) := by decide +kernel
theorem d1_100 : decode method_2_code 100 = .ok (.iload_n 3, 1) := by decide +kernel
theorem d1_101 : decode method_2_code 101 = .ok (.castore, 1) := by decide +kernel
theorem d1_102 : decode method_2_code 102 = .ok (.dup, 1) := by decide +kernel
theorem d1_103 : decode method_2_code 103 = .ok (.iconst 2, 1) := by decide +kernel
theorem d1_104 : decode method_2_code 104 = .ok (.iload 4, 2) := by decide +kernel
theorem d1_106 : decode method_2_code 106 = .ok (.castore, 1) := by decide +kernel
theorem d1_107 : decode method_2_code 107 = .ok (.invokespecial 9, 3) := by decide +kernel
theorem d1_110 : decode method_2_code 110 = .ok (.areturn, 1) := by decide +kernel
theorem pn_1 : plainName "com/example/topicd/topicd/message/TopicQueueEqualsPinLaw" = true := by first | (simp [plainName, overriddenIn]; done) | decide +kernel
theorem ef_1 (m : MethodId) (x0 : Int32) (x1 : Int32) (zC : Int32)  : entryFrame m #[(.int x0), (.int x1)] 5 = mkF m 0 #[.val (.int x0), .val (.int x1), .unset, .unset, .unset] [] := by first | (simp [entryFrame, mkF, argsToLocals, Value.category]; done) | rfl
theorem pd_1 : parseMethodDescriptor "([C)V" = some ⟨[(.array .char)], none⟩ := by decide +kernel
def Q1 (Z : State) (x0 : Int32) (x1 : Int32) (zC : Int32) (h0 : Heap) (n0 : Nat) (v : Option Value) (vm : Vm) (h : Heap) (L : List Loc) : Prop := Fr n0 L ∧ Keep h0 h [] ∧ own_CH Z vm h ∧ ∃ (r : Addr) (cs : List Int32), v = some (.ref r) ∧ n0 ≤ r ∧ h0.size ≤ r ∧ own_S Z h r cs
set_option maxRecDepth 65536 in
set_option maxHeartbeats 40000000 in
theorem rm1 (l : Launch) (Z : State) (a0 : Array Value) (hw : ∀ d ∈ tables_1, d.before a0 Z = true) (ws : List Jvm.Cond) (x0 : Int32) (x1 : Int32) (zC : Int32) (h0 : Heap) (n0 : Nat) (Z0 : n0 ≤ h0.size) (S_CS : Sta Z Z.heap "java/lang/String" "COMPACT_STRINGS" "Z" (.int zC)) (P5 : ¬ (zC = (0 : Int32))) (X00 : Old Z n0 h0) (hheld : Jvm.Lit.constHeld Z "java/lang/String" 7) (hcw : Jvm.Lit.compactW.before a0 Z = true) :
    MetFree l (⟨"com/example/topicd/topicd/message/TopicQueueEqualsPinLaw", "str", "(II)Ljava/lang/String;"⟩ : MethodName) (head1 (Jvm.Cond.code (⟨"com/example/topicd/topicd/message/TopicQueueEqualsPinLaw", "str", "(II)Ljava/lang/String;"⟩ : MethodName) method_2_code 5 (some (.object "java/lang/String")) :: ws) ({ frames := 4, cells := 4, slots := 10, locals := 66 } : Room)) (fun a U => a = #[(.int x0), (.int x1)] ∧ Z.Warmed39 U.vm ∧ U.heap = h0 ∧ own_CH Z U.vm h0) (fun _ _ _ _ _ => True) (fun _ U o U' => ∃ v L, o = .returned v ∧ Q1 Z x0 x1 zC h0 n0 v U'.vm U'.heap L ∧ ReturnedEndW U o U' L ({ frames := 4, cells := 4, slots := 10, locals := 66 } : Room).cells ({ frames := 4, cells := 4, slots := 10, locals := 66 } : Room).slots) := by
  refine MetFree.of_bodySF (plainFor_of_name pn_1) hisR ?_
  intro p e s m args below meth c s₁ Bd hml0 hP hK
  obtain ⟨rfl, hZ, hh, hCH⟩ := hP
  have w_4 := hw _ (List.mem_of_getElem? (i := 4) rfl)
  have w_5 := hw _ (List.mem_of_getElem? (i := 5) rfl)
  have w_6 := hw _ (List.mem_of_getElem? (i := 6) rfl)
  have w_7 := hw _ (List.mem_of_getElem? (i := 7) rfl)
  have w_8 := hw _ (List.mem_of_getElem? (i := 8) rfl)
  have w_9 := hw _ (List.mem_of_getElem? (i := 9) rfl)
  have w_10 := hw _ (List.mem_of_getElem? (i := 10) rfl)
  have w_20 := hw _ (List.mem_of_getElem? (i := 20) rfl)
  have w_21 := hw _ (List.mem_of_getElem? (i := 21) rfl)
  have hx := Bd.exec
  have hby := Bd.bytes
  have hml : c.maxLocals = 5 := hml0
  have hown : s.vm.findClass "com/example/topicd/topicd/message/TopicQueueEqualsPinLaw" = some m.cls := findClass_of_methodNamed Bd.named
  have hnm := (name_of_methodNamed Bd.named Bd.method).1
  have X0 : Stand p l e ({ frames := 4, cells := 4, slots := 10, locals := 66 } : Room) s m #[(.int x0), (.int x1)] below meth c s₁ [] 0 0 := Stand.of_body Bd
  have e0 : s₁.heap = h0 := by rw [← hh, Bd.state]; rfl
  have N0 := Fr.nil n0
  have K0 : Keep h0 h0 [] := Keep.refl h0 _
  refine (?_ : GoesW p e below s ({ frames := 4, cells := 4, slots := 10, locals := 66 } : Room).cells ({ frames := 4, cells := 4, slots := 10, locals := 66 } : Room).slots (fun v vm h L => Q1 Z x0 x1 zC h0 n0 v vm h L) (s₁.setTop (entryFrame m #[(.int x0), (.int x1)] 5)))
  rw [ef_1 m x0 x1 zC ]
  have hws : ∀ d ∈ StrChars.Road.words, d.before a0 Z = true := fun d hd => hw d ((by decide +kernel : ∀ d ∈ StrChars.Road.words, d ∈ tables_1) d hd)
  show GoesW _ _ _ _ _ _ _ (s₁.setTop (mkF m 0 #[.val (.int x0), .val (.int x1), .unset, .unset, .unset] []))
  refine GoesW.step (fun _ k => XS.iloadN X0.here hx rfl (hb hby d1_0) rfl  k) ?_
  refine GoesW.step (fun _ k => XS.sipush X0.here hx rfl (hb hby d1_1) k) ?_
  refine GoesW.step (fun _ k => XS.iand X0.here hx rfl (hb hby d1_4) rfl k) ?_
  show GoesW _ _ _ _ _ _ _ (s₁.setTop (mkF m 5 _ [(.int (x0 &&& (255 : Int32)))]))
  refine GoesW.step (fun _ k => XS.i2c X0.here hx rfl (hb hby d1_5) rfl k) ?_
  show GoesW _ _ _ _ _ _ _ (s₁.setTop (mkF m 6 _ [(.int ((x0 &&& (255 : Int32)).toUInt32.toUInt16.toUInt32.toInt32))]))
  refine GoesW.step (fun _ k => XS.istoreN X0.here hx rfl (hb hby d1_6) rfl (l' := #[.val (.int x0), .val (.int x1), .val (.int ((x0 &&& (255 : Int32)).toUInt32.toUInt16.toUInt32.toInt32)), .unset, .unset]) rfl k) ?_
  show GoesW _ _ _ _ _ _ _ (s₁.setTop (mkF m 7 _ []))
  refine GoesW.step (fun _ k => XS.iloadN X0.here hx rfl (hb hby d1_7) rfl  k) ?_
  refine GoesW.step (fun _ k => XS.bipush X0.here hx rfl (hb hby d1_8) k) ?_
  refine GoesW.step (fun _ k => XS.iushr X0.here hx rfl (hb hby d1_10) rfl k) ?_
  show GoesW _ _ _ _ _ _ _ (s₁.setTop (mkF m 11 _ [(.int ((x0.toUInt32 >>> ((8 : Int32) &&& 31).toUInt32).toInt32))]))
  refine GoesW.step (fun _ k => XS.sipush X0.here hx rfl (hb hby d1_11) k) ?_
  refine GoesW.step (fun _ k => XS.iand X0.here hx rfl (hb hby d1_14) rfl k) ?_
  show GoesW _ _ _ _ _ _ _ (s₁.setTop (mkF m 15 _ [(.int (((x0.toUInt32 >>> ((8 : Int32) &&& 31).toUInt32).toInt32) &&& (255 : Int32)))]))
  refine GoesW.step (fun _ k => XS.i2c X0.here hx rfl (hb hby d1_15) rfl k) ?_
  show GoesW _ _ _ _ _ _ _ (s₁.setTop (mkF m 16 _ [(.int ((((x0.toUInt32 >>> ((8 : Int32) &&& 31).toUInt32).toInt32) &&& (255 : Int32)).toUInt32.toUInt16.toUInt32.toInt32))]))
  refine GoesW.step (fun _ k => XS.istoreN X0.here hx rfl (hb hby d1_16) rfl (l' := #[.val (.int x0), .val (.int x1), .val (.int ((x0 &&& (255 : Int32)).toUInt32.toUInt16.toUInt32.toInt32)), .val (.int ((((x0.toUInt32 >>> ((8 : Int32) &&& 31).toUInt32).toInt32) &&& (255 : Int32)).toUInt32.toUInt16.toUInt32.toInt32)), .unset]) rfl k) ?_
  show GoesW _ _ _ _ _ _ _ (s₁.setTop (mkF m 17 #[.val (.int x0), .val (.int x1), .val (.int ((x0 &&& (255 : Int32)).toUInt32.toUInt16.toUInt32.toInt32)), .val (.int ((((x0.toUInt32 >>> ((8 : Int32) &&& 31).toUInt32).toInt32) &&& (255 : Int32)).toUInt32.toUInt16.toUInt32.toInt32)), .unset] []))
  refine GoesW.step (fun _ k => XS.iloadN X0.here hx rfl (hb hby d1_17) rfl  k) ?_
  refine GoesW.step (fun _ k => XS.bipush X0.here hx rfl (hb hby d1_18) k) ?_
  refine GoesW.step (fun _ k => XS.iushr X0.here hx rfl (hb hby d1_20) rfl k) ?_
  show GoesW _ _ _ _ _ _ _ (s₁.setTop (mkF m 21 _ [(.int ((x0.toUInt32 >>> ((16 : Int32) &&& 31).toUInt32).toInt32))]))
  refine GoesW.step (fun _ k => XS.sipush X0.here hx rfl (hb hby d1_21) k) ?_
  refine GoesW.step (fun _ k => XS.iand X0.here hx rfl (hb hby d1_24) rfl k) ?_
  show GoesW _ _ _ _ _ _ _ (s₁.setTop (mkF m 25 _ [(.int (((x0.toUInt32 >>> ((16 : Int32) &&& 31).toUInt32).toInt32) &&& (255 : Int32)))]))
  refine GoesW.step (fun _ k => XS.i2c X0.here hx rfl (hb hby d1_25) rfl k) ?_
  show GoesW _ _ _ _ _ _ _ (s₁.setTop (mkF m 26 _ [(.int ((((x0.toUInt32 >>> ((16 : Int32) &&& 31).toUInt32).toInt32) &&& (255 : Int32)).toUInt32.toUInt16.toUInt32.toInt32))]))
  refine GoesW.step (fun _ k => XS.istore X0.here hx rfl (hb hby d1_26) rfl (l' := #[.val (.int x0), .val (.int x1), .val (.int ((x0 &&& (255 : Int32)).toUInt32.toUInt16.toUInt32.toInt32)), .val (.int ((((x0.toUInt32 >>> ((8 : Int32) &&& 31).toUInt32).toInt32) &&& (255 : Int32)).toUInt32.toUInt16.toUInt32.toInt32)), .val (.int ((((x0.toUInt32 >>> ((16 : Int32) &&& 31).toUInt32).toInt32) &&& (255 : Int32)).toUInt32.toUInt16.toUInt32.toInt32))]) rfl k) ?_
  show GoesW _ _ _ _ _ _ _ (s₁.setTop (mkF m 28 _ []))
  refine GoesW.step (fun _ k => XS.iloadN X0.here hx rfl (hb hby d1_28) rfl  k) ?_
  by_cases c29_1 : x1 = (0 : Int32)
  · refine GoesW.step (fun _ k => XS.ifNo X0.here hx rfl (hb hby d1_29) rfl ((if0 _ _).trans (teq c29_1).2) k) ?_
    show GoesW _ _ _ _ _ _ _ (s₁.setTop (mkF m 32 _ []))
    obtain ⟨T2, h2, X2, e2, E2, A2, D2, -, st2⟩ := newO X0 hx hZ hown w_4 w_5 w_6 e0 (g := (mkF m 32 #[.val (.int x0), .val (.int x1), .val (.int ((x0 &&& (255 : Int32)).toUInt32.toUInt16.toUInt32.toInt32)), .val (.int ((((x0.toUInt32 >>> ((8 : Int32) &&& 31).toUInt32).toInt32) &&& (255 : Int32)).toUInt32.toUInt16.toUInt32.toInt32)), .val (.int ((((x0.toUInt32 >>> ((16 : Int32) &&& 31).toUInt32).toInt32) &&& (255 : Int32)).toUInt32.toUInt16.toUInt32.toInt32))] [])) rfl (hb hby d1_32) (by decide) (by decide)
    obtain ⟨b2, g2⟩ : ∃ z, z = h0.size := ⟨_, rfl⟩
    rw [← g2] at A2 D2 st2
    refine GoesW.step st2 ?_
    have g_b2 : n0 ≤ b2 := Nat.le_trans Z0 (Nat.le_of_eq g2.symm)
    have sz_b2 : h0.size ≤ b2 := Nat.le_trans K0.1 (Nat.le_of_eq g2.symm)
    have XO3 : Old Z n0 h2 := X00.ext E2
    have K4 : Keep h0 h2 [] := K0.ext E2
    have Z4 : n0 ≤ h2.size := Nat.le_trans Z0 E2.1
    have E_b2 := A2
    have F_value_b2 : Fld Z h2 b2 "java/lang/String" "value" "[B" .null := D2 (Or.inr w_20) (ty := (.array .byte)) (by decide)
    have F_coder_b2 : Fld Z h2 b2 "java/lang/String" "coder" "B" (.int (0 : Int32)) := D2 (Or.inr w_21) (ty := .byte) (by decide)
    show GoesW _ _ _ _ _ _ _ (T2.setTop (mkF m 35 _ [(.ref b2)]))
    refine GoesW.step (fun _ k => XS.dup X2.here hx rfl (hb hby d1_35) rfl rfl k) ?_
    refine GoesW.step (fun _ k => XS.iconst X2.here hx rfl (hb hby d1_36) k) ?_
    obtain ⟨T5, h5, k5, X5, e5, E5, A5, st5⟩ := newP X2 hx hZ (hw _ (List.mem_of_getElem? (i := 7) rfl)) e2 (g := (mkF m 37 #[.val (.int x0), .val (.int x1), .val (.int ((x0 &&& (255 : Int32)).toUInt32.toUInt16.toUInt32.toInt32)), .val (.int ((((x0.toUInt32 >>> ((8 : Int32) &&& 31).toUInt32).toInt32) &&& (255 : Int32)).toUInt32.toUInt16.toUInt32.toInt32)), .val (.int ((((x0.toUInt32 >>> ((16 : Int32) &&& 31).toUInt32).toInt32) &&& (255 : Int32)).toUInt32.toUInt16.toUInt32.toInt32))] [(.int (0 : Int32)), (.ref b2), (.ref b2)])) rfl (hb hby d1_37) rfl (by decide) (cap := 0) (by decide) (by decide) (by decide) (by decide)
    obtain ⟨b5, g5⟩ : ∃ z, z = h2.size := ⟨_, rfl⟩
    rw [← g5] at A5 st5
    refine GoesW.step st5 ?_
    have g_b5 : n0 ≤ b5 := Nat.le_trans Z4 (Nat.le_of_eq g5.symm)
    have sz_b5 : h0.size ≤ b5 := Nat.le_trans K4.1 (Nat.le_of_eq g5.symm)
    have ne6 : b2 ≠ b5 := Nat.ne_of_lt (Nat.lt_of_lt_of_le E_b2.lt (Nat.le_of_eq g5.symm))
    have XO7 : Old Z n0 h5 := XO3.ext E5
    have f8 := E_b2.ext E5
    have f9 := F_value_b2.ext E5
    have f10 := F_coder_b2.ext E5
    have K11 : Keep h0 h5 [] := K4.ext E5
    have Z11 : n0 ≤ h5.size := Nat.le_trans Z4 E5.1
    have V_b5 : Arv Z h5 b5 k5 .char (0 : Int32) [] (.int (0 : Int32)) := (Arv.new A5 (by decide)).pad (pad_rep [] (.int (0 : Int32)) 0)
    show GoesW _ _ _ _ _ _ _ (T5.setTop (mkF m 39 #[.val (.int x0), .val (.int x1), .val (.int ((x0 &&& (255 : Int32)).toUInt32.toUInt16.toUInt32.toInt32)), .val (.int ((((x0.toUInt32 >>> ((8 : Int32) &&& 31).toUInt32).toInt32) &&& (255 : Int32)).toUInt32.toUInt16.toUInt32.toInt32)), .val (.int ((((x0.toUInt32 >>> ((16 : Int32) &&& 31).toUInt32).toInt32) &&& (255 : Int32)).toUInt32.toUInt16.toUInt32.toInt32))] [(.ref b5), (.ref b2), (.ref b2)]))
    obtain ⟨_, _, ⟨T12, L12, k12, n12⟩, -, X12, hs12, hg12, ⟨Lc12, hQ12, l12, y12, z12⟩, st12⟩ := X5.specialBackS hx (y := (⟨"java/lang/String", "<init>", "([C)V"⟩ : MethodName)) rfl hown (mvT hZ w_8) (mvT hZ w_9) (mvT hZ w_10) (by decide) (own_backS (W := 1) (rm2 l Z a0 hw [] b2 b5 k5 h5 n0 Z11 f9 f10 f8 g_b2 XO7 hheld hcw V_b5 ne6) hZ w_10 w_6 (by decide) (by decide)) (g := (mkF m 39 #[.val (.int x0), .val (.int x1), .val (.int ((x0 &&& (255 : Int32)).toUInt32.toUInt16.toUInt32.toInt32)), .val (.int ((((x0.toUInt32 >>> ((8 : Int32) &&& 31).toUInt32).toInt32) &&& (255 : Int32)).toUInt32.toUInt16.toUInt32.toInt32)), .val (.int ((((x0.toUInt32 >>> ((16 : Int32) &&& 31).toUInt32).toInt32) &&& (255 : Int32)).toUInt32.toUInt16.toUInt32.toInt32))] [(.ref b5), (.ref b2), (.ref b2)])) rfl (by rw [hml]; rfl) (Steps.refl _) (a := b2) (argsL := [(.ref b5)]) (rest := [(.ref b2)]) (lenOf pd_1 rfl) rfl (by show 2 * 0 + _ ≤ _; exact Nat.le_of_eq rfl) (hb hby d1_39) (fun _ hWc => ⟨rfl, e5, (by decide : 2 + 2 ≤ _), (by decide : 4 + 4 ≤ _), own_CH.warm (s := s) (own_CH.keep hCH K11) hWc⟩)
    dsimp only [Pt.U, Pt.locs, Pt.cells, Pt.slots] at X12 l12 y12 z12 st12 hQ12 hs12 hg12
    rw [l12, y12, z12] at X12
    have XX12 := X12
    have hS12 := hs12
    have hZ : Z.Warmed39 (s.setVm T12.vm).vm := State.Warmed39.trans (t := s) hZ hs12.1
    have hown : (s.setVm T12.vm).vm.findClass "com/example/topicd/topicd/message/TopicQueueEqualsPinLaw" = some m.cls := (hs12.1.alike.findClass _ _).trans hown
    obtain ⟨rfl, N12, KK12, ex12, cd12, t12, kb12, fv12, va12, CH12⟩ := hQ12
    have NA12 := Fr.app N0 N12
    have XO13 : Old Z n0 T12.heap := XO7.keep KK12 (allS g_b2 all0)
    have f14 := f8.keep KK12
    have f17 := V_b5.keep KK12 (ninS (Ne.symm ne6) nin0)
    have K18 : Keep h0 T12.heap [] := K11.trans KK12 (allS (Or.inr sz_b2) all0)
    have Z18 : n0 ≤ T12.heap.size := Nat.le_trans Z11 KK12.1
    refine GoesW.back st12 ?_
    show GoesW _ _ _ _ _ _ _ (T12.setTop (mkF m 42 _ [(.ref b2)]))
    exact GoesW.ret1 XX12 hS12 (Nat.le_refl _) hx (BodyLoose.notSynchronized Bd) Bd.returns rfl (Or.inr (Or.inr (Or.inr (Or.inr ⟨rfl, rfl, rfl⟩)))) (hb hby d1_42) (by show Q1 Z x0 x1 zC h0 n0 (some (.ref b2)) T12.vm T12.heap _; exact ⟨NA12, K18, CH12, b2, [], rfl, g_b2, sz_b2, t12, kb12, _, _, f14, fv12, cd12, va12, StrChars.Road.codOf (cs := []) (n := 0) rfl (by simp), by simp, Nat.le_of_ble_eq_true rfl⟩) (by decide) (by decide)
  · refine GoesW.step (fun _ k => XS.ifYes X0.here hx rfl (pc0 := 29) (pc' := 43) rfl (hb hby d1_29) rfl ((if0 _ _).trans (feq c29_1).2) (by decide) (by decide) k) ?_
    show GoesW _ _ _ _ _ _ _ (s₁.setTop (mkF m 43 _ []))
    refine GoesW.step (fun _ k => XS.iloadN X0.here hx rfl (hb hby d1_43) rfl  k) ?_
    refine GoesW.step (fun _ k => XS.iconst X0.here hx rfl (hb hby d1_44) k) ?_
    by_cases c45_19 : x1 = (1 : Int32)
    · refine GoesW.step (fun _ k => XS.icmpNo X0.here hx rfl (hb hby d1_45) rfl (teq c45_19).2 k) ?_
      show GoesW _ _ _ _ _ _ _ (s₁.setTop (mkF m 48 _ []))
      obtain ⟨T20, h20, X20, e20, E20, A20, D20, -, st20⟩ := newO X0 hx hZ hown w_4 w_5 w_6 e0 (g := (mkF m 48 #[.val (.int x0), .val (.int x1), .val (.int ((x0 &&& (255 : Int32)).toUInt32.toUInt16.toUInt32.toInt32)), .val (.int ((((x0.toUInt32 >>> ((8 : Int32) &&& 31).toUInt32).toInt32) &&& (255 : Int32)).toUInt32.toUInt16.toUInt32.toInt32)), .val (.int ((((x0.toUInt32 >>> ((16 : Int32) &&& 31).toUInt32).toInt32) &&& (255 : Int32)).toUInt32.toUInt16.toUInt32.toInt32))] [])) rfl (hb hby d1_48) (by decide) (by decide)
      obtain ⟨b20, g20⟩ : ∃ z, z = h0.size := ⟨_, rfl⟩
      rw [← g20] at A20 D20 st20
      refine GoesW.step st20 ?_
      have g_b20 : n0 ≤ b20 := Nat.le_trans Z0 (Nat.le_of_eq g20.symm)
      have sz_b20 : h0.size ≤ b20 := Nat.le_trans K0.1 (Nat.le_of_eq g20.symm)
      have XO21 : Old Z n0 h20 := X00.ext E20
      have K22 : Keep h0 h20 [] := K0.ext E20
      have Z22 : n0 ≤ h20.size := Nat.le_trans Z0 E20.1
      have E_b20 := A20
      have F_value_b20 : Fld Z h20 b20 "java/lang/String" "value" "[B" .null := D20 (Or.inr w_20) (ty := (.array .byte)) (by decide)
      have F_coder_b20 : Fld Z h20 b20 "java/lang/String" "coder" "B" (.int (0 : Int32)) := D20 (Or.inr w_21) (ty := .byte) (by decide)
      show GoesW _ _ _ _ _ _ _ (T20.setTop (mkF m 51 #[.val (.int x0), .val (.int x1), .val (.int ((x0 &&& (255 : Int32)).toUInt32.toUInt16.toUInt32.toInt32)), .val (.int ((((x0.toUInt32 >>> ((8 : Int32) &&& 31).toUInt32).toInt32) &&& (255 : Int32)).toUInt32.toUInt16.toUInt32.toInt32)), .val (.int ((((x0.toUInt32 >>> ((16 : Int32) &&& 31).toUInt32).toInt32) &&& (255 : Int32)).toUInt32.toUInt16.toUInt32.toInt32))] [(.ref b20)]))
      refine GoesW.step (fun _ k => XS.dup X20.here hx rfl (hb hby d1_51) rfl rfl k) ?_
      refine GoesW.step (fun _ k => XS.iconst X20.here hx rfl (hb hby d1_52) k) ?_
      obtain ⟨T23, h23, k23, X23, e23, E23, A23, st23⟩ := newP X20 hx hZ (hw _ (List.mem_of_getElem? (i := 7) rfl)) e20 (g := (mkF m 53 #[.val (.int x0), .val (.int x1), .val (.int ((x0 &&& (255 : Int32)).toUInt32.toUInt16.toUInt32.toInt32)), .val (.int ((((x0.toUInt32 >>> ((8 : Int32) &&& 31).toUInt32).toInt32) &&& (255 : Int32)).toUInt32.toUInt16.toUInt32.toInt32)), .val (.int ((((x0.toUInt32 >>> ((16 : Int32) &&& 31).toUInt32).toInt32) &&& (255 : Int32)).toUInt32.toUInt16.toUInt32.toInt32))] [(.int (1 : Int32)), (.ref b20), (.ref b20)])) rfl (hb hby d1_53) rfl (by decide) (cap := 1) (by decide) (by decide) (by decide) (by decide)
      obtain ⟨b23, g23⟩ : ∃ z, z = h20.size := ⟨_, rfl⟩
      rw [← g23] at A23 st23
      refine GoesW.step st23 ?_
      have g_b23 : n0 ≤ b23 := Nat.le_trans Z22 (Nat.le_of_eq g23.symm)
      have sz_b23 : h0.size ≤ b23 := Nat.le_trans K22.1 (Nat.le_of_eq g23.symm)
      have ne24 : b20 ≠ b23 := Nat.ne_of_lt (Nat.lt_of_lt_of_le E_b20.lt (Nat.le_of_eq g23.symm))
      have XO25 : Old Z n0 h23 := XO21.ext E23
      have f26 := E_b20.ext E23
      have f27 := F_value_b20.ext E23
      have f28 := F_coder_b20.ext E23
      have K29 : Keep h0 h23 [] := K22.ext E23
      have Z29 : n0 ≤ h23.size := Nat.le_trans Z22 E23.1
      have V_b23 : Arv Z h23 b23 k23 .char (1 : Int32) [(.int (0 : Int32))] (.int (0 : Int32)) := (Arv.new A23 (by decide)).pad (pad_rep [] (.int (0 : Int32)) 1)
      show GoesW _ _ _ _ _ _ _ (T23.setTop (mkF m 55 _ [(.ref b23), (.ref b20), (.ref b20)]))
      refine GoesW.step (fun _ k => XS.dup X23.here hx rfl (hb hby d1_55) rfl rfl k) ?_
      refine GoesW.step (fun _ k => XS.iconst X23.here hx rfl (hb hby d1_56) k) ?_
      refine GoesW.step (fun _ k => XS.iloadN X23.here hx rfl (hb hby d1_57) rfl  k) ?_
      obtain ⟨cl30, Ar30, q30, S30, P30, H30, G30⟩ := id V_b23
      have hin30 : ¬ ((0 : Int32) < 0 ∨ cl30.slots.size ≤ ((0 : Int32)).toNatClampNeg) := inb_of S30 ⟨by decide, by decide⟩
      obtain ⟨T31, h31, X31, e31, W31, st31⟩ := stC X23 hx hZ e23 Ar30 (j := (0 : Int32)) hin30 (g := (mkF m 58 #[.val (.int x0), .val (.int x1), .val (.int ((x0 &&& (255 : Int32)).toUInt32.toUInt16.toUInt32.toInt32)), .val (.int ((((x0.toUInt32 >>> ((8 : Int32) &&& 31).toUInt32).toInt32) &&& (255 : Int32)).toUInt32.toUInt16.toUInt32.toInt32)), .val (.int ((((x0.toUInt32 >>> ((16 : Int32) &&& 31).toUInt32).toInt32) &&& (255 : Int32)).toUInt32.toUInt16.toUInt32.toInt32))] [(.int ((x0 &&& (255 : Int32)).toUInt32.toUInt16.toUInt32.toInt32)), (.int (0 : Int32)), (.ref b23), (.ref b23), (.ref b20), (.ref b20)])) rfl rfl (hb hby d1_58)
      refine GoesW.step st31 ?_
      have V31 := Arv.set Ar30 q30 S30 P30 H30 G30 (fits_nar_char _) W31 0 rfl (Nat.le_of_ble_eq_true rfl)
      have XO32 : Old Z n0 h31 := XO25.wr W31 g_b23
      have f33 := f26.wr W31
      have f34 := f27.other W31 (Or.inl ne24)
      have f35 := f28.other W31 (Or.inl ne24)
      have f36 := V31
      have K37 : Keep h0 h31 [] := K29.wr W31 (Or.inr sz_b23)
      have Z37 : n0 ≤ h31.size := by rw [Wr.size W31]; exact Z29
      have N37 := Fr.snoc X31 N0 g_b23
      show GoesW _ _ _ _ _ _ _ (T31.setTop (mkF m 59 _ [(.ref b23), (.ref b20), (.ref b20)]))
      have hp39 : ∀ c ∈ ([(nar .char ((x0 &&& (255 : Int32)).toUInt32.toUInt16.toUInt32.toInt32))] : List Int32), ¬ c < 0 ∧ ¬ (255 : Int32) < c := by
        intro c hc; simp only [List.mem_cons, List.not_mem_nil, or_false] at hc; rcases hc with rfl
        · exact own_and255 _
      obtain ⟨_, _, ⟨T38, L38, k38, n38⟩, -, X38, ⟨Lc38, hQ38, l38, y38, z38⟩, st38⟩ := X31.specialBack hx (y := (⟨"java/lang/String", "<init>", "([C)V"⟩ : MethodName)) rfl hown (mvT hZ w_8) (mvT hZ w_9) (mvT hZ w_10) (by decide) (StrChars.Road.backV (W := 1) hZ hws (kI := 4) w_5 (cs := ([(nar .char ((x0 &&& (255 : Int32)).toUInt32.toUInt16.toUInt32.toInt32))] : List Int32)) (bs := (([(nar .char ((x0 &&& (255 : Int32)).toUInt32.toUInt16.toUInt32.toInt32))] : List Int32)).map (fun c => c.toInt8.toInt32)) (n := 1) g_b20 Z37 f33 f34 f35 f36 (S_CS.ext XO32.2) P5 rfl rfl (by decide) (by decide) hp39 rfl (by decide) (by decide)) (g := (mkF m 59 #[.val (.int x0), .val (.int x1), .val (.int ((x0 &&& (255 : Int32)).toUInt32.toUInt16.toUInt32.toInt32)), .val (.int ((((x0.toUInt32 >>> ((8 : Int32) &&& 31).toUInt32).toInt32) &&& (255 : Int32)).toUInt32.toUInt16.toUInt32.toInt32)), .val (.int ((((x0.toUInt32 >>> ((16 : Int32) &&& 31).toUInt32).toInt32) &&& (255 : Int32)).toUInt32.toUInt16.toUInt32.toInt32))] [(.ref b23), (.ref b20), (.ref b20)])) rfl (by rw [hml]; rfl) (Steps.refl _) (a := b20) (argsL := [(.ref b23)]) (rest := [(.ref b20)]) (lenOf pd_1 rfl) rfl (by show 2 * 0 + _ ≤ _; exact Nat.le_of_eq rfl) (hb hby d1_59) (fun _ _ => ⟨rfl, e31, (by decide : 2 + 1 ≤ _), (by decide : 5 + 1 ≤ _)⟩)
      dsimp only [Pt.U, Pt.locs, Pt.cells, Pt.slots] at X38 l38 y38 z38 st38 hQ38
      rw [l38, y38, z38] at X38
      obtain ⟨rfl, N38, KK38, ex38, cd38, t38, kb38, g_t38, le38, nx38, fv38, V_t38⟩ := hQ38
      have NA38 := Fr.app N37 N38
      have ne40 : b20 ≠ t38 := Nat.ne_of_lt (Nat.lt_of_lt_of_le f33.lt le38)
      have ne41 : b23 ≠ t38 := Nat.ne_of_lt (Nat.lt_of_lt_of_le f36.lt le38)
      have sz_t38 : h0.size ≤ t38 := Nat.le_trans K37.1 le38
      have XO42 : Old Z n0 T38.heap := XO32.keep KK38 (allS g_b20 all0)
      have f43 := f33.keep KK38
      have f46 := f36.keep KK38 (ninS (Ne.symm ne24) nin0)
      have K47 : Keep h0 T38.heap [] := K37.trans KK38 (allS (Or.inr sz_b20) all0)
      have Z47 : n0 ≤ T38.heap.size := Nat.le_trans Z37 KK38.1
      refine GoesW.back st38 ?_
      show GoesW _ _ _ _ _ _ _ (T38.setTop (mkF m 62 _ [(.ref b20)]))
      exact GoesW.ret0 X38 hx (BodyLoose.notSynchronized Bd) Bd.returns rfl (Or.inr (Or.inr (Or.inr (Or.inr ⟨rfl, rfl, rfl⟩)))) (hb hby d1_62) (by show Q1 Z x0 x1 zC h0 n0 (some (.ref b20)) T38.vm T38.heap _; exact ⟨NA38, K47, own_CH.keep (own_CH.warm (s := s) hCH X38.warmed) K47, b20, ([(nar .char ((x0 &&& (255 : Int32)).toUInt32.toUInt16.toUInt32.toInt32))] : List Int32), rfl, g_b20, sz_b20, t38, kb38, _, _, f43, fv38, cd38, V_t38, StrChars.Road.codOf (cs := ([(nar .char ((x0 &&& (255 : Int32)).toUInt32.toUInt16.toUInt32.toInt32))] : List Int32)) (n := 1) rfl (fun c hc => (hp39 c hc).2), own_up hp39, Nat.le_of_ble_eq_true rfl⟩) (by decide) (by decide)
    · refine GoesW.step (fun _ k => XS.icmpYes X0.here hx rfl (pc0 := 45) (pc' := 63) rfl (hb hby d1_45) rfl (feq c45_19).2 (by decide) (by decide) k) ?_
      show GoesW _ _ _ _ _ _ _ (s₁.setTop (mkF m 63 _ []))
      refine GoesW.step (fun _ k => XS.iloadN X0.here hx rfl (hb hby d1_63) rfl  k) ?_
      refine GoesW.step (fun _ k => XS.iconst X0.here hx rfl (hb hby d1_64) k) ?_
      by_cases c65_48 : x1 = (2 : Int32)
      · refine GoesW.step (fun _ k => XS.icmpNo X0.here hx rfl (hb hby d1_65) rfl (teq c65_48).2 k) ?_
        show GoesW _ _ _ _ _ _ _ (s₁.setTop (mkF m 68 #[.val (.int x0), .val (.int x1), .val (.int ((x0 &&& (255 : Int32)).toUInt32.toUInt16.toUInt32.toInt32)), .val (.int ((((x0.toUInt32 >>> ((8 : Int32) &&& 31).toUInt32).toInt32) &&& (255 : Int32)).toUInt32.toUInt16.toUInt32.toInt32)), .val (.int ((((x0.toUInt32 >>> ((16 : Int32) &&& 31).toUInt32).toInt32) &&& (255 : Int32)).toUInt32.toUInt16.toUInt32.toInt32))] []))
        obtain ⟨T49, h49, X49, e49, E49, A49, D49, -, st49⟩ := newO X0 hx hZ hown w_4 w_5 w_6 e0 (g := (mkF m 68 #[.val (.int x0), .val (.int x1), .val (.int ((x0 &&& (255 : Int32)).toUInt32.toUInt16.toUInt32.toInt32)), .val (.int ((((x0.toUInt32 >>> ((8 : Int32) &&& 31).toUInt32).toInt32) &&& (255 : Int32)).toUInt32.toUInt16.toUInt32.toInt32)), .val (.int ((((x0.toUInt32 >>> ((16 : Int32) &&& 31).toUInt32).toInt32) &&& (255 : Int32)).toUInt32.toUInt16.toUInt32.toInt32))] [])) rfl (hb hby d1_68) (by decide) (by decide)
        obtain ⟨b49, g49⟩ : ∃ z, z = h0.size := ⟨_, rfl⟩
        rw [← g49] at A49 D49 st49
        refine GoesW.step st49 ?_
        have g_b49 : n0 ≤ b49 := Nat.le_trans Z0 (Nat.le_of_eq g49.symm)
        have sz_b49 : h0.size ≤ b49 := Nat.le_trans K0.1 (Nat.le_of_eq g49.symm)
        have XO50 : Old Z n0 h49 := X00.ext E49
        have K51 : Keep h0 h49 [] := K0.ext E49
        have Z51 : n0 ≤ h49.size := Nat.le_trans Z0 E49.1
        have E_b49 := A49
        have F_value_b49 : Fld Z h49 b49 "java/lang/String" "value" "[B" .null := D49 (Or.inr w_20) (ty := (.array .byte)) (by decide)
        have F_coder_b49 : Fld Z h49 b49 "java/lang/String" "coder" "B" (.int (0 : Int32)) := D49 (Or.inr w_21) (ty := .byte) (by decide)
        show GoesW _ _ _ _ _ _ _ (T49.setTop (mkF m 71 _ [(.ref b49)]))
        refine GoesW.step (fun _ k => XS.dup X49.here hx rfl (hb hby d1_71) rfl rfl k) ?_
        refine GoesW.step (fun _ k => XS.iconst X49.here hx rfl (hb hby d1_72) k) ?_
        obtain ⟨T52, h52, k52, X52, e52, E52, A52, st52⟩ := newP X49 hx hZ (hw _ (List.mem_of_getElem? (i := 7) rfl)) e49 (g := (mkF m 73 #[.val (.int x0), .val (.int x1), .val (.int ((x0 &&& (255 : Int32)).toUInt32.toUInt16.toUInt32.toInt32)), .val (.int ((((x0.toUInt32 >>> ((8 : Int32) &&& 31).toUInt32).toInt32) &&& (255 : Int32)).toUInt32.toUInt16.toUInt32.toInt32)), .val (.int ((((x0.toUInt32 >>> ((16 : Int32) &&& 31).toUInt32).toInt32) &&& (255 : Int32)).toUInt32.toUInt16.toUInt32.toInt32))] [(.int (2 : Int32)), (.ref b49), (.ref b49)])) rfl (hb hby d1_73) rfl (by decide) (cap := 2) (by decide) (by decide) (by decide) (by decide)
        obtain ⟨b52, g52⟩ : ∃ z, z = h49.size := ⟨_, rfl⟩
        rw [← g52] at A52 st52
        refine GoesW.step st52 ?_
        have g_b52 : n0 ≤ b52 := Nat.le_trans Z51 (Nat.le_of_eq g52.symm)
        have sz_b52 : h0.size ≤ b52 := Nat.le_trans K51.1 (Nat.le_of_eq g52.symm)
        have ne53 : b49 ≠ b52 := Nat.ne_of_lt (Nat.lt_of_lt_of_le E_b49.lt (Nat.le_of_eq g52.symm))
        have XO54 : Old Z n0 h52 := XO50.ext E52
        have f55 := E_b49.ext E52
        have f56 := F_value_b49.ext E52
        have f57 := F_coder_b49.ext E52
        have K58 : Keep h0 h52 [] := K51.ext E52
        have Z58 : n0 ≤ h52.size := Nat.le_trans Z51 E52.1
        have V_b52 : Arv Z h52 b52 k52 .char (2 : Int32) [(.int (0 : Int32)), (.int (0 : Int32))] (.int (0 : Int32)) := (Arv.new A52 (by decide)).pad (pad_rep [] (.int (0 : Int32)) 2)
        show GoesW _ _ _ _ _ _ _ (T52.setTop (mkF m 75 _ [(.ref b52), (.ref b49), (.ref b49)]))
        refine GoesW.step (fun _ k => XS.dup X52.here hx rfl (hb hby d1_75) rfl rfl k) ?_
        refine GoesW.step (fun _ k => XS.iconst X52.here hx rfl (hb hby d1_76) k) ?_
        refine GoesW.step (fun _ k => XS.iloadN X52.here hx rfl (hb hby d1_77) rfl  k) ?_
        obtain ⟨cl59, Ar59, q59, S59, P59, H59, G59⟩ := id V_b52
        have hin59 : ¬ ((0 : Int32) < 0 ∨ cl59.slots.size ≤ ((0 : Int32)).toNatClampNeg) := inb_of S59 ⟨by decide, by decide⟩
        obtain ⟨T60, h60, X60, e60, W60, st60⟩ := stC X52 hx hZ e52 Ar59 (j := (0 : Int32)) hin59 (g := (mkF m 78 #[.val (.int x0), .val (.int x1), .val (.int ((x0 &&& (255 : Int32)).toUInt32.toUInt16.toUInt32.toInt32)), .val (.int ((((x0.toUInt32 >>> ((8 : Int32) &&& 31).toUInt32).toInt32) &&& (255 : Int32)).toUInt32.toUInt16.toUInt32.toInt32)), .val (.int ((((x0.toUInt32 >>> ((16 : Int32) &&& 31).toUInt32).toInt32) &&& (255 : Int32)).toUInt32.toUInt16.toUInt32.toInt32))] [(.int ((x0 &&& (255 : Int32)).toUInt32.toUInt16.toUInt32.toInt32)), (.int (0 : Int32)), (.ref b52), (.ref b52), (.ref b49), (.ref b49)])) rfl rfl (hb hby d1_78)
        refine GoesW.step st60 ?_
        have V60 := Arv.set Ar59 q59 S59 P59 H59 G59 (fits_nar_char _) W60 0 rfl (Nat.le_of_ble_eq_true rfl)
        have XO61 : Old Z n0 h60 := XO54.wr W60 g_b52
        have f62 := f55.wr W60
        have f63 := f56.other W60 (Or.inl ne53)
        have f64 := f57.other W60 (Or.inl ne53)
        have f65 := V60
        have K66 : Keep h0 h60 [] := K58.wr W60 (Or.inr sz_b52)
        have Z66 : n0 ≤ h60.size := by rw [Wr.size W60]; exact Z58
        have N66 := Fr.snoc X60 N0 g_b52
        show GoesW _ _ _ _ _ _ _ (T60.setTop (mkF m 79 _ [(.ref b52), (.ref b49), (.ref b49)]))
        refine GoesW.step (fun _ k => XS.dup X60.here hx rfl (hb hby d1_79) rfl rfl k) ?_
        refine GoesW.step (fun _ k => XS.iconst X60.here hx rfl (hb hby d1_80) k) ?_
        refine GoesW.step (fun _ k => XS.iloadN X60.here hx rfl (hb hby d1_81) rfl  k) ?_
        obtain ⟨cl67, Ar67, q67, S67, P67, H67, G67⟩ := id f65
        have hin67 : ¬ ((1 : Int32) < 0 ∨ cl67.slots.size ≤ ((1 : Int32)).toNatClampNeg) := inb_of S67 ⟨by decide, by decide⟩
        obtain ⟨T68, h68, X68, e68, W68, st68⟩ := stC X60 hx hZ e60 Ar67 (j := (1 : Int32)) hin67 (g := (mkF m 82 #[.val (.int x0), .val (.int x1), .val (.int ((x0 &&& (255 : Int32)).toUInt32.toUInt16.toUInt32.toInt32)), .val (.int ((((x0.toUInt32 >>> ((8 : Int32) &&& 31).toUInt32).toInt32) &&& (255 : Int32)).toUInt32.toUInt16.toUInt32.toInt32)), .val (.int ((((x0.toUInt32 >>> ((16 : Int32) &&& 31).toUInt32).toInt32) &&& (255 : Int32)).toUInt32.toUInt16.toUInt32.toInt32))] [(.int ((((x0.toUInt32 >>> ((8 : Int32) &&& 31).toUInt32).toInt32) &&& (255 : Int32)).toUInt32.toUInt16.toUInt32.toInt32)), (.int (1 : Int32)), (.ref b52), (.ref b52), (.ref b49), (.ref b49)])) rfl rfl (hb hby d1_82)
        refine GoesW.step st68 ?_
        have V68 := Arv.set Ar67 q67 S67 P67 H67 G67 (fits_nar_char _) W68 1 rfl (Nat.le_of_ble_eq_true rfl)
        have XO69 : Old Z n0 h68 := XO61.wr W68 g_b52
        have f70 := f62.wr W68
        have f71 := f63.other W68 (Or.inl ne53)
        have f72 := f64.other W68 (Or.inl ne53)
        have f73 := V68
        have K74 : Keep h0 h68 [] := K66.wr W68 (Or.inr sz_b52)
        have Z74 : n0 ≤ h68.size := by rw [Wr.size W68]; exact Z66
        have N74 := Fr.snoc X68 N66 g_b52
        show GoesW _ _ _ _ _ _ _ (T68.setTop (mkF m 83 _ [(.ref b52), (.ref b49), (.ref b49)]))
        have hp76 : ∀ c ∈ ([(nar .char ((x0 &&& (255 : Int32)).toUInt32.toUInt16.toUInt32.toInt32)), (nar .char ((((x0.toUInt32 >>> ((8 : Int32) &&& 31).toUInt32).toInt32) &&& (255 : Int32)).toUInt32.toUInt16.toUInt32.toInt32))] : List Int32), ¬ c < 0 ∧ ¬ (255 : Int32) < c := by
          intro c hc; simp only [List.mem_cons, List.not_mem_nil, or_false] at hc; rcases hc with rfl | rfl
          · exact own_and255 _
          · exact own_and255 _
        obtain ⟨_, _, ⟨T75, L75, k75, n75⟩, -, X75, ⟨Lc75, hQ75, l75, y75, z75⟩, st75⟩ := X68.specialBack hx (y := (⟨"java/lang/String", "<init>", "([C)V"⟩ : MethodName)) rfl hown (mvT hZ w_8) (mvT hZ w_9) (mvT hZ w_10) (by decide) (StrChars.Road.backV (W := 1) hZ hws (kI := 4) w_5 (cs := ([(nar .char ((x0 &&& (255 : Int32)).toUInt32.toUInt16.toUInt32.toInt32)), (nar .char ((((x0.toUInt32 >>> ((8 : Int32) &&& 31).toUInt32).toInt32) &&& (255 : Int32)).toUInt32.toUInt16.toUInt32.toInt32))] : List Int32)) (bs := (([(nar .char ((x0 &&& (255 : Int32)).toUInt32.toUInt16.toUInt32.toInt32)), (nar .char ((((x0.toUInt32 >>> ((8 : Int32) &&& 31).toUInt32).toInt32) &&& (255 : Int32)).toUInt32.toUInt16.toUInt32.toInt32))] : List Int32)).map (fun c => c.toInt8.toInt32)) (n := 2) g_b49 Z74 f70 f71 f72 f73 (S_CS.ext XO69.2) P5 rfl rfl (by decide) (by decide) hp76 rfl (by decide) (by decide)) (g := (mkF m 83 #[.val (.int x0), .val (.int x1), .val (.int ((x0 &&& (255 : Int32)).toUInt32.toUInt16.toUInt32.toInt32)), .val (.int ((((x0.toUInt32 >>> ((8 : Int32) &&& 31).toUInt32).toInt32) &&& (255 : Int32)).toUInt32.toUInt16.toUInt32.toInt32)), .val (.int ((((x0.toUInt32 >>> ((16 : Int32) &&& 31).toUInt32).toInt32) &&& (255 : Int32)).toUInt32.toUInt16.toUInt32.toInt32))] [(.ref b52), (.ref b49), (.ref b49)])) rfl (by rw [hml]; rfl) (Steps.refl _) (a := b49) (argsL := [(.ref b52)]) (rest := [(.ref b49)]) (lenOf pd_1 rfl) rfl (by show 2 * 0 + _ ≤ _; exact Nat.le_of_eq rfl) (hb hby d1_83) (fun _ _ => ⟨rfl, e68, (by decide : 2 + 1 ≤ _), (by decide : 6 + 2 ≤ _)⟩)
        dsimp only [Pt.U, Pt.locs, Pt.cells, Pt.slots] at X75 l75 y75 z75 st75 hQ75
        rw [l75, y75, z75] at X75
        obtain ⟨rfl, N75, KK75, ex75, cd75, t75, kb75, g_t75, le75, nx75, fv75, V_t75⟩ := hQ75
        have NA75 := Fr.app N74 N75
        have ne77 : b49 ≠ t75 := Nat.ne_of_lt (Nat.lt_of_lt_of_le f70.lt le75)
        have ne78 : b52 ≠ t75 := Nat.ne_of_lt (Nat.lt_of_lt_of_le f73.lt le75)
        have sz_t75 : h0.size ≤ t75 := Nat.le_trans K74.1 le75
        have XO79 : Old Z n0 T75.heap := XO69.keep KK75 (allS g_b49 all0)
        have f80 := f70.keep KK75
        have f83 := f73.keep KK75 (ninS (Ne.symm ne53) nin0)
        have K84 : Keep h0 T75.heap [] := K74.trans KK75 (allS (Or.inr sz_b49) all0)
        have Z84 : n0 ≤ T75.heap.size := Nat.le_trans Z74 KK75.1
        refine GoesW.back st75 ?_
        show GoesW _ _ _ _ _ _ _ (T75.setTop (mkF m 86 _ [(.ref b49)]))
        exact GoesW.ret0 X75 hx (BodyLoose.notSynchronized Bd) Bd.returns rfl (Or.inr (Or.inr (Or.inr (Or.inr ⟨rfl, rfl, rfl⟩)))) (hb hby d1_86) (by show Q1 Z x0 x1 zC h0 n0 (some (.ref b49)) T75.vm T75.heap _; exact ⟨NA75, K84, own_CH.keep (own_CH.warm (s := s) hCH X75.warmed) K84, b49, ([(nar .char ((x0 &&& (255 : Int32)).toUInt32.toUInt16.toUInt32.toInt32)), (nar .char ((((x0.toUInt32 >>> ((8 : Int32) &&& 31).toUInt32).toInt32) &&& (255 : Int32)).toUInt32.toUInt16.toUInt32.toInt32))] : List Int32), rfl, g_b49, sz_b49, t75, kb75, _, _, f80, fv75, cd75, V_t75, StrChars.Road.codOf (cs := ([(nar .char ((x0 &&& (255 : Int32)).toUInt32.toUInt16.toUInt32.toInt32)), (nar .char ((((x0.toUInt32 >>> ((8 : Int32) &&& 31).toUInt32).toInt32) &&& (255 : Int32)).toUInt32.toUInt16.toUInt32.toInt32))] : List Int32)) (n := 2) rfl (fun c hc => (hp76 c hc).2), own_up hp76, Nat.le_of_ble_eq_true rfl⟩) (by decide) (by decide)
      · refine GoesW.step (fun _ k => XS.icmpYes X0.here hx rfl (pc0 := 65) (pc' := 87) rfl (hb hby d1_65) rfl (feq c65_48).2 (by decide) (by decide) k) ?_
        show GoesW _ _ _ _ _ _ _ (s₁.setTop (mkF m 87 #[.val (.int x0), .val (.int x1), .val (.int ((x0 &&& (255 : Int32)).toUInt32.toUInt16.toUInt32.toInt32)), .val (.int ((((x0.toUInt32 >>> ((8 : Int32) &&& 31).toUInt32).toInt32) &&& (255 : Int32)).toUInt32.toUInt16.toUInt32.toInt32)), .val (.int ((((x0.toUInt32 >>> ((16 : Int32) &&& 31).toUInt32).toInt32) &&& (255 : Int32)).toUInt32.toUInt16.toUInt32.toInt32))] []))
        obtain ⟨T85, h85, X85, e85, E85, A85, D85, -, st85⟩ := newO X0 hx hZ hown w_4 w_5 w_6 e0 (g := (mkF m 87 #[.val (.int x0), .val (.int x1), .val (.int ((x0 &&& (255 : Int32)).toUInt32.toUInt16.toUInt32.toInt32)), .val (.int ((((x0.toUInt32 >>> ((8 : Int32) &&& 31).toUInt32).toInt32) &&& (255 : Int32)).toUInt32.toUInt16.toUInt32.toInt32)), .val (.int ((((x0.toUInt32 >>> ((16 : Int32) &&& 31).toUInt32).toInt32) &&& (255 : Int32)).toUInt32.toUInt16.toUInt32.toInt32))] [])) rfl (hb hby d1_87) (by decide) (by decide)
        obtain ⟨b85, g85⟩ : ∃ z, z = h0.size := ⟨_, rfl⟩
        rw [← g85] at A85 D85 st85
        refine GoesW.step st85 ?_
        have g_b85 : n0 ≤ b85 := Nat.le_trans Z0 (Nat.le_of_eq g85.symm)
        have sz_b85 : h0.size ≤ b85 := Nat.le_trans K0.1 (Nat.le_of_eq g85.symm)
        have XO86 : Old Z n0 h85 := X00.ext E85
        have K87 : Keep h0 h85 [] := K0.ext E85
        have Z87 : n0 ≤ h85.size := Nat.le_trans Z0 E85.1
        have E_b85 := A85
        have F_value_b85 : Fld Z h85 b85 "java/lang/String" "value" "[B" .null := D85 (Or.inr w_20) (ty := (.array .byte)) (by decide)
        have F_coder_b85 : Fld Z h85 b85 "java/lang/String" "coder" "B" (.int (0 : Int32)) := D85 (Or.inr w_21) (ty := .byte) (by decide)
        show GoesW _ _ _ _ _ _ _ (T85.setTop (mkF m 90 _ [(.ref b85)]))
        refine GoesW.step (fun _ k => XS.dup X85.here hx rfl (hb hby d1_90) rfl rfl k) ?_
        refine GoesW.step (fun _ k => XS.iconst X85.here hx rfl (hb hby d1_91) k) ?_
        obtain ⟨T88, h88, k88, X88, e88, E88, A88, st88⟩ := newP X85 hx hZ (hw _ (List.mem_of_getElem? (i := 7) rfl)) e85 (g := (mkF m 92 #[.val (.int x0), .val (.int x1), .val (.int ((x0 &&& (255 : Int32)).toUInt32.toUInt16.toUInt32.toInt32)), .val (.int ((((x0.toUInt32 >>> ((8 : Int32) &&& 31).toUInt32).toInt32) &&& (255 : Int32)).toUInt32.toUInt16.toUInt32.toInt32)), .val (.int ((((x0.toUInt32 >>> ((16 : Int32) &&& 31).toUInt32).toInt32) &&& (255 : Int32)).toUInt32.toUInt16.toUInt32.toInt32))] [(.int (3 : Int32)), (.ref b85), (.ref b85)])) rfl (hb hby d1_92) rfl (by decide) (cap := 3) (by decide) (by decide) (by decide) (by decide)
        obtain ⟨b88, g88⟩ : ∃ z, z = h85.size := ⟨_, rfl⟩
        rw [← g88] at A88 st88
        refine GoesW.step st88 ?_
        have g_b88 : n0 ≤ b88 := Nat.le_trans Z87 (Nat.le_of_eq g88.symm)
        have sz_b88 : h0.size ≤ b88 := Nat.le_trans K87.1 (Nat.le_of_eq g88.symm)
        have ne89 : b85 ≠ b88 := Nat.ne_of_lt (Nat.lt_of_lt_of_le E_b85.lt (Nat.le_of_eq g88.symm))
        have XO90 : Old Z n0 h88 := XO86.ext E88
        have f91 := E_b85.ext E88
        have f92 := F_value_b85.ext E88
        have f93 := F_coder_b85.ext E88
        have K94 : Keep h0 h88 [] := K87.ext E88
        have Z94 : n0 ≤ h88.size := Nat.le_trans Z87 E88.1
        have V_b88 : Arv Z h88 b88 k88 .char (3 : Int32) [(.int (0 : Int32)), (.int (0 : Int32)), (.int (0 : Int32))] (.int (0 : Int32)) := (Arv.new A88 (by decide)).pad (pad_rep [] (.int (0 : Int32)) 3)
        show GoesW _ _ _ _ _ _ _ (T88.setTop (mkF m 94 _ [(.ref b88), (.ref b85), (.ref b85)]))
        refine GoesW.step (fun _ k => XS.dup X88.here hx rfl (hb hby d1_94) rfl rfl k) ?_
        refine GoesW.step (fun _ k => XS.iconst X88.here hx rfl (hb hby d1_95) k) ?_
        refine GoesW.step (fun _ k => XS.iloadN X88.here hx rfl (hb hby d1_96) rfl  k) ?_
        obtain ⟨cl95, Ar95, q95, S95, P95, H95, G95⟩ := id V_b88
        have hin95 : ¬ ((0 : Int32) < 0 ∨ cl95.slots.size ≤ ((0 : Int32)).toNatClampNeg) := inb_of S95 ⟨by decide, by decide⟩
        obtain ⟨T96, h96, X96, e96, W96, st96⟩ := stC X88 hx hZ e88 Ar95 (j := (0 : Int32)) hin95 (g := (mkF m 97 #[.val (.int x0), .val (.int x1), .val (.int ((x0 &&& (255 : Int32)).toUInt32.toUInt16.toUInt32.toInt32)), .val (.int ((((x0.toUInt32 >>> ((8 : Int32) &&& 31).toUInt32).toInt32) &&& (255 : Int32)).toUInt32.toUInt16.toUInt32.toInt32)), .val (.int ((((x0.toUInt32 >>> ((16 : Int32) &&& 31).toUInt32).toInt32) &&& (255 : Int32)).toUInt32.toUInt16.toUInt32.toInt32))] [(.int ((x0 &&& (255 : Int32)).toUInt32.toUInt16.toUInt32.toInt32)), (.int (0 : Int32)), (.ref b88), (.ref b88), (.ref b85), (.ref b85)])) rfl rfl (hb hby d1_97)
        refine GoesW.step st96 ?_
        have V96 := Arv.set Ar95 q95 S95 P95 H95 G95 (fits_nar_char _) W96 0 rfl (Nat.le_of_ble_eq_true rfl)
        have XO97 : Old Z n0 h96 := XO90.wr W96 g_b88
        have f98 := f91.wr W96
        have f99 := f92.other W96 (Or.inl ne89)
        have f100 := f93.other W96 (Or.inl ne89)
        have f101 := V96
        have K102 : Keep h0 h96 [] := K94.wr W96 (Or.inr sz_b88)
        have Z102 : n0 ≤ h96.size := by rw [Wr.size W96]; exact Z94
        have N102 := Fr.snoc X96 N0 g_b88
        show GoesW _ _ _ _ _ _ _ (T96.setTop (mkF m 98 _ [(.ref b88), (.ref b85), (.ref b85)]))
        refine GoesW.step (fun _ k => XS.dup X96.here hx rfl (hb hby d1_98) rfl rfl k) ?_
        refine GoesW.step (fun _ k => XS.iconst X96.here hx rfl (hb hby d1_99) k) ?_
        refine GoesW.step (fun _ k => XS.iloadN X96.here hx rfl (hb hby d1_100) rfl  k) ?_
        obtain ⟨cl103, Ar103, q103, S103, P103, H103, G103⟩ := id f101
        have hin103 : ¬ ((1 : Int32) < 0 ∨ cl103.slots.size ≤ ((1 : Int32)).toNatClampNeg) := inb_of S103 ⟨by decide, by decide⟩
        obtain ⟨T104, h104, X104, e104, W104, st104⟩ := stC X96 hx hZ e96 Ar103 (j := (1 : Int32)) hin103 (g := (mkF m 101 #[.val (.int x0), .val (.int x1), .val (.int ((x0 &&& (255 : Int32)).toUInt32.toUInt16.toUInt32.toInt32)), .val (.int ((((x0.toUInt32 >>> ((8 : Int32) &&& 31).toUInt32).toInt32) &&& (255 : Int32)).toUInt32.toUInt16.toUInt32.toInt32)), .val (.int ((((x0.toUInt32 >>> ((16 : Int32) &&& 31).toUInt32).toInt32) &&& (255 : Int32)).toUInt32.toUInt16.toUInt32.toInt32))] [(.int ((((x0.toUInt32 >>> ((8 : Int32) &&& 31).toUInt32).toInt32) &&& (255 : Int32)).toUInt32.toUInt16.toUInt32.toInt32)), (.int (1 : Int32)), (.ref b88), (.ref b88), (.ref b85), (.ref b85)])) rfl rfl (hb hby d1_101)
        refine GoesW.step st104 ?_
        have V104 := Arv.set Ar103 q103 S103 P103 H103 G103 (fits_nar_char _) W104 1 rfl (Nat.le_of_ble_eq_true rfl)
        have XO105 : Old Z n0 h104 := XO97.wr W104 g_b88
        have f106 := f98.wr W104
        have f107 := f99.other W104 (Or.inl ne89)
        have f108 := f100.other W104 (Or.inl ne89)
        have f109 := V104
        have K110 : Keep h0 h104 [] := K102.wr W104 (Or.inr sz_b88)
        have Z110 : n0 ≤ h104.size := by rw [Wr.size W104]; exact Z102
        have N110 := Fr.snoc X104 N102 g_b88
        show GoesW _ _ _ _ _ _ _ (T104.setTop (mkF m 102 _ [(.ref b88), (.ref b85), (.ref b85)]))
        refine GoesW.step (fun _ k => XS.dup X104.here hx rfl (hb hby d1_102) rfl rfl k) ?_
        refine GoesW.step (fun _ k => XS.iconst X104.here hx rfl (hb hby d1_103) k) ?_
        refine GoesW.step (fun _ k => XS.iload X104.here hx rfl (hb hby d1_104) rfl  k) ?_
        obtain ⟨cl111, Ar111, q111, S111, P111, H111, G111⟩ := id f109
        have hin111 : ¬ ((2 : Int32) < 0 ∨ cl111.slots.size ≤ ((2 : Int32)).toNatClampNeg) := inb_of S111 ⟨by decide, by decide⟩
        obtain ⟨T112, h112, X112, e112, W112, st112⟩ := stC X104 hx hZ e104 Ar111 (j := (2 : Int32)) hin111 (g := (mkF m 106 #[.val (.int x0), .val (.int x1), .val (.int ((x0 &&& (255 : Int32)).toUInt32.toUInt16.toUInt32.toInt32)), .val (.int ((((x0.toUInt32 >>> ((8 : Int32) &&& 31).toUInt32).toInt32) &&& (255 : Int32)).toUInt32.toUInt16.toUInt32.toInt32)), .val (.int ((((x0.toUInt32 >>> ((16 : Int32) &&& 31).toUInt32).toInt32) &&& (255 : Int32)).toUInt32.toUInt16.toUInt32.toInt32))] [(.int ((((x0.toUInt32 >>> ((16 : Int32) &&& 31).toUInt32).toInt32) &&& (255 : Int32)).toUInt32.toUInt16.toUInt32.toInt32)), (.int (2 : Int32)), (.ref b88), (.ref b88), (.ref b85), (.ref b85)])) rfl rfl (hb hby d1_106)
        refine GoesW.step st112 ?_
        have V112 := Arv.set Ar111 q111 S111 P111 H111 G111 (fits_nar_char _) W112 2 rfl (Nat.le_of_ble_eq_true rfl)
        have XO113 : Old Z n0 h112 := XO105.wr W112 g_b88
        have f114 := f106.wr W112
        have f115 := f107.other W112 (Or.inl ne89)
        have f116 := f108.other W112 (Or.inl ne89)
        have f117 := V112
        have K118 : Keep h0 h112 [] := K110.wr W112 (Or.inr sz_b88)
        have Z118 : n0 ≤ h112.size := by rw [Wr.size W112]; exact Z110
        have N118 := Fr.snoc X112 N110 g_b88
        show GoesW _ _ _ _ _ _ _ (T112.setTop (mkF m 107 _ [(.ref b88), (.ref b85), (.ref b85)]))
        have hp120 : ∀ c ∈ ([(nar .char ((x0 &&& (255 : Int32)).toUInt32.toUInt16.toUInt32.toInt32)), (nar .char ((((x0.toUInt32 >>> ((8 : Int32) &&& 31).toUInt32).toInt32) &&& (255 : Int32)).toUInt32.toUInt16.toUInt32.toInt32)), (nar .char ((((x0.toUInt32 >>> ((16 : Int32) &&& 31).toUInt32).toInt32) &&& (255 : Int32)).toUInt32.toUInt16.toUInt32.toInt32))] : List Int32), ¬ c < 0 ∧ ¬ (255 : Int32) < c := by
          intro c hc; simp only [List.mem_cons, List.not_mem_nil, or_false] at hc; rcases hc with rfl | rfl | rfl
          · exact own_and255 _
          · exact own_and255 _
          · exact own_and255 _
        obtain ⟨_, _, ⟨T119, L119, k119, n119⟩, -, X119, ⟨Lc119, hQ119, l119, y119, z119⟩, st119⟩ := X112.specialBack hx (y := (⟨"java/lang/String", "<init>", "([C)V"⟩ : MethodName)) rfl hown (mvT hZ w_8) (mvT hZ w_9) (mvT hZ w_10) (by decide) (StrChars.Road.backV (W := 1) hZ hws (kI := 4) w_5 (cs := ([(nar .char ((x0 &&& (255 : Int32)).toUInt32.toUInt16.toUInt32.toInt32)), (nar .char ((((x0.toUInt32 >>> ((8 : Int32) &&& 31).toUInt32).toInt32) &&& (255 : Int32)).toUInt32.toUInt16.toUInt32.toInt32)), (nar .char ((((x0.toUInt32 >>> ((16 : Int32) &&& 31).toUInt32).toInt32) &&& (255 : Int32)).toUInt32.toUInt16.toUInt32.toInt32))] : List Int32)) (bs := (([(nar .char ((x0 &&& (255 : Int32)).toUInt32.toUInt16.toUInt32.toInt32)), (nar .char ((((x0.toUInt32 >>> ((8 : Int32) &&& 31).toUInt32).toInt32) &&& (255 : Int32)).toUInt32.toUInt16.toUInt32.toInt32)), (nar .char ((((x0.toUInt32 >>> ((16 : Int32) &&& 31).toUInt32).toInt32) &&& (255 : Int32)).toUInt32.toUInt16.toUInt32.toInt32))] : List Int32)).map (fun c => c.toInt8.toInt32)) (n := 3) g_b85 Z118 f114 f115 f116 f117 (S_CS.ext XO113.2) P5 rfl rfl (by decide) (by decide) hp120 rfl (by decide) (by decide)) (g := (mkF m 107 #[.val (.int x0), .val (.int x1), .val (.int ((x0 &&& (255 : Int32)).toUInt32.toUInt16.toUInt32.toInt32)), .val (.int ((((x0.toUInt32 >>> ((8 : Int32) &&& 31).toUInt32).toInt32) &&& (255 : Int32)).toUInt32.toUInt16.toUInt32.toInt32)), .val (.int ((((x0.toUInt32 >>> ((16 : Int32) &&& 31).toUInt32).toInt32) &&& (255 : Int32)).toUInt32.toUInt16.toUInt32.toInt32))] [(.ref b88), (.ref b85), (.ref b85)])) rfl (by rw [hml]; rfl) (Steps.refl _) (a := b85) (argsL := [(.ref b88)]) (rest := [(.ref b85)]) (lenOf pd_1 rfl) rfl (by show 2 * 0 + _ ≤ _; exact Nat.le_of_eq rfl) (hb hby d1_107) (fun _ _ => ⟨rfl, e112, (by decide : 2 + 1 ≤ _), (by decide : 7 + 3 ≤ _)⟩)
        dsimp only [Pt.U, Pt.locs, Pt.cells, Pt.slots] at X119 l119 y119 z119 st119 hQ119
        rw [l119, y119, z119] at X119
        obtain ⟨rfl, N119, KK119, ex119, cd119, t119, kb119, g_t119, le119, nx119, fv119, V_t119⟩ := hQ119
        have NA119 := Fr.app N118 N119
        have ne121 : b85 ≠ t119 := Nat.ne_of_lt (Nat.lt_of_lt_of_le f114.lt le119)
        have ne122 : b88 ≠ t119 := Nat.ne_of_lt (Nat.lt_of_lt_of_le f117.lt le119)
        have sz_t119 : h0.size ≤ t119 := Nat.le_trans K118.1 le119
        have XO123 : Old Z n0 T119.heap := XO113.keep KK119 (allS g_b85 all0)
        have f124 := f114.keep KK119
        have f127 := f117.keep KK119 (ninS (Ne.symm ne89) nin0)
        have K128 : Keep h0 T119.heap [] := K118.trans KK119 (allS (Or.inr sz_b85) all0)
        have Z128 : n0 ≤ T119.heap.size := Nat.le_trans Z118 KK119.1
        refine GoesW.back st119 ?_
        show GoesW _ _ _ _ _ _ _ (T119.setTop (mkF m 110 _ [(.ref b85)]))
        exact GoesW.ret0 X119 hx (BodyLoose.notSynchronized Bd) Bd.returns rfl (Or.inr (Or.inr (Or.inr (Or.inr ⟨rfl, rfl, rfl⟩)))) (hb hby d1_110) (by show Q1 Z x0 x1 zC h0 n0 (some (.ref b85)) T119.vm T119.heap _; exact ⟨NA119, K128, own_CH.keep (own_CH.warm (s := s) hCH X119.warmed) K128, b85, ([(nar .char ((x0 &&& (255 : Int32)).toUInt32.toUInt16.toUInt32.toInt32)), (nar .char ((((x0.toUInt32 >>> ((8 : Int32) &&& 31).toUInt32).toInt32) &&& (255 : Int32)).toUInt32.toUInt16.toUInt32.toInt32)), (nar .char ((((x0.toUInt32 >>> ((16 : Int32) &&& 31).toUInt32).toInt32) &&& (255 : Int32)).toUInt32.toUInt16.toUInt32.toInt32))] : List Int32), rfl, g_b85, sz_b85, t119, kb119, _, _, f124, fv119, cd119, V_t119, StrChars.Road.codOf (cs := ([(nar .char ((x0 &&& (255 : Int32)).toUInt32.toUInt16.toUInt32.toInt32)), (nar .char ((((x0.toUInt32 >>> ((8 : Int32) &&& 31).toUInt32).toInt32) &&& (255 : Int32)).toUInt32.toUInt16.toUInt32.toInt32)), (nar .char ((((x0.toUInt32 >>> ((16 : Int32) &&& 31).toUInt32).toInt32) &&& (255 : Int32)).toUInt32.toUInt16.toUInt32.toInt32))] : List Int32)) (n := 3) rfl (fun c hc => (hp120 c hc).2), own_up hp120, Nat.le_of_ble_eq_true rfl⟩) (by decide) (by decide)
theorem d5_0 : decode prog_18_method_1_code 0 = .ok (.aload_n 0, 1) := by decide +kernel
theorem d5_1 : decode prog_18_method_1_code 1 = .ok (.invokespecial 1, 3) := by decide +kernel
theorem d5_4 : decode prog_18_method_1_code 4 = .ok (.aload_n 0, 1) := by decide +kernel
theorem d5_5 : decode prog_18_method_1_code 5 = .ok (.aload_n 1, 1) := by decide +kernel
theorem d5_6 : decode prog_18_method_1_code 6 = .ok (.putfield 7, 3) := by decide +kernel
theorem d5_9 : decode prog_18_method_1_code 9 = .ok (.aload_n 0, 1) := by decide +kernel
theorem d5_10 : decode prog_18_method_1_code 10 = .ok (.iload_n 2, 1) := by decide +kernel
theorem d5_11 : decode prog_18_method_1_code 11 = .ok (.putfield 13, 3) := by decide +kernel
theorem d5_14 : decode prog_18_method_1_code 14 = .ok (.return_, 1) := by decide +kernel
theorem pn_5 : plainName "com/example/topicd/topicd/message/TopicQueue" = true := by first | (simp [plainName, overriddenIn]; done) | decide +kernel
theorem ef_5 (m : MethodId) (x0 : Addr) (x1 : Addr) (x2 : Int32)  : entryFrame m #[(.ref x0), (.ref x1), (.int x2)] 3 = mkF m 0 #[.val (.ref x0), .val (.ref x1), .val (.int x2)] [] := by first | (simp [entryFrame, mkF, argsToLocals, Value.category]; done) | rfl
def Q5 (Z : State) (x0 : Addr) (x1 : Addr) (x2 : Int32) (h0 : Heap) (n0 : Nat) (v : Option Value) (h : Heap) (L : List Loc) : Prop := Fr n0 L ∧ Keep h0 h [x0] ∧ ((v = none ∧ Fld Z h x0 "com/example/topicd/topicd/message/TopicQueue" "topic" "Ljava/lang/String;" (.ref x1) ∧ Fld Z h x0 "com/example/topicd/topicd/message/TopicQueue" "queueId" "I" (.int x2) ∧ Exa Z h x0 "com/example/topicd/topicd/message/TopicQueue"))
set_option maxRecDepth 65536 in
set_option maxHeartbeats 40000000 in
theorem rm5 (l : Launch) (Z : State) (a0 : Array Value) (hw : ∀ d ∈ tables_1, d.before a0 Z = true) (ws : List Jvm.Cond) (x0 : Addr) (x1 : Addr) (x2 : Int32) (h0 : Heap) (n0 : Nat) (Z0 : n0 ≤ h0.size) (F0_topic : Fld Z h0 x0 "com/example/topicd/topicd/message/TopicQueue" "topic" "Ljava/lang/String;" .null) (F0_queueId : Fld Z h0 x0 "com/example/topicd/topicd/message/TopicQueue" "queueId" "I" (.int (0 : Int32))) (E_x0 : Exa Z h0 x0 "com/example/topicd/topicd/message/TopicQueue") (g_x0 : n0 ≤ x0) :
    MetFree l (⟨"com/example/topicd/topicd/message/TopicQueue", "<init>", "(Ljava/lang/String;I)V"⟩ : MethodName) (head1 (Jvm.Cond.code (⟨"com/example/topicd/topicd/message/TopicQueue", "<init>", "(Ljava/lang/String;I)V"⟩ : MethodName) prog_18_method_1_code 3 none :: ws) ({ frames := 1, cells := 0, slots := 0, locals := 12 } : Room)) (fun a U => a = #[(.ref x0), (.ref x1), (.int x2)] ∧ Z.Warmed39 U.vm ∧ U.heap = h0) (fun _ _ _ _ _ => True) (fun _ U o U' => ∃ v L, o = .returned v ∧ Q5 Z x0 x1 x2 h0 n0 v U'.heap L ∧ FrameEnd U o U' L ({ frames := 1, cells := 0, slots := 0, locals := 12 } : Room).cells ({ frames := 1, cells := 0, slots := 0, locals := 12 } : Room).slots) := by
  refine MetFree.of_bodySF (plainFor_of_name pn_5) hisR ?_
  intro p e s m args below meth c s₁ Bd hml0 hP hK
  obtain ⟨rfl, hZ, hh⟩ := hP
  have w_16 := hw _ (List.mem_of_getElem? (i := 16) rfl)
  have w_17 := hw _ (List.mem_of_getElem? (i := 17) rfl)
  have w_27 := hw _ (List.mem_of_getElem? (i := 27) rfl)
  have w_32 := hw _ (List.mem_of_getElem? (i := 32) rfl)
  have w_33 := hw _ (List.mem_of_getElem? (i := 33) rfl)
  have w_34 := hw _ (List.mem_of_getElem? (i := 34) rfl)
  have w_35 := hw _ (List.mem_of_getElem? (i := 35) rfl)
  have w_36 := hw _ (List.mem_of_getElem? (i := 36) rfl)
  have hx := Bd.exec
  have hby := Bd.bytes
  have hml : c.maxLocals = 3 := hml0
  have hown : s.vm.findClass "com/example/topicd/topicd/message/TopicQueue" = some m.cls := findClass_of_methodNamed Bd.named
  have hnm := (name_of_methodNamed Bd.named Bd.method).1
  have X0 : Stand p l e ({ frames := 1, cells := 0, slots := 0, locals := 12 } : Room) s m #[(.ref x0), (.ref x1), (.int x2)] below meth c s₁ [] 0 0 := Stand.of_body Bd
  have e0 : s₁.heap = h0 := by rw [← hh, Bd.state]; rfl
  have N0 := Fr.nil n0
  have K0 : Keep h0 h0 [x0] := Keep.refl h0 _
  refine (?_ : Goes p e below s ({ frames := 1, cells := 0, slots := 0, locals := 12 } : Room).cells ({ frames := 1, cells := 0, slots := 0, locals := 12 } : Room).slots (fun v h L => Q5 Z x0 x1 x2 h0 n0 v h L) (s₁.setTop (entryFrame m #[(.ref x0), (.ref x1), (.int x2)] 3)))
  rw [ef_5 m x0 x1 x2 ]
  show Goes _ _ _ _ _ _ _ (s₁.setTop (mkF m 0 #[.val (.ref x0), .val (.ref x1), .val (.int x2)] []))
  refine Goes.step (fun _ k => XS.aloadN X0.here hx rfl (hb hby d5_0) rfl rfl k) ?_
  obtain ⟨T1, X1, e1, st1⟩ := initO X0 hx hZ hown w_32 w_16 w_17 e0 (g := (mkF m 1 #[.val (.ref x0), .val (.ref x1), .val (.int x2)] [(.ref x0)])) rfl (by rw [hml]; rfl) rfl (hb hby d5_1) (by decide) (W := 0) (by show 2 * 0 + _ ≤ _; exact Nat.le_of_eq rfl) (by decide)
  refine Goes.step st1 ?_
  show Goes _ _ _ _ _ _ _ (T1.setTop (mkF m 4 _ []))
  refine Goes.step (fun _ k => XS.aloadN X1.here hx rfl (hb hby d5_4) rfl rfl k) ?_
  refine Goes.step (fun _ k => XS.aloadN X1.here hx rfl (hb hby d5_5) rfl rfl k) ?_
  obtain ⟨T2, h2, X2, e2, W2, st2⟩ := putF X1 hx hZ hown (host := "") (Or.inl w_33) Via.refl e1 F0_topic E_x0 (Or.inr ⟨w_34, rfl, hnm⟩) w_27 (ty := (.object "java/lang/String")) (by decide) rfl rfl (g := (mkF m 6 #[.val (.ref x0), .val (.ref x1), .val (.int x2)] [(.ref x1), (.ref x0)])) rfl rfl (hb hby d5_6)
  refine Goes.step st2 ?_
  have f3 := F0_topic.same W2
  have f4 := F0_queueId.other W2 (Or.inr (slot_ne (Or.inr w_36) (Or.inr w_34) (by decide) (t := .int) (t' := (.object "java/lang/String")) (by decide) (by decide)))
  have f5 := E_x0.wr W2
  have K6 : Keep h0 h2 [x0] := K0.wr W2 (Or.inl (List.mem_of_getElem? (i := 0) rfl))
  have Z6 : n0 ≤ h2.size := by rw [Wr.size W2]; exact Z0
  have N6 := Fr.snoc X2 N0 g_x0
  show Goes _ _ _ _ _ _ _ (T2.setTop (mkF m 9 _ []))
  refine Goes.step (fun _ k => XS.aloadN X2.here hx rfl (hb hby d5_9) rfl rfl k) ?_
  refine Goes.step (fun _ k => XS.iloadN X2.here hx rfl (hb hby d5_10) rfl  k) ?_
  obtain ⟨T7, h7, X7, e7, W7, st7⟩ := putF X2 hx hZ hown (host := "") (Or.inl w_35) Via.refl e2 f4 f5 (Or.inr ⟨w_36, rfl, hnm⟩) w_27 (ty := .int) (by decide) rfl rfl (g := (mkF m 11 #[.val (.ref x0), .val (.ref x1), .val (.int x2)] [(.int x2), (.ref x0)])) rfl rfl (hb hby d5_11)
  refine Goes.step st7 ?_
  have f8 := f3.other W7 (Or.inr (slot_ne (Or.inr w_34) (Or.inr w_36) (by decide) (t := (.object "java/lang/String")) (t' := .int) (by decide) (by decide)))
  have f9 := f4.same W7
  have f10 := f5.wr W7
  have K11 : Keep h0 h7 [x0] := K6.wr W7 (Or.inl (List.mem_of_getElem? (i := 0) rfl))
  have Z11 : n0 ≤ h7.size := by rw [Wr.size W7]; exact Z6
  have N11 := Fr.snoc X7 N6 g_x0
  show Goes _ _ _ _ _ _ _ (T7.setTop (mkF m 14 _ []))
  exact Goes.retV X7 hx (BodyLoose.notSynchronized Bd) Bd.returns (hb hby d5_14) (by show Q5 Z x0 x1 x2 h0 n0 none T7.heap _; rw [e7]; exact ⟨N11, K11, ⟨rfl, f8, f9, f10⟩⟩) (by decide) (by decide)
theorem d6_0 : decode prog_18_method_4_code 0 = .ok (.aload_n 1, 1) := by decide +kernel
theorem d6_1 : decode prog_18_method_4_code 1 = .ok (.instanceof 8, 3) := by decide +kernel
theorem d6_4 : decode prog_18_method_4_code 4 = .ok (.ifCond .eq 38, 3) := by decide +kernel
theorem d6_42 : decode prog_18_method_4_code 42 = .ok (.iconst 0, 1) := by decide +kernel
theorem d6_43 : decode prog_18_method_4_code 43 = .ok (.ireturn, 1) := by decide +kernel
theorem pn_6 : plainName "com/example/topicd/topicd/message/TopicQueue" = true := by first | (simp [plainName, overriddenIn]; done) | decide +kernel
theorem ef_6_n (m : MethodId) (x0 : Addr)  : entryFrame m #[(.ref x0), .null] 2 = mkF m 0 #[.val (.ref x0), .val .null] [] := by first | (simp [entryFrame, mkF, argsToLocals, Value.category]; done) | rfl
def Q6_n (Z : State) (x0 : Addr) (h0 : Heap) (n0 : Nat) (v : Option Value) (h : Heap) (L : List Loc) : Prop := Fr n0 L ∧ h = h0 ∧ ((v = some (.int (0 : Int32))))
set_option maxRecDepth 65536 in
set_option maxHeartbeats 40000000 in
theorem rm6_n (l : Launch) (Z : State) (a0 : Array Value) (hw : ∀ d ∈ tables_1, d.before a0 Z = true) (ws : List Jvm.Cond) (x0 : Addr) (h0 : Heap) (n0 : Nat) (Z0 : n0 ≤ h0.size) :
    MetFree l (⟨"com/example/topicd/topicd/message/TopicQueue", "equals", "(Ljava/lang/Object;)Z"⟩ : MethodName) (head1 (Jvm.Cond.code (⟨"com/example/topicd/topicd/message/TopicQueue", "equals", "(Ljava/lang/Object;)Z"⟩ : MethodName) prog_18_method_4_code 2 (some .boolean) :: ws) ({ frames := 0, cells := 0, slots := 0, locals := 0 } : Room)) (fun a U => a = #[(.ref x0), .null] ∧ Z.Warmed39 U.vm ∧ U.heap = h0) (fun _ _ _ _ _ => True) (fun _ U o U' => ∃ v L, o = .returned v ∧ Q6_n Z x0 h0 n0 v U'.heap L ∧ FrameEnd U o U' L ({ frames := 0, cells := 0, slots := 0, locals := 0 } : Room).cells ({ frames := 0, cells := 0, slots := 0, locals := 0 } : Room).slots) := by
  refine MetFree.of_bodySF (plainFor_of_name pn_6) hisR ?_
  intro p e s m args below meth c s₁ Bd hml0 hP hK
  obtain ⟨rfl, hZ, hh⟩ := hP
  have hx := Bd.exec
  have hby := Bd.bytes
  have hml : c.maxLocals = 2 := hml0
  have hown : s.vm.findClass "com/example/topicd/topicd/message/TopicQueue" = some m.cls := findClass_of_methodNamed Bd.named
  have hnm := (name_of_methodNamed Bd.named Bd.method).1
  have X0 : Stand p l e ({ frames := 0, cells := 0, slots := 0, locals := 0 } : Room) s m #[(.ref x0), .null] below meth c s₁ [] 0 0 := Stand.of_body Bd
  have e0 : s₁.heap = h0 := by rw [← hh, Bd.state]; rfl
  have N0 := Fr.nil n0
  have K0 : Keep h0 h0 [] := Keep.refl h0 _
  refine (?_ : Goes p e below s ({ frames := 0, cells := 0, slots := 0, locals := 0 } : Room).cells ({ frames := 0, cells := 0, slots := 0, locals := 0 } : Room).slots (fun v h L => Q6_n Z x0 h0 n0 v h L) (s₁.setTop (entryFrame m #[(.ref x0), .null] 2)))
  rw [ef_6_n m x0 ]
  show Goes _ _ _ _ _ _ _ (s₁.setTop (mkF m 0 #[.val (.ref x0), .val .null] []))
  refine Goes.step (fun _ k => XS.aloadN X0.here hx rfl (hb hby d6_0) rfl rfl k) ?_
  refine Goes.step (fun _ k => X0.instanceofNull hx (g := (mkF m 1 #[.val (.ref x0), .val .null] [.null])) rfl rfl (hb hby d6_1) _ k) ?_
  show Goes _ _ _ _ _ _ _ (s₁.setTop (mkF m 4 _ [(.int (0 : Int32))]))
  refine Goes.step (fun _ k => XS.ifYes X0.here hx rfl (pc0 := 4) (pc' := 42) rfl (hb hby d6_4) rfl ((if0 _ _).trans (teq (by decide : (0 : Int32) = (0 : Int32))).1) (by decide) (by decide) k) ?_
  show Goes _ _ _ _ _ _ _ (s₁.setTop (mkF m 42 _ []))
  refine Goes.step (fun _ k => XS.iconst X0.here hx rfl (hb hby d6_42) k) ?_
  exact Goes.ret X0 hx (BodyLoose.notSynchronized Bd) Bd.returns rfl (Or.inl ⟨rfl, by simp, _, rfl⟩) (hb hby d6_43) (by show Q6_n Z x0 h0 n0 (some (.int (0 : Int32))) s₁.heap _; rw [e0]; exact ⟨N0, rfl, rfl⟩) (by decide) (by decide)
theorem ef_6_s (m : MethodId) (x0 : Addr) (x1 : Addr)  : entryFrame m #[(.ref x0), (.ref x1)] 2 = mkF m 0 #[.val (.ref x0), .val (.ref x1)] [] := by first | (simp [entryFrame, mkF, argsToLocals, Value.category]; done) | rfl
def Q6_s (Z : State) (x0 : Addr) (x1 : Addr) (h0 : Heap) (n0 : Nat) (v : Option Value) (h : Heap) (L : List Loc) : Prop := Fr n0 L ∧ h = h0 ∧ ((v = some (.int (0 : Int32))))
set_option maxRecDepth 65536 in
set_option maxHeartbeats 40000000 in
theorem rm6_s (l : Launch) (Z : State) (a0 : Array Value) (hw : ∀ d ∈ tables_1, d.before a0 Z = true) (ws : List Jvm.Cond) (x0 : Addr) (x1 : Addr) (h0 : Heap) (n0 : Nat) (Z0 : n0 ≤ h0.size) (E_x1 : Exa Z h0 x1 "java/lang/String") :
    MetFree l (⟨"com/example/topicd/topicd/message/TopicQueue", "equals", "(Ljava/lang/Object;)Z"⟩ : MethodName) (head1 (Jvm.Cond.code (⟨"com/example/topicd/topicd/message/TopicQueue", "equals", "(Ljava/lang/Object;)Z"⟩ : MethodName) prog_18_method_4_code 2 (some .boolean) :: ws) ({ frames := 0, cells := 0, slots := 0, locals := 0 } : Room)) (fun a U => a = #[(.ref x0), (.ref x1)] ∧ Z.Warmed39 U.vm ∧ U.heap = h0) (fun _ _ _ _ _ => True) (fun _ U o U' => ∃ v L, o = .returned v ∧ Q6_s Z x0 x1 h0 n0 v U'.heap L ∧ FrameEnd U o U' L ({ frames := 0, cells := 0, slots := 0, locals := 0 } : Room).cells ({ frames := 0, cells := 0, slots := 0, locals := 0 } : Room).slots) := by
  refine MetFree.of_bodySF (plainFor_of_name pn_6) hisR ?_
  intro p e s m args below meth c s₁ Bd hml0 hP hK
  obtain ⟨rfl, hZ, hh⟩ := hP
  have w_27 := hw _ (List.mem_of_getElem? (i := 27) rfl)
  have w_42 := hw _ (List.mem_of_getElem? (i := 42) rfl)
  have w_87 := hw _ (List.mem_of_getElem? (i := 87) rfl)
  have w_91 := hw _ (List.mem_of_getElem? (i := 91) rfl)
  have hx := Bd.exec
  have hby := Bd.bytes
  have hml : c.maxLocals = 2 := hml0
  have hown : s.vm.findClass "com/example/topicd/topicd/message/TopicQueue" = some m.cls := findClass_of_methodNamed Bd.named
  have hnm := (name_of_methodNamed Bd.named Bd.method).1
  have X0 : Stand p l e ({ frames := 0, cells := 0, slots := 0, locals := 0 } : Room) s m #[(.ref x0), (.ref x1)] below meth c s₁ [] 0 0 := Stand.of_body Bd
  have e0 : s₁.heap = h0 := by rw [← hh, Bd.state]; rfl
  have N0 := Fr.nil n0
  have K0 : Keep h0 h0 [] := Keep.refl h0 _
  refine (?_ : Goes p e below s ({ frames := 0, cells := 0, slots := 0, locals := 0 } : Room).cells ({ frames := 0, cells := 0, slots := 0, locals := 0 } : Room).slots (fun v h L => Q6_s Z x0 x1 h0 n0 v h L) (s₁.setTop (entryFrame m #[(.ref x0), (.ref x1)] 2)))
  rw [ef_6_s m x0 x1 ]
  show Goes _ _ _ _ _ _ _ (s₁.setTop (mkF m 0 #[.val (.ref x0), .val (.ref x1)] []))
  refine Goes.step (fun _ k => XS.aloadN X0.here hx rfl (hb hby d6_0) rfl rfl k) ?_
  obtain ⟨T1, X1, e1, st1⟩ := instNo X0 hx hZ hown w_42 e0 E_x1 (own_nsNo w_91 w_27 (NS.step w_91 (own_nsRoot w_87 w_27 (by decide)) (by decide)) (by decide)) (g := (mkF m 1 #[.val (.ref x0), .val (.ref x1)] [(.ref x1)])) rfl rfl (hb hby d6_1)
  refine Goes.step st1 ?_
  show Goes _ _ _ _ _ _ _ (T1.setTop (mkF m 4 _ [(.int (0 : Int32))]))
  refine Goes.step (fun _ k => XS.ifYes X1.here hx rfl (pc0 := 4) (pc' := 42) rfl (hb hby d6_4) rfl ((if0 _ _).trans (teq (by decide : (0 : Int32) = (0 : Int32))).1) (by decide) (by decide) k) ?_
  show Goes _ _ _ _ _ _ _ (T1.setTop (mkF m 42 _ []))
  refine Goes.step (fun _ k => XS.iconst X1.here hx rfl (hb hby d6_42) k) ?_
  exact Goes.ret X1 hx (BodyLoose.notSynchronized Bd) Bd.returns rfl (Or.inl ⟨rfl, by simp, _, rfl⟩) (hb hby d6_43) (by show Q6_s Z x0 x1 h0 n0 (some (.int (0 : Int32))) T1.heap _; rw [e1]; exact ⟨N0, rfl, rfl⟩) (by decide) (by decide)
theorem ef_6_i (m : MethodId) (x0 : Addr) (x1 : Addr)  : entryFrame m #[(.ref x0), (.ref x1)] 2 = mkF m 0 #[.val (.ref x0), .val (.ref x1)] [] := by first | (simp [entryFrame, mkF, argsToLocals, Value.category]; done) | rfl
def Q6_i (Z : State) (x0 : Addr) (x1 : Addr) (h0 : Heap) (n0 : Nat) (v : Option Value) (h : Heap) (L : List Loc) : Prop := Fr n0 L ∧ h = h0 ∧ ((v = some (.int (0 : Int32))))
set_option maxRecDepth 65536 in
set_option maxHeartbeats 40000000 in
theorem rm6_i (l : Launch) (Z : State) (a0 : Array Value) (hw : ∀ d ∈ tables_1, d.before a0 Z = true) (ws : List Jvm.Cond) (x0 : Addr) (x1 : Addr) (h0 : Heap) (n0 : Nat) (Z0 : n0 ≤ h0.size) (E_x1 : Exa Z h0 x1 "java/lang/Integer") :
    MetFree l (⟨"com/example/topicd/topicd/message/TopicQueue", "equals", "(Ljava/lang/Object;)Z"⟩ : MethodName) (head1 (Jvm.Cond.code (⟨"com/example/topicd/topicd/message/TopicQueue", "equals", "(Ljava/lang/Object;)Z"⟩ : MethodName) prog_18_method_4_code 2 (some .boolean) :: ws) ({ frames := 0, cells := 0, slots := 0, locals := 0 } : Room)) (fun a U => a = #[(.ref x0), (.ref x1)] ∧ Z.Warmed39 U.vm ∧ U.heap = h0) (fun _ _ _ _ _ => True) (fun _ U o U' => ∃ v L, o = .returned v ∧ Q6_i Z x0 x1 h0 n0 v U'.heap L ∧ FrameEnd U o U' L ({ frames := 0, cells := 0, slots := 0, locals := 0 } : Room).cells ({ frames := 0, cells := 0, slots := 0, locals := 0 } : Room).slots) := by
  refine MetFree.of_bodySF (plainFor_of_name pn_6) hisR ?_
  intro p e s m args below meth c s₁ Bd hml0 hP hK
  obtain ⟨rfl, hZ, hh⟩ := hP
  have w_27 := hw _ (List.mem_of_getElem? (i := 27) rfl)
  have w_42 := hw _ (List.mem_of_getElem? (i := 42) rfl)
  have w_85 := hw _ (List.mem_of_getElem? (i := 85) rfl)
  have w_86 := hw _ (List.mem_of_getElem? (i := 86) rfl)
  have w_87 := hw _ (List.mem_of_getElem? (i := 87) rfl)
  have hx := Bd.exec
  have hby := Bd.bytes
  have hml : c.maxLocals = 2 := hml0
  have hown : s.vm.findClass "com/example/topicd/topicd/message/TopicQueue" = some m.cls := findClass_of_methodNamed Bd.named
  have hnm := (name_of_methodNamed Bd.named Bd.method).1
  have X0 : Stand p l e ({ frames := 0, cells := 0, slots := 0, locals := 0 } : Room) s m #[(.ref x0), (.ref x1)] below meth c s₁ [] 0 0 := Stand.of_body Bd
  have e0 : s₁.heap = h0 := by rw [← hh, Bd.state]; rfl
  have N0 := Fr.nil n0
  have K0 : Keep h0 h0 [] := Keep.refl h0 _
  refine (?_ : Goes p e below s ({ frames := 0, cells := 0, slots := 0, locals := 0 } : Room).cells ({ frames := 0, cells := 0, slots := 0, locals := 0 } : Room).slots (fun v h L => Q6_i Z x0 x1 h0 n0 v h L) (s₁.setTop (entryFrame m #[(.ref x0), (.ref x1)] 2)))
  rw [ef_6_i m x0 x1 ]
  show Goes _ _ _ _ _ _ _ (s₁.setTop (mkF m 0 #[.val (.ref x0), .val (.ref x1)] []))
  refine Goes.step (fun _ k => XS.aloadN X0.here hx rfl (hb hby d6_0) rfl rfl k) ?_
  obtain ⟨T1, X1, e1, st1⟩ := instNo X0 hx hZ hown w_42 e0 E_x1 (own_nsNo w_85 w_27 (NS.step w_85 (NS.step w_86 (own_nsRoot w_87 w_27 (by decide)) (by decide)) (by decide)) (by decide)) (g := (mkF m 1 #[.val (.ref x0), .val (.ref x1)] [(.ref x1)])) rfl rfl (hb hby d6_1)
  refine Goes.step st1 ?_
  show Goes _ _ _ _ _ _ _ (T1.setTop (mkF m 4 _ [(.int (0 : Int32))]))
  refine Goes.step (fun _ k => XS.ifYes X1.here hx rfl (pc0 := 4) (pc' := 42) rfl (hb hby d6_4) rfl ((if0 _ _).trans (teq (by decide : (0 : Int32) = (0 : Int32))).1) (by decide) (by decide) k) ?_
  show Goes _ _ _ _ _ _ _ (T1.setTop (mkF m 42 _ []))
  refine Goes.step (fun _ k => XS.iconst X1.here hx rfl (hb hby d6_42) k) ?_
  exact Goes.ret X1 hx (BodyLoose.notSynchronized Bd) Bd.returns rfl (Or.inl ⟨rfl, by simp, _, rfl⟩) (hb hby d6_43) (by show Q6_i Z x0 x1 h0 n0 (some (.int (0 : Int32))) T1.heap _; rw [e1]; exact ⟨N0, rfl, rfl⟩) (by decide) (by decide)
theorem d6_7 : decode prog_18_method_4_code 7 = .ok (.aload_n 1, 1) := by decide +kernel
theorem d6_8 : decode prog_18_method_4_code 8 = .ok (.checkcast 8, 3) := by decide +kernel
theorem d6_11 : decode prog_18_method_4_code 11 = .ok (.getfield 13, 3) := by decide +kernel
theorem d6_14 : decode prog_18_method_4_code 14 = .ok (.aload_n 0, 1) := by decide +kernel
theorem d6_15 : decode prog_18_method_4_code 15 = .ok (.getfield 13, 3) := by decide +kernel
theorem d6_18 : decode prog_18_method_4_code 18 = .ok (.if_icmp .ne 24, 3) := by decide +kernel
theorem d6_21 : decode prog_18_method_4_code 21 = .ok (.aload_n 1, 1) := by decide +kernel
theorem d6_22 : decode prog_18_method_4_code 22 = .ok (.checkcast 8, 3) := by decide +kernel
theorem d6_25 : decode prog_18_method_4_code 25 = .ok (.getfield 7, 3) := by decide +kernel
theorem d6_28 : decode prog_18_method_4_code 28 = .ok (.aload_n 0, 1) := by decide +kernel
theorem d6_29 : decode prog_18_method_4_code 29 = .ok (.getfield 7, 3) := by decide +kernel
theorem d6_32 : decode prog_18_method_4_code 32 = .ok (.invokevirtual 17, 3) := by decide +kernel
theorem d6_35 : decode prog_18_method_4_code 35 = .ok (.ifCond .eq 7, 3) := by decide +kernel
theorem d6_38 : decode prog_18_method_4_code 38 = .ok (.iconst 1, 1) := by decide +kernel
theorem d6_39 : decode prog_18_method_4_code 39 = .ok (.goto 4, 3) := by decide +kernel
theorem ef_6_b (m : MethodId) (x0 : Addr) (x1 : Addr) (s0 : Addr) (s1 : Addr) (q0 : Int32) (q1 : Int32) (cs : List Int32) (ds : List Int32) (zC : Int32)  : entryFrame m #[(.ref x0), (.ref x1)] 2 = mkF m 0 #[.val (.ref x0), .val (.ref x1)] [] := by first | (simp [entryFrame, mkF, argsToLocals, Value.category]; done) | rfl
theorem pd_5 : parseMethodDescriptor "(Ljava/lang/Object;)Z" = some ⟨[(.object "java/lang/Object")], some .boolean⟩ := by decide +kernel
def Q6_b (Z : State) (x0 : Addr) (x1 : Addr) (s0 : Addr) (s1 : Addr) (q0 : Int32) (q1 : Int32) (cs : List Int32) (ds : List Int32) (zC : Int32) (h0 : Heap) (n0 : Nat) (v : Option Value) (h : Heap) (L : List Loc) : Prop := Fr n0 L ∧ h = h0 ∧ ((v = some (.int (1 : Int32)) ∧ q1 = q0 ∧ ds = cs) ∨ (v = some (.int (0 : Int32)) ∧ ¬ (q1 = q0 ∧ ds = cs)))
set_option maxRecDepth 65536 in
set_option maxHeartbeats 40000000 in
theorem rm6_b (l : Launch) (Z : State) (a0 : Array Value) (hw : ∀ d ∈ tables_1, d.before a0 Z = true) (ws : List Jvm.Cond) (x0 : Addr) (x1 : Addr) (s0 : Addr) (s1 : Addr) (q0 : Int32) (q1 : Int32) (cs : List Int32) (ds : List Int32) (zC : Int32) (h0 : Heap) (n0 : Nat) (Z0 : n0 ≤ h0.size) (F0_topic : Fld Z h0 x0 "com/example/topicd/topicd/message/TopicQueue" "topic" "Ljava/lang/String;" (.ref s0)) (F0_queueId : Fld Z h0 x0 "com/example/topicd/topicd/message/TopicQueue" "queueId" "I" (.int q0)) (F1_topic : Fld Z h0 x1 "com/example/topicd/topicd/message/TopicQueue" "topic" "Ljava/lang/String;" (.ref s1)) (F1_queueId : Fld Z h0 x1 "com/example/topicd/topicd/message/TopicQueue" "queueId" "I" (.int q1)) (E_x1 : Exa Z h0 x1 "com/example/topicd/topicd/message/TopicQueue") (S0 : own_S Z h0 s0 cs) (S1 : own_S Z h0 s1 ds) (S_CS : Sta Z Z.heap "java/lang/String" "COMPACT_STRINGS" "Z" (.int zC)) (P5 : ¬ (zC = (0 : Int32))) (X00 : Old Z n0 h0) :
    MetFree l (⟨"com/example/topicd/topicd/message/TopicQueue", "equals", "(Ljava/lang/Object;)Z"⟩ : MethodName) (head1 (Jvm.Cond.code (⟨"com/example/topicd/topicd/message/TopicQueue", "equals", "(Ljava/lang/Object;)Z"⟩ : MethodName) prog_18_method_4_code 2 (some .boolean) :: ws) ({ frames := 2, cells := 0, slots := 0, locals := 28 } : Room)) (fun a U => a = #[(.ref x0), (.ref x1)] ∧ Z.Warmed39 U.vm ∧ U.heap = h0) (fun _ _ _ _ _ => True) (fun _ U o U' => ∃ v L, o = .returned v ∧ Q6_b Z x0 x1 s0 s1 q0 q1 cs ds zC h0 n0 v U'.heap L ∧ FrameEnd U o U' L ({ frames := 2, cells := 0, slots := 0, locals := 28 } : Room).cells ({ frames := 2, cells := 0, slots := 0, locals := 28 } : Room).slots) := by
  refine MetFree.of_bodySF (plainFor_of_name pn_6) hisR ?_
  intro p e s m args below meth c s₁ Bd hml0 hP hK
  obtain ⟨rfl, hZ, hh⟩ := hP
  have w_5 := hw _ (List.mem_of_getElem? (i := 5) rfl)
  have w_33 := hw _ (List.mem_of_getElem? (i := 33) rfl)
  have w_35 := hw _ (List.mem_of_getElem? (i := 35) rfl)
  have w_42 := hw _ (List.mem_of_getElem? (i := 42) rfl)
  have w_44 := hw _ (List.mem_of_getElem? (i := 44) rfl)
  have w_45 := hw _ (List.mem_of_getElem? (i := 45) rfl)
  have w_46 := hw _ (List.mem_of_getElem? (i := 46) rfl)
  have w_47 := hw _ (List.mem_of_getElem? (i := 47) rfl)
  have hx := Bd.exec
  have hby := Bd.bytes
  have hml : c.maxLocals = 2 := hml0
  have hown : s.vm.findClass "com/example/topicd/topicd/message/TopicQueue" = some m.cls := findClass_of_methodNamed Bd.named
  have hnm := (name_of_methodNamed Bd.named Bd.method).1
  have X0 : Stand p l e ({ frames := 2, cells := 0, slots := 0, locals := 28 } : Room) s m #[(.ref x0), (.ref x1)] below meth c s₁ [] 0 0 := Stand.of_body Bd
  have e0 : s₁.heap = h0 := by rw [← hh, Bd.state]; rfl
  have N0 := Fr.nil n0
  have K0 : Keep h0 h0 [] := Keep.refl h0 _
  refine (?_ : Goes p e below s ({ frames := 2, cells := 0, slots := 0, locals := 28 } : Room).cells ({ frames := 2, cells := 0, slots := 0, locals := 28 } : Room).slots (fun v h L => Q6_b Z x0 x1 s0 s1 q0 q1 cs ds zC h0 n0 v h L) (s₁.setTop (entryFrame m #[(.ref x0), (.ref x1)] 2)))
  rw [ef_6_b m x0 x1 s0 s1 q0 q1 cs ds zC ]
  have hwe : ∀ d ∈ StrChars.Road.wordsEq, d.before a0 Z = true := fun d hd => hw d ((by decide +kernel : ∀ d ∈ StrChars.Road.wordsEq, d ∈ tables_1) d hd)
  have ES0 := S0.exa
  have ES1 := S1.exa
  show Goes _ _ _ _ _ _ _ (s₁.setTop (mkF m 0 #[.val (.ref x0), .val (.ref x1)] []))
  refine Goes.step (fun _ k => XS.aloadN X0.here hx rfl (hb hby d6_0) rfl rfl k) ?_
  obtain ⟨T1, X1, e1, st1⟩ := instY X0 hx hZ hown w_42 e0 (Ins.self E_x1) (g := (mkF m 1 #[.val (.ref x0), .val (.ref x1)] [(.ref x1)])) rfl rfl (hb hby d6_1)
  refine Goes.step st1 ?_
  show Goes _ _ _ _ _ _ _ (T1.setTop (mkF m 4 _ [(.int (1 : Int32))]))
  refine Goes.step (fun _ k => XS.ifNo X1.here hx rfl (hb hby d6_4) rfl ((if0 _ _).trans (feq (by decide : ¬ ((1 : Int32) = (0 : Int32)))).1) k) ?_
  show Goes _ _ _ _ _ _ _ (T1.setTop (mkF m 7 _ []))
  refine Goes.step (fun _ k => XS.aloadN X1.here hx rfl (hb hby d6_7) rfl rfl k) ?_
  obtain ⟨T2, X2, e2, st2⟩ := castY X1 hx hZ hown w_42 e1 (Ins.self E_x1) (g := (mkF m 8 #[.val (.ref x0), .val (.ref x1)] [(.ref x1)])) rfl rfl (hb hby d6_8)
  refine Goes.step st2 ?_
  show Goes _ _ _ _ _ _ _ (T2.setTop (mkF m 11 _ [(.ref x1)]))
  obtain ⟨T3, X3, e3, st3⟩ := getF X2 hx hZ hown (host := "") (Or.inl w_35) Via.refl e2 F1_queueId (g := (mkF m 11 #[.val (.ref x0), .val (.ref x1)] [(.ref x1)])) rfl rfl (hb hby d6_11)
  refine Goes.step st3 ?_
  show Goes _ _ _ _ _ _ _ (T3.setTop (mkF m 14 _ [(.int q1)]))
  refine Goes.step (fun _ k => XS.aloadN X3.here hx rfl (hb hby d6_14) rfl rfl k) ?_
  obtain ⟨T4, X4, e4, st4⟩ := getF X3 hx hZ hown (host := "") (Or.inl w_35) Via.refl e3 F0_queueId (g := (mkF m 15 #[.val (.ref x0), .val (.ref x1)] [(.ref x0), (.int q1)])) rfl rfl (hb hby d6_15)
  refine Goes.step st4 ?_
  show Goes _ _ _ _ _ _ _ (T4.setTop (mkF m 18 _ [(.int q0), (.int q1)]))
  by_cases c18_5 : q1 = q0
  · refine Goes.step (fun _ k => XS.icmpNo X4.here hx rfl (hb hby d6_18) rfl (teq c18_5).2 k) ?_
    show Goes _ _ _ _ _ _ _ (T4.setTop (mkF m 21 _ []))
    refine Goes.step (fun _ k => XS.aloadN X4.here hx rfl (hb hby d6_21) rfl rfl k) ?_
    obtain ⟨T6, X6, e6, st6⟩ := castY X4 hx hZ hown w_42 e4 (Ins.self E_x1) (g := (mkF m 22 #[.val (.ref x0), .val (.ref x1)] [(.ref x1)])) rfl rfl (hb hby d6_22)
    refine Goes.step st6 ?_
    show Goes _ _ _ _ _ _ _ (T6.setTop (mkF m 25 #[.val (.ref x0), .val (.ref x1)] [(.ref x1)]))
    obtain ⟨T7, X7, e7, st7⟩ := getF X6 hx hZ hown (host := "") (Or.inl w_33) Via.refl e6 F1_topic (g := (mkF m 25 #[.val (.ref x0), .val (.ref x1)] [(.ref x1)])) rfl rfl (hb hby d6_25)
    refine Goes.step st7 ?_
    show Goes _ _ _ _ _ _ _ (T7.setTop (mkF m 28 _ [(.ref s1)]))
    refine Goes.step (fun _ k => XS.aloadN X7.here hx rfl (hb hby d6_28) rfl rfl k) ?_
    obtain ⟨T8, X8, e8, st8⟩ := getF X7 hx hZ hown (host := "") (Or.inl w_33) Via.refl e7 F0_topic (g := (mkF m 29 #[.val (.ref x0), .val (.ref x1)] [(.ref x0), (.ref s1)])) rfl rfl (hb hby d6_29)
    refine Goes.step st8 ?_
    show Goes _ _ _ _ _ _ _ (T8.setTop (mkF m 32 _ [(.ref s0), (.ref s1)]))
    obtain ⟨et10, ek10, en10, ev10, e1_10, e2_10, e3_10, e4_10, e5_10, e6_10, e7_10⟩ := id S1
    obtain ⟨et11, ek11, en11, ev11, e1_11, e2_11, e3_11, e4_11, e5_11, e6_11, e7_11⟩ := id S0
    obtain ⟨cq9, kq9, q9a, q9b, q9c⟩ := isOf hZ e8 ES1
    obtain ⟨_, _, ⟨T9, L9, k9, n9⟩, -, X9, ⟨Lc9, hQ9, l9, y9, z9⟩, st9⟩ := X8.virtualBack hx (y := (⟨"java/lang/String", "equals", "(Ljava/lang/Object;)Z"⟩ : MethodName)) (z := (⟨"java/lang/String", "equals", "(Ljava/lang/Object;)Z"⟩ : MethodName)) hown (mvT hZ w_44) (mvT hZ w_45) (notFace_of_selects (args := #[]) (mvT hZ w_47)) (mvT hZ w_47) (mvT hZ w_46) (by decide) (StrChars.Road.eqW (W := 0) hZ hwe (kI := 4) w_5 e1_10 e2_10 e3_10 e4_10 e5_10 e6_10 e7_10 e1_11 e2_11 e3_11 e4_11 e5_11 e6_11 e7_11 (S_CS.ext X00.2) P5 (by decide) (by decide)) q9a q9c (g := (mkF m 32 #[.val (.ref x0), .val (.ref x1)] [(.ref s0), (.ref s1)])) rfl (by rw [hml]; rfl) (Steps.refl _) (argsL := [(.ref s0)]) (rest := []) (lenOf pd_5 rfl) rfl (by show 2 * 0 + _ ≤ _; exact Nat.le_of_eq rfl) (hb hby d6_32) (fun _ _ => ⟨rfl, e8, (by decide : 0 + 0 ≤ _), (by decide : 0 + 0 ≤ _)⟩)
    dsimp only [Pt.U, Pt.locs, Pt.cells, Pt.slots] at X9 l9 y9 z9 st9 hQ9
    rw [l9, y9, z9] at X9
    obtain ⟨hR9, rfl, eh9⟩ := hQ9
    have NA9 := Fr.app N0 (Fr.nil n0)
    rcases hR9 with ⟨rfl, u9⟩ | ⟨rfl, u9⟩
    · refine Goes.back st9 ?_
      show Goes _ _ _ _ _ _ _ (T9.setTop (mkF m 35 _ [(.int (1 : Int32))]))
      refine Goes.step (fun _ k => XS.ifNo X9.here hx rfl (hb hby d6_35) rfl ((if0 _ _).trans (feq (by decide : ¬ ((1 : Int32) = (0 : Int32)))).1) k) ?_
      show Goes _ _ _ _ _ _ _ (T9.setTop (mkF m 38 _ []))
      refine Goes.step (fun _ k => XS.iconst X9.here hx rfl (hb hby d6_38) k) ?_
      refine Goes.step (fun _ k => XS.goto X9.here hx rfl (pc0 := 39) (pc' := 43) rfl (hb hby d6_39) (by decide) (by decide) k) ?_
      show Goes _ _ _ _ _ _ _ (T9.setTop (mkF m 43 _ [(.int (1 : Int32))]))
      exact Goes.ret X9 hx (BodyLoose.notSynchronized Bd) Bd.returns rfl (Or.inl ⟨rfl, by simp, _, rfl⟩) (hb hby d6_43) (by show Q6_b Z x0 x1 s0 s1 q0 q1 cs ds zC h0 n0 (some (.int (1 : Int32))) T9.heap _; rw [eh9]; exact ⟨NA9, rfl, Or.inl ⟨rfl, c18_5, u9⟩⟩) (by decide) (by decide)
    · refine Goes.back st9 ?_
      show Goes _ _ _ _ _ _ _ (T9.setTop (mkF m 35 _ [(.int (0 : Int32))]))
      refine Goes.step (fun _ k => XS.ifYes X9.here hx rfl (pc0 := 35) (pc' := 42) rfl (hb hby d6_35) rfl ((if0 _ _).trans (teq (by decide : (0 : Int32) = (0 : Int32))).1) (by decide) (by decide) k) ?_
      show Goes _ _ _ _ _ _ _ (T9.setTop (mkF m 42 _ []))
      refine Goes.step (fun _ k => XS.iconst X9.here hx rfl (hb hby d6_42) k) ?_
      exact Goes.ret X9 hx (BodyLoose.notSynchronized Bd) Bd.returns rfl (Or.inl ⟨rfl, by simp, _, rfl⟩) (hb hby d6_43) (by show Q6_b Z x0 x1 s0 s1 q0 q1 cs ds zC h0 n0 (some (.int (0 : Int32))) T9.heap _; rw [eh9]; exact ⟨NA9, rfl, Or.inr ⟨rfl, fun q => u9 q.2⟩⟩) (by decide) (by decide)
  · refine Goes.step (fun _ k => XS.icmpYes X4.here hx rfl (pc0 := 18) (pc' := 42) rfl (hb hby d6_18) rfl (feq c18_5).2 (by decide) (by decide) k) ?_
    show Goes _ _ _ _ _ _ _ (T4.setTop (mkF m 42 _ []))
    refine Goes.step (fun _ k => XS.iconst X4.here hx rfl (hb hby d6_42) k) ?_
    exact Goes.ret X4 hx (BodyLoose.notSynchronized Bd) Bd.returns rfl (Or.inl ⟨rfl, by simp, _, rfl⟩) (hb hby d6_43) (by show Q6_b Z x0 x1 s0 s1 q0 q1 cs ds zC h0 n0 (some (.int (0 : Int32))) T4.heap _; rw [e4]; exact ⟨N0, rfl, Or.inr ⟨rfl, fun q => c18_5 q.1⟩⟩) (by decide) (by decide)
theorem d14_0 : decode jdk_18_method_1_code 0 = .ok (.aload_n 0, 1) := by decide +kernel
theorem d14_1 : decode jdk_18_method_1_code 1 = .ok (.invokespecial 1, 3) := by decide +kernel
theorem d14_4 : decode jdk_18_method_1_code 4 = .ok (.return_, 1) := by decide +kernel
theorem pn_14 : plainName "java/lang/Number" = true := by first | (simp [plainName, overriddenIn]; done) | decide +kernel
theorem ef_14 (m : MethodId) (x0 : Addr)  : entryFrame m #[(.ref x0)] 1 = mkF m 0 #[.val (.ref x0)] [] := by first | (simp [entryFrame, mkF, argsToLocals, Value.category]; done) | rfl
def Q14 (Z : State) (x0 : Addr) (h0 : Heap) (n0 : Nat) (v : Option Value) (h : Heap) (L : List Loc) : Prop := Fr n0 L ∧ h = h0 ∧ ((v = none))
set_option maxRecDepth 65536 in
set_option maxHeartbeats 40000000 in
theorem rm14 (l : Launch) (Z : State) (a0 : Array Value) (hw : ∀ d ∈ tables_1, d.before a0 Z = true) (ws : List Jvm.Cond) (x0 : Addr) (h0 : Heap) (n0 : Nat) (Z0 : n0 ≤ h0.size) :
    MetFree l (⟨"java/lang/Number", "<init>", "()V"⟩ : MethodName) (head1 (Jvm.Cond.code (⟨"java/lang/Number", "<init>", "()V"⟩ : MethodName) jdk_18_method_1_code 1 none :: ws) ({ frames := 1, cells := 0, slots := 0, locals := 12 } : Room)) (fun a U => a = #[(.ref x0)] ∧ Z.Warmed39 U.vm ∧ U.heap = h0) (fun _ _ _ _ _ => True) (fun _ U o U' => ∃ v L, o = .returned v ∧ Q14 Z x0 h0 n0 v U'.heap L ∧ FrameEnd U o U' L ({ frames := 1, cells := 0, slots := 0, locals := 12 } : Room).cells ({ frames := 1, cells := 0, slots := 0, locals := 12 } : Room).slots) := by
  refine MetFree.of_bodySF (plainFor_of_name pn_14) hisR ?_
  intro p e s m args below meth c s₁ Bd hml0 hP hK
  obtain ⟨rfl, hZ, hh⟩ := hP
  have w_16 := hw _ (List.mem_of_getElem? (i := 16) rfl)
  have w_17 := hw _ (List.mem_of_getElem? (i := 17) rfl)
  have w_82 := hw _ (List.mem_of_getElem? (i := 82) rfl)
  have hx := Bd.exec
  have hby := Bd.bytes
  have hml : c.maxLocals = 1 := hml0
  have hown : s.vm.findClass "java/lang/Number" = some m.cls := findClass_of_methodNamed Bd.named
  have hnm := (name_of_methodNamed Bd.named Bd.method).1
  have X0 : Stand p l e ({ frames := 1, cells := 0, slots := 0, locals := 12 } : Room) s m #[(.ref x0)] below meth c s₁ [] 0 0 := Stand.of_body Bd
  have e0 : s₁.heap = h0 := by rw [← hh, Bd.state]; rfl
  have N0 := Fr.nil n0
  have K0 : Keep h0 h0 [] := Keep.refl h0 _
  refine (?_ : Goes p e below s ({ frames := 1, cells := 0, slots := 0, locals := 12 } : Room).cells ({ frames := 1, cells := 0, slots := 0, locals := 12 } : Room).slots (fun v h L => Q14 Z x0 h0 n0 v h L) (s₁.setTop (entryFrame m #[(.ref x0)] 1)))
  rw [ef_14 m x0 ]
  show Goes _ _ _ _ _ _ _ (s₁.setTop (mkF m 0 #[.val (.ref x0)] []))
  refine Goes.step (fun _ k => XS.aloadN X0.here hx rfl (hb hby d14_0) rfl rfl k) ?_
  obtain ⟨T1, X1, e1, st1⟩ := initO X0 hx hZ hown w_82 w_16 w_17 e0 (g := (mkF m 1 #[.val (.ref x0)] [(.ref x0)])) rfl (by rw [hml]; rfl) rfl (hb hby d14_1) (by decide) (W := 0) (by show 2 * 0 + _ ≤ _; exact Nat.le_of_eq rfl) (by decide)
  refine Goes.step st1 ?_
  show Goes _ _ _ _ _ _ _ (T1.setTop (mkF m 4 _ []))
  exact Goes.retV X1 hx (BodyLoose.notSynchronized Bd) Bd.returns (hb hby d14_4) (by show Q14 Z x0 h0 n0 none T1.heap _; rw [e1]; exact ⟨N0, rfl, rfl⟩) (by decide) (by decide)
theorem d13_0 : decode jdk_33_method_23_code 0 = .ok (.aload_n 0, 1) := by decide +kernel
theorem d13_1 : decode jdk_33_method_23_code 1 = .ok (.invokespecial 202, 3) := by decide +kernel
theorem d13_4 : decode jdk_33_method_23_code 4 = .ok (.aload_n 0, 1) := by decide +kernel
theorem d13_5 : decode jdk_33_method_23_code 5 = .ok (.iload_n 1, 1) := by decide +kernel
theorem d13_6 : decode jdk_33_method_23_code 6 = .ok (.putfield 205, 3) := by decide +kernel
theorem d13_9 : decode jdk_33_method_23_code 9 = .ok (.return_, 1) := by decide +kernel
theorem pn_13 : plainName "java/lang/Integer" = true := by first | (simp [plainName, overriddenIn]; done) | decide +kernel
theorem ef_13 (m : MethodId) (x0 : Addr) (x1 : Int32) (f0_value : Int32)  : entryFrame m #[(.ref x0), (.int x1)] 2 = mkF m 0 #[.val (.ref x0), .val (.int x1)] [] := by first | (simp [entryFrame, mkF, argsToLocals, Value.category]; done) | rfl
theorem pd_3 : parseMethodDescriptor "()V" = some ⟨[], none⟩ := by decide +kernel
def Q13 (Z : State) (x0 : Addr) (x1 : Int32) (f0_value : Int32) (h0 : Heap) (n0 : Nat) (v : Option Value) (h : Heap) (L : List Loc) : Prop := Fr n0 L ∧ Keep h0 h [x0] ∧ Exa Z h x0 "java/lang/Integer" ∧ ((v = none ∧ Fld Z h x0 "java/lang/Integer" "value" "I" (.int x1)))
set_option maxRecDepth 65536 in
set_option maxHeartbeats 40000000 in
theorem rm13 (l : Launch) (Z : State) (a0 : Array Value) (hw : ∀ d ∈ tables_1, d.before a0 Z = true) (ws : List Jvm.Cond) (x0 : Addr) (x1 : Int32) (f0_value : Int32) (h0 : Heap) (n0 : Nat) (Z0 : n0 ≤ h0.size) (F0_value : Fld Z h0 x0 "java/lang/Integer" "value" "I" (.int f0_value)) (E_x0 : Exa Z h0 x0 "java/lang/Integer") (g_x0 : n0 ≤ x0) :
    MetFree l (⟨"java/lang/Integer", "<init>", "(I)V"⟩ : MethodName) (head1 (Jvm.Cond.code (⟨"java/lang/Integer", "<init>", "(I)V"⟩ : MethodName) jdk_33_method_23_code 2 none :: ws) ({ frames := 2, cells := 0, slots := 0, locals := 24 } : Room)) (fun a U => a = #[(.ref x0), (.int x1)] ∧ Z.Warmed39 U.vm ∧ U.heap = h0) (fun _ _ _ _ _ => True) (fun _ U o U' => ∃ v L, o = .returned v ∧ Q13 Z x0 x1 f0_value h0 n0 v U'.heap L ∧ FrameEnd U o U' L ({ frames := 2, cells := 0, slots := 0, locals := 24 } : Room).cells ({ frames := 2, cells := 0, slots := 0, locals := 24 } : Room).slots) := by
  refine MetFree.of_bodySF (plainFor_of_name pn_13) hisR ?_
  intro p e s m args below meth c s₁ Bd hml0 hP hK
  obtain ⟨rfl, hZ, hh⟩ := hP
  have w_71 := hw _ (List.mem_of_getElem? (i := 71) rfl)
  have w_76 := hw _ (List.mem_of_getElem? (i := 76) rfl)
  have w_77 := hw _ (List.mem_of_getElem? (i := 77) rfl)
  have w_80 := hw _ (List.mem_of_getElem? (i := 80) rfl)
  have w_81 := hw _ (List.mem_of_getElem? (i := 81) rfl)
  have w_83 := hw _ (List.mem_of_getElem? (i := 83) rfl)
  have w_84 := hw _ (List.mem_of_getElem? (i := 84) rfl)
  have hx := Bd.exec
  have hby := Bd.bytes
  have hml : c.maxLocals = 2 := hml0
  have hown : s.vm.findClass "java/lang/Integer" = some m.cls := findClass_of_methodNamed Bd.named
  have hnm := (name_of_methodNamed Bd.named Bd.method).1
  have X0 : Stand p l e ({ frames := 2, cells := 0, slots := 0, locals := 24 } : Room) s m #[(.ref x0), (.int x1)] below meth c s₁ [] 0 0 := Stand.of_body Bd
  have e0 : s₁.heap = h0 := by rw [← hh, Bd.state]; rfl
  have N0 := Fr.nil n0
  have K0 : Keep h0 h0 [x0] := Keep.refl h0 _
  refine (?_ : Goes p e below s ({ frames := 2, cells := 0, slots := 0, locals := 24 } : Room).cells ({ frames := 2, cells := 0, slots := 0, locals := 24 } : Room).slots (fun v h L => Q13 Z x0 x1 f0_value h0 n0 v h L) (s₁.setTop (entryFrame m #[(.ref x0), (.int x1)] 2)))
  rw [ef_13 m x0 x1 f0_value ]
  show Goes _ _ _ _ _ _ _ (s₁.setTop (mkF m 0 #[.val (.ref x0), .val (.int x1)] []))
  refine Goes.step (fun _ k => XS.aloadN X0.here hx rfl (hb hby d13_0) rfl rfl k) ?_
  obtain ⟨_, _, ⟨T1, L1, k1, n1⟩, -, X1, ⟨Lc1, hQ1, l1, y1, z1⟩, st1⟩ := X0.specialBack hx (y := (⟨"java/lang/Number", "<init>", "()V"⟩ : MethodName)) rfl hown (mvT hZ w_76) (mvT hZ w_77) (mvT hZ w_81) (by decide) (backOf (W := 0) (rm14 l Z a0 hw [] x0 h0 n0 Z0 ) hZ w_81 w_80 (by decide) (by decide)) (g := (mkF m 1 #[.val (.ref x0), .val (.int x1)] [(.ref x0)])) rfl (by rw [hml]; rfl) (Steps.refl _) (a := x0) (argsL := []) (rest := []) (lenOf pd_3 rfl) rfl (by show 2 * 0 + _ ≤ _; exact Nat.le_of_eq rfl) (hb hby d13_1) (fun _ _ => ⟨rfl, e0, (by decide : 0 + 0 ≤ _), (by decide : 0 + 0 ≤ _)⟩)
  dsimp only [Pt.U, Pt.locs, Pt.cells, Pt.slots] at X1 l1 y1 z1 st1 hQ1
  rw [l1, y1, z1] at X1
  obtain ⟨N1, eh1, hR1⟩ := hQ1
  have NA1 := Fr.app N0 N1
  obtain rfl := hR1
  refine Goes.back st1 ?_
  show Goes _ _ _ _ _ _ _ (T1.setTop (mkF m 4 _ []))
  refine Goes.step (fun _ k => XS.aloadN X1.here hx rfl (hb hby d13_4) rfl rfl k) ?_
  refine Goes.step (fun _ k => XS.iloadN X1.here hx rfl (hb hby d13_5) rfl  k) ?_
  obtain ⟨T2, h2, X2, e2, W2, st2⟩ := putF X1 hx hZ hown (host := "") (Or.inl w_83) Via.refl eh1 F0_value E_x0 (Or.inr ⟨w_84, rfl, hnm⟩) w_71 (ty := .int) (by decide) rfl rfl (g := (mkF m 6 #[.val (.ref x0), .val (.int x1)] [(.int x1), (.ref x0)])) rfl rfl (hb hby d13_6)
  refine Goes.step st2 ?_
  have f3 := F0_value.same W2
  have f4 := E_x0.wr W2
  have K5 : Keep h0 h2 [x0] := K0.wr W2 (Or.inl (List.mem_of_getElem? (i := 0) rfl))
  have Z5 : n0 ≤ h2.size := by rw [Wr.size W2]; exact Z0
  have N5 := Fr.snoc X2 NA1 g_x0
  show Goes _ _ _ _ _ _ _ (T2.setTop (mkF m 9 _ []))
  exact Goes.retV X2 hx (BodyLoose.notSynchronized Bd) Bd.returns (hb hby d13_9) (by show Q13 Z x0 x1 f0_value h0 n0 none T2.heap _; rw [e2]; exact ⟨N5, K5, f4, ⟨rfl, f3⟩⟩) (by decide) (by decide)
theorem d12_0 : decode jdk_33_method_22_code 0 = .ok (.iload_n 0, 1) := by decide +kernel
theorem d12_1 : decode jdk_33_method_22_code 1 = .ok (.bipush (-128), 2) := by decide +kernel
theorem d12_3 : decode jdk_33_method_22_code 3 = .ok (.if_icmp .lt 20, 3) := by decide +kernel
theorem d12_6 : decode jdk_33_method_22_code 6 = .ok (.iload_n 0, 1) := by decide +kernel
theorem d12_7 : decode jdk_33_method_22_code 7 = .ok (.getstatic 191, 3) := by decide +kernel
theorem d12_10 : decode jdk_33_method_22_code 10 = .ok (.if_icmp .gt 13, 3) := by decide +kernel
theorem d12_13 : decode jdk_33_method_22_code 13 = .ok (.getstatic 195, 3) := by decide +kernel
theorem d12_16 : decode jdk_33_method_22_code 16 = .ok (.iload_n 0, 1) := by decide +kernel
theorem d12_17 : decode jdk_33_method_22_code 17 = .ok (.sipush 128, 3) := by decide +kernel
theorem d12_20 : decode jdk_33_method_22_code 20 = .ok (.iadd, 1) := by decide +kernel
theorem d12_21 : decode jdk_33_method_22_code 21 = .ok (.aaload, 1) := by decide +kernel
theorem d12_22 : decode jdk_33_method_22_code 22 = .ok (.areturn, 1) := by decide +kernel
theorem d12_23 : decode jdk_33_method_22_code 23 = .ok (.new 1, 3) := by decide +kernel
theorem d12_26 : decode jdk_33_method_22_code 26 = .ok (.dup, 1) := by decide +kernel
theorem d12_27 : decode jdk_33_method_22_code 27 = .ok (.iload_n 0, 1) := by decide +kernel
theorem d12_28 : decode jdk_33_method_22_code 28 = .ok (.invokespecial 199, 3) := by decide +kernel
theorem d12_31 : decode jdk_33_method_22_code 31 = .ok (.areturn, 1) := by decide +kernel
theorem pn_12 : plainName "java/lang/Integer" = true := by first | (simp [plainName, overriddenIn]; done) | decide +kernel
theorem ef_12 (m : MethodId) (x0 : Int32) (ca : Addr) (cc : Cell)  : entryFrame m #[(.int x0)] 1 = mkF m 0 #[.val (.int x0)] [] := by first | (simp [entryFrame, mkF, argsToLocals, Value.category]; done) | rfl
theorem pd_11 : parseMethodDescriptor "(I)V" = some ⟨[.int], none⟩ := by decide +kernel
def Q12 (Z : State) (x0 : Int32) (ca : Addr) (cc : Cell) (h0 : Heap) (n0 : Nat) (v : Option Value) (h : Heap) (L : List Loc) : Prop := Fr n0 L ∧ Keep h0 h [] ∧ ∃ r : Addr, v = some (.ref r) ∧ Exa Z h r "java/lang/Integer" ∧ Fld Z h r "java/lang/Integer" "value" "I" (.int x0)
set_option maxRecDepth 65536 in
set_option maxHeartbeats 40000000 in
theorem rm12 (l : Launch) (Z : State) (a0 : Array Value) (hw : ∀ d ∈ tables_1, d.before a0 Z = true) (ws : List Jvm.Cond) (x0 : Int32) (ca : Addr) (cc : Cell) (h0 : Heap) (n0 : Nat) (Z0 : n0 ≤ h0.size) (S_high : Sta Z h0 "java/lang/Integer$IntegerCache" "high" "I" (.int (127 : Int32))) (S_cache : Sta Z h0 "java/lang/Integer$IntegerCache" "cache" "[Ljava/lang/Integer;" (.ref ca)) (BX : Bxs Z ca cc "java/lang/Integer" "I" (256 : Int32) (fun j => .int (j - (128 : Int32)))) (X00 : Old Z n0 h0) :
    MetFree l (⟨"java/lang/Integer", "valueOf", "(I)Ljava/lang/Integer;"⟩ : MethodName) (head1 (Jvm.Cond.code (⟨"java/lang/Integer", "valueOf", "(I)Ljava/lang/Integer;"⟩ : MethodName) jdk_33_method_22_code 1 (some (.object "java/lang/Integer")) :: ws) ({ frames := 3, cells := 1, slots := 1, locals := 38 } : Room)) (fun a U => a = #[(.int x0)] ∧ Z.Warmed39 U.vm ∧ U.heap = h0) (fun _ _ _ _ _ => True) (fun _ U o U' => ∃ v L, o = .returned v ∧ Q12 Z x0 ca cc h0 n0 v U'.heap L ∧ FrameEnd U o U' L ({ frames := 3, cells := 1, slots := 1, locals := 38 } : Room).cells ({ frames := 3, cells := 1, slots := 1, locals := 38 } : Room).slots) := by
  refine MetFree.of_bodySF (plainFor_of_name pn_12) hisR ?_
  intro p e s m args below meth c s₁ Bd hml0 hP hK
  obtain ⟨rfl, hZ, hh⟩ := hP
  have w_68 := hw _ (List.mem_of_getElem? (i := 68) rfl)
  have w_70 := hw _ (List.mem_of_getElem? (i := 70) rfl)
  have w_71 := hw _ (List.mem_of_getElem? (i := 71) rfl)
  have w_72 := hw _ (List.mem_of_getElem? (i := 72) rfl)
  have w_73 := hw _ (List.mem_of_getElem? (i := 73) rfl)
  have w_75 := hw _ (List.mem_of_getElem? (i := 75) rfl)
  have w_84 := hw _ (List.mem_of_getElem? (i := 84) rfl)
  have w_88 := hw _ (List.mem_of_getElem? (i := 88) rfl)
  have w_90 := hw _ (List.mem_of_getElem? (i := 90) rfl)
  have hx := Bd.exec
  have hby := Bd.bytes
  have hml : c.maxLocals = 1 := hml0
  have hown : s.vm.findClass "java/lang/Integer" = some m.cls := findClass_of_methodNamed Bd.named
  have hnm := (name_of_methodNamed Bd.named Bd.method).1
  have X0 : Stand p l e ({ frames := 3, cells := 1, slots := 1, locals := 38 } : Room) s m #[(.int x0)] below meth c s₁ [] 0 0 := Stand.of_body Bd
  have e0 : s₁.heap = h0 := by rw [← hh, Bd.state]; rfl
  have N0 := Fr.nil n0
  have K0 : Keep h0 h0 [] := Keep.refl h0 _
  refine (?_ : Goes p e below s ({ frames := 3, cells := 1, slots := 1, locals := 38 } : Room).cells ({ frames := 3, cells := 1, slots := 1, locals := 38 } : Room).slots (fun v h L => Q12 Z x0 ca cc h0 n0 v h L) (s₁.setTop (entryFrame m #[(.int x0)] 1)))
  rw [ef_12 m x0 ca cc ]
  show Goes _ _ _ _ _ _ _ (s₁.setTop (mkF m 0 #[.val (.int x0)] []))
  refine Goes.step (fun _ k => XS.iloadN X0.here hx rfl (hb hby d12_0) rfl  k) ?_
  refine Goes.step (fun _ k => XS.bipush X0.here hx rfl (hb hby d12_1) k) ?_
  by_cases c3_1 : x0 < (-128 : Int32)
  · refine Goes.step (fun _ k => XS.icmpYes X0.here hx rfl (pc0 := 3) (pc' := 23) rfl (hb hby d12_3) rfl (tlt c3_1).1 (by decide) (by decide) k) ?_
    show Goes _ _ _ _ _ _ _ (s₁.setTop (mkF m 23 _ []))
    obtain ⟨T2, h2, X2, e2, E2, A2, D2, -, st2⟩ := newO X0 hx hZ hown w_70 w_71 w_68 e0 (g := (mkF m 23 #[.val (.int x0)] [])) rfl (hb hby d12_23) (by decide) (by decide)
    obtain ⟨b2, g2⟩ : ∃ z, z = h0.size := ⟨_, rfl⟩
    rw [← g2] at A2 D2 st2
    refine Goes.step st2 ?_
    have g_b2 : n0 ≤ b2 := Nat.le_trans Z0 (Nat.le_of_eq g2.symm)
    have sz_b2 : h0.size ≤ b2 := Nat.le_trans K0.1 (Nat.le_of_eq g2.symm)
    have f3 := S_high.ext E2
    have f4 := S_cache.ext E2
    have K5 : Keep h0 h2 [] := K0.ext E2
    have Z5 : n0 ≤ h2.size := Nat.le_trans Z0 E2.1
    have E_b2 := A2
    have F_value_b2 : Fld Z h2 b2 "java/lang/Integer" "value" "I" (.int (0 : Int32)) := D2 (Or.inr w_84) (ty := .int) (by decide)
    show Goes _ _ _ _ _ _ _ (T2.setTop (mkF m 26 _ [(.ref b2)]))
    refine Goes.step (fun _ k => XS.dup X2.here hx rfl (hb hby d12_26) rfl rfl k) ?_
    refine Goes.step (fun _ k => XS.iloadN X2.here hx rfl (hb hby d12_27) rfl  k) ?_
    obtain ⟨_, _, ⟨T6, L6, k6, n6⟩, -, X6, ⟨Lc6, hQ6, l6, y6, z6⟩, st6⟩ := X2.specialBack hx (y := (⟨"java/lang/Integer", "<init>", "(I)V"⟩ : MethodName)) rfl hown (mvT hZ w_72) (mvT hZ w_73) (mvT hZ w_75) (by decide) (backOf (W := 1) (rm13 l Z a0 hw [] b2 x0 (0 : Int32) h2 n0 Z5 F_value_b2 E_b2 g_b2) hZ w_75 w_68 (by decide) (by decide)) (g := (mkF m 28 #[.val (.int x0)] [(.int x0), (.ref b2), (.ref b2)])) rfl (by rw [hml]; rfl) (Steps.refl _) (a := b2) (argsL := [(.int x0)]) (rest := [(.ref b2)]) (lenOf pd_11 rfl) rfl (by show 2 * 0 + _ ≤ _; exact Nat.le_of_eq rfl) (hb hby d12_28) (fun _ _ => ⟨rfl, e2, (by decide : 1 + 0 ≤ _), (by decide : 1 + 0 ≤ _)⟩)
    dsimp only [Pt.U, Pt.locs, Pt.cells, Pt.slots] at X6 l6 y6 z6 st6 hQ6
    rw [l6, y6, z6] at X6
    obtain ⟨N6, KK6, ex6_0, hR6⟩ := hQ6
    have NA6 := Fr.app N0 N6
    have f9 := E_b2.keep KK6
    have K11 : Keep h0 T6.heap [] := K5.trans KK6 (allS (Or.inr sz_b2) all0)
    have Z11 : n0 ≤ T6.heap.size := Nat.le_trans Z5 KK6.1
    obtain ⟨rfl, v6_0_0⟩ := hR6
    refine Goes.back st6 ?_
    show Goes _ _ _ _ _ _ _ (T6.setTop (mkF m 31 _ [(.ref b2)]))
    exact Goes.ret X6 hx (BodyLoose.notSynchronized Bd) Bd.returns rfl (Or.inr (Or.inr (Or.inr (Or.inr ⟨rfl, rfl, rfl⟩)))) (hb hby d12_31) (by show Q12 Z x0 ca cc h0 n0 (some (.ref b2)) T6.heap _; exact ⟨NA6, K11, b2, rfl, f9, v6_0_0⟩) (by decide) (by decide)
  · refine Goes.step (fun _ k => XS.icmpNo X0.here hx rfl (hb hby d12_3) rfl (flt c3_1).1 k) ?_
    show Goes _ _ _ _ _ _ _ (s₁.setTop (mkF m 6 _ []))
    refine Goes.step (fun _ k => XS.iloadN X0.here hx rfl (hb hby d12_6) rfl  k) ?_
    obtain ⟨T12, X12, e12, st12⟩ := getS2 X0 hx hZ hown (host := "") (Or.inl w_88) Via.refl e0 S_high (g := (mkF m 7 #[.val (.int x0)] [(.int x0)])) rfl (hb hby d12_7)
    refine Goes.step st12 ?_
    show Goes _ _ _ _ _ _ _ (T12.setTop (mkF m 10 _ [(.int (127 : Int32)), (.int x0)]))
    by_cases c10_13 : (127 : Int32) < x0
    · refine Goes.step (fun _ k => XS.icmpYes X12.here hx rfl (pc0 := 10) (pc' := 23) rfl (hb hby d12_10) rfl (tlt c10_13).2.2.1 (by decide) (by decide) k) ?_
      show Goes _ _ _ _ _ _ _ (T12.setTop (mkF m 23 _ []))
      obtain ⟨T14, h14, X14, e14, E14, A14, D14, -, st14⟩ := newO X12 hx hZ hown w_70 w_71 w_68 e12 (g := (mkF m 23 #[.val (.int x0)] [])) rfl (hb hby d12_23) (by decide) (by decide)
      obtain ⟨b14, g14⟩ : ∃ z, z = h0.size := ⟨_, rfl⟩
      rw [← g14] at A14 D14 st14
      refine Goes.step st14 ?_
      have g_b14 : n0 ≤ b14 := Nat.le_trans Z0 (Nat.le_of_eq g14.symm)
      have sz_b14 : h0.size ≤ b14 := Nat.le_trans K0.1 (Nat.le_of_eq g14.symm)
      have f15 := S_high.ext E14
      have f16 := S_cache.ext E14
      have K17 : Keep h0 h14 [] := K0.ext E14
      have Z17 : n0 ≤ h14.size := Nat.le_trans Z0 E14.1
      have E_b14 := A14
      have F_value_b14 : Fld Z h14 b14 "java/lang/Integer" "value" "I" (.int (0 : Int32)) := D14 (Or.inr w_84) (ty := .int) (by decide)
      show Goes _ _ _ _ _ _ _ (T14.setTop (mkF m 26 _ [(.ref b14)]))
      refine Goes.step (fun _ k => XS.dup X14.here hx rfl (hb hby d12_26) rfl rfl k) ?_
      refine Goes.step (fun _ k => XS.iloadN X14.here hx rfl (hb hby d12_27) rfl  k) ?_
      obtain ⟨_, _, ⟨T18, L18, k18, n18⟩, -, X18, ⟨Lc18, hQ18, l18, y18, z18⟩, st18⟩ := X14.specialBack hx (y := (⟨"java/lang/Integer", "<init>", "(I)V"⟩ : MethodName)) rfl hown (mvT hZ w_72) (mvT hZ w_73) (mvT hZ w_75) (by decide) (backOf (W := 1) (rm13 l Z a0 hw [] b14 x0 (0 : Int32) h14 n0 Z17 F_value_b14 E_b14 g_b14) hZ w_75 w_68 (by decide) (by decide)) (g := (mkF m 28 #[.val (.int x0)] [(.int x0), (.ref b14), (.ref b14)])) rfl (by rw [hml]; rfl) (Steps.refl _) (a := b14) (argsL := [(.int x0)]) (rest := [(.ref b14)]) (lenOf pd_11 rfl) rfl (by show 2 * 0 + _ ≤ _; exact Nat.le_of_eq rfl) (hb hby d12_28) (fun _ _ => ⟨rfl, e14, (by decide : 1 + 0 ≤ _), (by decide : 1 + 0 ≤ _)⟩)
      dsimp only [Pt.U, Pt.locs, Pt.cells, Pt.slots] at X18 l18 y18 z18 st18 hQ18
      rw [l18, y18, z18] at X18
      obtain ⟨N18, KK18, ex18_0, hR18⟩ := hQ18
      have NA18 := Fr.app N0 N18
      have f21 := E_b14.keep KK18
      have K23 : Keep h0 T18.heap [] := K17.trans KK18 (allS (Or.inr sz_b14) all0)
      have Z23 : n0 ≤ T18.heap.size := Nat.le_trans Z17 KK18.1
      obtain ⟨rfl, v18_0_0⟩ := hR18
      refine Goes.back st18 ?_
      show Goes _ _ _ _ _ _ _ (T18.setTop (mkF m 31 _ [(.ref b14)]))
      exact Goes.ret X18 hx (BodyLoose.notSynchronized Bd) Bd.returns rfl (Or.inr (Or.inr (Or.inr (Or.inr ⟨rfl, rfl, rfl⟩)))) (hb hby d12_31) (by show Q12 Z x0 ca cc h0 n0 (some (.ref b14)) T18.heap _; exact ⟨NA18, K23, b14, rfl, f21, v18_0_0⟩) (by decide) (by decide)
    · refine Goes.step (fun _ k => XS.icmpNo X12.here hx rfl (hb hby d12_10) rfl (flt c10_13).2.2.1 k) ?_
      show Goes _ _ _ _ _ _ _ (T12.setTop (mkF m 13 _ []))
      obtain ⟨T24, X24, e24, st24⟩ := getS2 X12 hx hZ hown (host := "") (Or.inl w_90) Via.refl e12 S_cache (g := (mkF m 13 #[.val (.int x0)] [])) rfl (hb hby d12_13)
      refine Goes.step st24 ?_
      show Goes _ _ _ _ _ _ _ (T24.setTop (mkF m 16 _ [(.ref ca)]))
      refine Goes.step (fun _ k => XS.iloadN X24.here hx rfl (hb hby d12_16) rfl  k) ?_
      refine Goes.step (fun _ k => XS.sipush X24.here hx rfl (hb hby d12_17) k) ?_
      refine Goes.step (fun _ k => XS.iadd X24.here hx rfl (hb hby d12_20) rfl k) ?_
      show Goes _ _ _ _ _ _ _ (T24.setTop (mkF m 21 _ [(.int (x0 + (128 : Int32))), (.ref ca)]))
      have Ar25 := (BX.ext X00.2).1
      have hin25 : ¬ ((x0 + (128 : Int32)) < 0 ∨ cc.slots.size ≤ ((x0 + (128 : Int32))).toNatClampNeg) := inb_of BX.2.1 (own_cacheIn c3_1 c10_13)
      obtain ⟨rb, hat25, exb, fb⟩ := BX.2.2.2 _ hin25
      have exb2 := exb.ext X00.2
      have fb2 : Fld Z h0 rb "java/lang/Integer" "value" "I" (.int x0) := by have q : Fld Z h0 rb "java/lang/Integer" "value" "I" (.int (x0 + (128 : Int32) - (128 : Int32))) := fb.ext X00.2; rw [own_c128] at q; exact q
      refine Goes.step (fun _ k => X24.aaload hx (j := (x0 + (128 : Int32))) (v := (.ref rb)) (by rw [e24]; exact Ar25.1) (State.isArrayOf_alike hZ.alike Ar25.2.1) rfl Ar25.2.2 hin25 hat25 (g := (mkF m 21 #[.val (.int x0)] [(.int (x0 + (128 : Int32))), (.ref ca)])) rfl rfl (hb hby d12_21) _ k) ?_
      show Goes _ _ _ _ _ _ _ (T24.setTop (mkF m 22 _ [(.ref rb)]))
      exact Goes.ret X24 hx (BodyLoose.notSynchronized Bd) Bd.returns rfl (Or.inr (Or.inr (Or.inr (Or.inr ⟨rfl, rfl, rfl⟩)))) (hb hby d12_22) (by show Q12 Z x0 ca cc h0 n0 (some (.ref rb)) T24.heap _; rw [e24]; exact ⟨N0, K0, rb, rfl, exb2, fb2⟩) (by decide) (by decide)
theorem pn_0 : plainName "com/example/topicd/topicd/message/TopicQueueEqualsPinLaw" = true := by first | (simp [plainName, overriddenIn]; done) | decide +kernel
theorem ef_0 (m : MethodId) (p0 : Int32) (p1 : Int32) (p2 : Int32) (p3 : Int32) (p4 : Int32) (zC : Int32) (ca : Addr) (cc : Cell)  : entryFrame m #[(.int p0), (.int p1), (.int p2), (.int p3), (.int p4)] maxLocals = mkF m 0 #[.val (.int p0), .val (.int p1), .val (.int p2), .val (.int p3), .val (.int p4), .unset, .unset, .unset, .unset, .unset, .unset, .unset, .unset, .unset, .unset, .unset, .unset] [] := by first | (simp [entryFrame, mkF, argsToLocals, Value.category, maxLocals]; done) | rfl
theorem pd_0 : parseMethodDescriptor "(II)Ljava/lang/String;" = some ⟨[.int, .int], some (.object "java/lang/String")⟩ := by decide +kernel
theorem pd_4 : parseMethodDescriptor "(Ljava/lang/String;I)V" = some ⟨[(.object "java/lang/String"), .int], none⟩ := by decide +kernel
theorem pd_10 : parseMethodDescriptor "(I)Ljava/lang/Integer;" = some ⟨[.int], some (.object "java/lang/Integer")⟩ := by decide +kernel
def Q0 (Z : State) (p0 : Int32) (p1 : Int32) (p2 : Int32) (p3 : Int32) (p4 : Int32) (zC : Int32) (ca : Addr) (cc : Cell) (h0 : Heap) (n0 : Nat) (v : Option Value) (vm : Vm) (h : Heap) (L : List Loc) : Prop := v = some (.int 1) ∧ Fr n0 L
set_option maxRecDepth 65536 in
set_option maxHeartbeats 40000000 in
theorem rm0 (l : Launch) (Z : State) (a0 : Array Value) (hw : ∀ d ∈ tables_1, d.before a0 Z = true) (ws : List Jvm.Cond) (p0 : Int32) (p1 : Int32) (p2 : Int32) (p3 : Int32) (p4 : Int32) (zC : Int32) (ca : Addr) (cc : Cell) (h0 : Heap) (n0 : Nat) (Z0 : n0 ≤ h0.size) (S_CS : Sta Z Z.heap "java/lang/String" "COMPACT_STRINGS" "Z" (.int zC)) (P5 : ¬ (zC = (0 : Int32))) (S_high : Sta Z Z.heap "java/lang/Integer$IntegerCache" "high" "I" (.int (127 : Int32))) (S_cache : Sta Z Z.heap "java/lang/Integer$IntegerCache" "cache" "[Ljava/lang/Integer;" (.ref ca)) (BX : Bxs Z ca cc "java/lang/Integer" "I" (256 : Int32) (fun j => .int (j - (128 : Int32)))) (X00 : Old Z n0 h0) (hheld : Jvm.Lit.constHeld Z "java/lang/String" 7) (hcw : Jvm.Lit.compactW.before a0 Z = true) :
    MetFree l x (head1 (Jvm.Cond.code x code maxLocals ret :: ws) room_1) (fun a U => a = #[(.int p0), (.int p1), (.int p2), (.int p3), (.int p4)] ∧ Z.Warmed39 U.vm ∧ U.heap = h0 ∧ own_CH Z U.vm h0) (fun _ _ _ _ _ => True) (fun _ U o U' => ∃ v L, o = .returned v ∧ Q0 Z p0 p1 p2 p3 p4 zC ca cc h0 n0 v U'.vm U'.heap L ∧ ReturnedEndW U o U' L room_1.cells room_1.slots) := by
  refine MetFree.of_bodySF (plainFor_of_name pn_0) hisR ?_
  intro p e s m args below meth c s₁ Bd hml0 hP hK
  obtain ⟨rfl, hZ, hh, hCH⟩ := hP
  have w_0 := hw _ (List.mem_of_getElem? (i := 0) rfl)
  have w_1 := hw _ (List.mem_of_getElem? (i := 1) rfl)
  have w_2 := hw _ (List.mem_of_getElem? (i := 2) rfl)
  have w_3 := hw _ (List.mem_of_getElem? (i := 3) rfl)
  have w_5 := hw _ (List.mem_of_getElem? (i := 5) rfl)
  have w_26 := hw _ (List.mem_of_getElem? (i := 26) rfl)
  have w_27 := hw _ (List.mem_of_getElem? (i := 27) rfl)
  have w_28 := hw _ (List.mem_of_getElem? (i := 28) rfl)
  have w_29 := hw _ (List.mem_of_getElem? (i := 29) rfl)
  have w_30 := hw _ (List.mem_of_getElem? (i := 30) rfl)
  have w_31 := hw _ (List.mem_of_getElem? (i := 31) rfl)
  have w_34 := hw _ (List.mem_of_getElem? (i := 34) rfl)
  have w_36 := hw _ (List.mem_of_getElem? (i := 36) rfl)
  have w_37 := hw _ (List.mem_of_getElem? (i := 37) rfl)
  have w_38 := hw _ (List.mem_of_getElem? (i := 38) rfl)
  have w_39 := hw _ (List.mem_of_getElem? (i := 39) rfl)
  have w_40 := hw _ (List.mem_of_getElem? (i := 40) rfl)
  have w_41 := hw _ (List.mem_of_getElem? (i := 41) rfl)
  have w_45 := hw _ (List.mem_of_getElem? (i := 45) rfl)
  have w_46 := hw _ (List.mem_of_getElem? (i := 46) rfl)
  have w_47 := hw _ (List.mem_of_getElem? (i := 47) rfl)
  have w_49 := hw _ (List.mem_of_getElem? (i := 49) rfl)
  have w_66 := hw _ (List.mem_of_getElem? (i := 66) rfl)
  have w_67 := hw _ (List.mem_of_getElem? (i := 67) rfl)
  have w_68 := hw _ (List.mem_of_getElem? (i := 68) rfl)
  have w_69 := hw _ (List.mem_of_getElem? (i := 69) rfl)
  have hx := Bd.exec
  have hby := Bd.bytes
  have hml : c.maxLocals = 17 := hml0
  have hown : s.vm.findClass "com/example/topicd/topicd/message/TopicQueueEqualsPinLaw" = some m.cls := findClass_of_methodNamed Bd.named
  have hnm := (name_of_methodNamed Bd.named Bd.method).1
  have X0 : Stand p l e room_1 s m #[(.int p0), (.int p1), (.int p2), (.int p3), (.int p4)] below meth c s₁ [] 0 0 := Stand.of_body Bd
  have e0 : s₁.heap = h0 := by rw [← hh, Bd.state]; rfl
  have N0 := Fr.nil n0
  have K0 : Keep h0 h0 [] := Keep.refl h0 _
  refine (?_ : GoesW p e below s room_1.cells room_1.slots (fun v vm h L => Q0 Z p0 p1 p2 p3 p4 zC ca cc h0 n0 v vm h L) (s₁.setTop (entryFrame m #[(.int p0), (.int p1), (.int p2), (.int p3), (.int p4)] maxLocals)))
  rw [ef_0 m p0 p1 p2 p3 p4 zC ca cc ]
  have hws : ∀ d ∈ StrChars.Road.words, d.before a0 Z = true := fun d hd => hw d ((by decide +kernel : ∀ d ∈ StrChars.Road.words, d ∈ tables_1) d hd)
  have hwe : ∀ d ∈ StrChars.Road.wordsEq, d.before a0 Z = true := fun d hd => hw d ((by decide +kernel : ∀ d ∈ StrChars.Road.wordsEq, d ∈ tables_1) d hd)
  show GoesW _ _ _ _ _ _ _ (s₁.setTop (mkF m 0 #[.val (.int p0), .val (.int p1), .val (.int p2), .val (.int p3), .val (.int p4), .unset, .unset, .unset, .unset, .unset, .unset, .unset, .unset, .unset, .unset, .unset, .unset] []))
  refine GoesW.step (fun _ k => XS.iloadN X0.here hx rfl (hb hby at_0) rfl  k) ?_
  refine GoesW.step (fun _ k => XS.bipush X0.here hx rfl (hb hby at_1) k) ?_
  refine GoesW.step (fun _ k => XS.iushr X0.here hx rfl (hb hby at_3) rfl k) ?_
  show GoesW _ _ _ _ _ _ _ (s₁.setTop (mkF m 4 _ [(.int ((p0.toUInt32 >>> ((24 : Int32) &&& 31).toUInt32).toInt32))]))
  refine GoesW.step (fun _ k => XS.iconst X0.here hx rfl (hb hby at_4) k) ?_
  refine GoesW.step (fun _ k => XS.iand X0.here hx rfl (hb hby at_5) rfl k) ?_
  show GoesW _ _ _ _ _ _ _ (s₁.setTop (mkF m 6 _ [(.int (((p0.toUInt32 >>> ((24 : Int32) &&& 31).toUInt32).toInt32) &&& (3 : Int32)))]))
  refine GoesW.step (fun _ k => XS.istore X0.here hx rfl (hb hby at_6) rfl (l' := #[.val (.int p0), .val (.int p1), .val (.int p2), .val (.int p3), .val (.int p4), .val (.int (((p0.toUInt32 >>> ((24 : Int32) &&& 31).toUInt32).toInt32) &&& (3 : Int32))), .unset, .unset, .unset, .unset, .unset, .unset, .unset, .unset, .unset, .unset, .unset]) rfl k) ?_
  show GoesW _ _ _ _ _ _ _ (s₁.setTop (mkF m 8 _ []))
  refine GoesW.step (fun _ k => XS.iload X0.here hx rfl (hb hby at_8) rfl  k) ?_
  refine GoesW.step (fun _ k => XS.iconst X0.here hx rfl (hb hby at_10) k) ?_
  refine GoesW.step (fun _ k => XS.iand X0.here hx rfl (hb hby at_11) rfl k) ?_
  show GoesW _ _ _ _ _ _ _ (s₁.setTop (mkF m 12 _ [(.int (p4 &&& (1 : Int32)))]))
  by_cases c12_1 : (p4 &&& (1 : Int32)) = (0 : Int32)
  · refine GoesW.step (fun _ k => XS.ifYes X0.here hx rfl (pc0 := 12) (pc' := 19) rfl (hb hby at_12) rfl ((if0 _ _).trans (teq c12_1).1) (by decide) (by decide) k) ?_
    show GoesW _ _ _ _ _ _ _ (s₁.setTop (mkF m 19 _ []))
    refine GoesW.step (fun _ k => XS.iconst X0.here hx rfl (hb hby at_19) k) ?_
    refine GoesW.step (fun _ k => XS.istore X0.here hx rfl (hb hby at_20) rfl (l' := #[.val (.int p0), .val (.int p1), .val (.int p2), .val (.int p3), .val (.int p4), .val (.int (((p0.toUInt32 >>> ((24 : Int32) &&& 31).toUInt32).toInt32) &&& (3 : Int32))), .val (.int (0 : Int32)), .unset, .unset, .unset, .unset, .unset, .unset, .unset, .unset, .unset, .unset]) rfl k) ?_
    show GoesW _ _ _ _ _ _ _ (s₁.setTop (mkF m 22 _ []))
    refine GoesW.step (fun _ k => XS.iload X0.here hx rfl (hb hby at_22) rfl  k) ?_
    refine GoesW.step (fun _ k => XS.ifYes X0.here hx rfl (pc0 := 24) (pc' := 31) rfl (hb hby at_24) rfl ((if0 _ _).trans (teq (by decide : (0 : Int32) = (0 : Int32))).1) (by decide) (by decide) k) ?_
    show GoesW _ _ _ _ _ _ _ (s₁.setTop (mkF m 31 #[.val (.int p0), .val (.int p1), .val (.int p2), .val (.int p3), .val (.int p4), .val (.int (((p0.toUInt32 >>> ((24 : Int32) &&& 31).toUInt32).toInt32) &&& (3 : Int32))), .val (.int (0 : Int32)), .unset, .unset, .unset, .unset, .unset, .unset, .unset, .unset, .unset, .unset] []))
    refine GoesW.step (fun _ k => XS.iloadN X0.here hx rfl (hb hby at_31) rfl  k) ?_
    refine GoesW.step (fun _ k => XS.istore X0.here hx rfl (hb hby at_32) rfl (l' := #[.val (.int p0), .val (.int p1), .val (.int p2), .val (.int p3), .val (.int p4), .val (.int (((p0.toUInt32 >>> ((24 : Int32) &&& 31).toUInt32).toInt32) &&& (3 : Int32))), .val (.int (0 : Int32)), .val (.int p1), .unset, .unset, .unset, .unset, .unset, .unset, .unset, .unset, .unset]) rfl k) ?_
    show GoesW _ _ _ _ _ _ _ (s₁.setTop (mkF m 34 _ []))
    refine GoesW.step (fun _ k => XS.iload X0.here hx rfl (hb hby at_34) rfl  k) ?_
    refine GoesW.step (fun _ k => XS.ifYes X0.here hx rfl (pc0 := 36) (pc' := 44) rfl (hb hby at_36) rfl ((if0 _ _).trans (teq (by decide : (0 : Int32) = (0 : Int32))).1) (by decide) (by decide) k) ?_
    show GoesW _ _ _ _ _ _ _ (s₁.setTop (mkF m 44 _ []))
    refine GoesW.step (fun _ k => XS.iloadN X0.here hx rfl (hb hby at_44) rfl  k) ?_
    refine GoesW.step (fun _ k => XS.bipush X0.here hx rfl (hb hby at_45) k) ?_
    refine GoesW.step (fun _ k => XS.iushr X0.here hx rfl (hb hby at_47) rfl k) ?_
    show GoesW _ _ _ _ _ _ _ (s₁.setTop (mkF m 48 _ [(.int ((p1.toUInt32 >>> ((24 : Int32) &&& 31).toUInt32).toInt32))]))
    refine GoesW.step (fun _ k => XS.iconst X0.here hx rfl (hb hby at_48) k) ?_
    refine GoesW.step (fun _ k => XS.iand X0.here hx rfl (hb hby at_49) rfl k) ?_
    show GoesW _ _ _ _ _ _ _ (s₁.setTop (mkF m 50 _ [(.int (((p1.toUInt32 >>> ((24 : Int32) &&& 31).toUInt32).toInt32) &&& (3 : Int32)))]))
    refine GoesW.step (fun _ k => XS.istore X0.here hx rfl (hb hby at_50) rfl (l' := #[.val (.int p0), .val (.int p1), .val (.int p2), .val (.int p3), .val (.int p4), .val (.int (((p0.toUInt32 >>> ((24 : Int32) &&& 31).toUInt32).toInt32) &&& (3 : Int32))), .val (.int (0 : Int32)), .val (.int p1), .val (.int (((p1.toUInt32 >>> ((24 : Int32) &&& 31).toUInt32).toInt32) &&& (3 : Int32))), .unset, .unset, .unset, .unset, .unset, .unset, .unset, .unset]) rfl k) ?_
    show GoesW _ _ _ _ _ _ _ (s₁.setTop (mkF m 52 _ []))
    refine GoesW.step (fun _ k => XS.iload X0.here hx rfl (hb hby at_52) rfl  k) ?_
    refine GoesW.step (fun _ k => XS.iconst X0.here hx rfl (hb hby at_54) k) ?_
    refine GoesW.step (fun _ k => XS.iand X0.here hx rfl (hb hby at_55) rfl k) ?_
    show GoesW _ _ _ _ _ _ _ (s₁.setTop (mkF m 56 _ [(.int (p4 &&& (4 : Int32)))]))
    by_cases c56_2 : (p4 &&& (4 : Int32)) = (0 : Int32)
    · refine GoesW.step (fun _ k => XS.ifYes X0.here hx rfl (pc0 := 56) (pc' := 63) rfl (hb hby at_56) rfl ((if0 _ _).trans (teq c56_2).1) (by decide) (by decide) k) ?_
      show GoesW _ _ _ _ _ _ _ (s₁.setTop (mkF m 63 #[.val (.int p0), .val (.int p1), .val (.int p2), .val (.int p3), .val (.int p4), .val (.int (((p0.toUInt32 >>> ((24 : Int32) &&& 31).toUInt32).toInt32) &&& (3 : Int32))), .val (.int (0 : Int32)), .val (.int p1), .val (.int (((p1.toUInt32 >>> ((24 : Int32) &&& 31).toUInt32).toInt32) &&& (3 : Int32))), .unset, .unset, .unset, .unset, .unset, .unset, .unset, .unset] []))
      refine GoesW.step (fun _ k => XS.iloadN X0.here hx rfl (hb hby at_63) rfl  k) ?_
      refine GoesW.step (fun _ k => XS.istore X0.here hx rfl (hb hby at_64) rfl (l' := #[.val (.int p0), .val (.int p1), .val (.int p2), .val (.int p3), .val (.int p4), .val (.int (((p0.toUInt32 >>> ((24 : Int32) &&& 31).toUInt32).toInt32) &&& (3 : Int32))), .val (.int (0 : Int32)), .val (.int p1), .val (.int (((p1.toUInt32 >>> ((24 : Int32) &&& 31).toUInt32).toInt32) &&& (3 : Int32))), .val (.int p3), .unset, .unset, .unset, .unset, .unset, .unset, .unset]) rfl k) ?_
      show GoesW _ _ _ _ _ _ _ (s₁.setTop (mkF m 66 _ []))
      refine GoesW.step (fun _ k => XS.iload X0.here hx rfl (hb hby at_66) rfl  k) ?_
      refine GoesW.step (fun _ k => XS.iconst X0.here hx rfl (hb hby at_68) k) ?_
      refine GoesW.step (fun _ k => XS.iushr X0.here hx rfl (hb hby at_69) rfl k) ?_
      show GoesW _ _ _ _ _ _ _ (s₁.setTop (mkF m 70 _ [(.int ((p4.toUInt32 >>> ((3 : Int32) &&& 31).toUInt32).toInt32))]))
      refine GoesW.step (fun _ k => XS.iconst X0.here hx rfl (hb hby at_70) k) ?_
      refine GoesW.step (fun _ k => XS.iand X0.here hx rfl (hb hby at_71) rfl k) ?_
      show GoesW _ _ _ _ _ _ _ (s₁.setTop (mkF m 72 _ [(.int (((p4.toUInt32 >>> ((3 : Int32) &&& 31).toUInt32).toInt32) &&& (3 : Int32)))]))
      refine GoesW.step (fun _ k => XS.istore X0.here hx rfl (hb hby at_72) rfl (l' := #[.val (.int p0), .val (.int p1), .val (.int p2), .val (.int p3), .val (.int p4), .val (.int (((p0.toUInt32 >>> ((24 : Int32) &&& 31).toUInt32).toInt32) &&& (3 : Int32))), .val (.int (0 : Int32)), .val (.int p1), .val (.int (((p1.toUInt32 >>> ((24 : Int32) &&& 31).toUInt32).toInt32) &&& (3 : Int32))), .val (.int p3), .val (.int (((p4.toUInt32 >>> ((3 : Int32) &&& 31).toUInt32).toInt32) &&& (3 : Int32))), .unset, .unset, .unset, .unset, .unset, .unset]) rfl k) ?_
      show GoesW _ _ _ _ _ _ _ (s₁.setTop (mkF m 74 _ []))
      refine GoesW.step (fun _ k => XS.iloadN X0.here hx rfl (hb hby at_74) rfl  k) ?_
      refine GoesW.step (fun _ k => XS.iload X0.here hx rfl (hb hby at_75) rfl  k) ?_
      obtain ⟨_, _, ⟨T3, L3, k3, n3⟩, -, X3, hs3, hg3, ⟨Lc3, hQ3, l3, y3, z3⟩, st3⟩ := callSS X0 hx (y := (⟨"com/example/topicd/topicd/message/TopicQueueEqualsPinLaw", "str", "(II)Ljava/lang/String;"⟩ : MethodName)) hown (mvT hZ w_0) (mvT hZ w_1) (mvT hZ w_2) (mvT hZ w_3) (by decide) (own_backS (W := 0) (rm1 l Z a0 hw [] p0 (((p0.toUInt32 >>> ((24 : Int32) &&& 31).toUInt32).toInt32) &&& (3 : Int32)) zC h0 n0 Z0 S_CS P5 X00 hheld hcw) hZ w_3 w_2 (by decide) (by decide)) (g := (mkF m 77 #[.val (.int p0), .val (.int p1), .val (.int p2), .val (.int p3), .val (.int p4), .val (.int (((p0.toUInt32 >>> ((24 : Int32) &&& 31).toUInt32).toInt32) &&& (3 : Int32))), .val (.int (0 : Int32)), .val (.int p1), .val (.int (((p1.toUInt32 >>> ((24 : Int32) &&& 31).toUInt32).toInt32) &&& (3 : Int32))), .val (.int p3), .val (.int (((p4.toUInt32 >>> ((3 : Int32) &&& 31).toUInt32).toInt32) &&& (3 : Int32))), .unset, .unset, .unset, .unset, .unset, .unset] [(.int (((p0.toUInt32 >>> ((24 : Int32) &&& 31).toUInt32).toInt32) &&& (3 : Int32))), (.int p0)])) rfl (by rw [hml]; rfl) (argsL := [(.int p0), (.int (((p0.toUInt32 >>> ((24 : Int32) &&& 31).toUInt32).toInt32) &&& (3 : Int32)))]) (rest := []) (lenOf pd_0 rfl) rfl (by show 2 * 0 + _ ≤ _; exact Nat.le_of_eq rfl) (hb hby at_77) (fun _ hWc => ⟨rfl, e0, (by decide : 0 + 4 ≤ _), (by decide : 0 + 10 ≤ _), own_CH.warm (s := s) hCH hWc⟩)
      dsimp only [Pt.U, Pt.locs, Pt.cells, Pt.slots] at X3 l3 y3 z3 st3 hQ3 hs3 hg3
      rw [l3, y3, z3] at X3
      have XX3 := X3
      have hS3 := hs3
      have hZ : Z.Warmed39 (s.setVm T3.vm).vm := State.Warmed39.trans (t := s) hZ hs3.1
      have hown : (s.setVm T3.vm).vm.findClass "com/example/topicd/topicd/message/TopicQueueEqualsPinLaw" = some m.cls := (hs3.1.alike.findClass _ _).trans hown
      obtain ⟨N3, KK3, CH3, r3, cs3, rfl, g_r3, le_r3, SS3⟩ := hQ3
      have NA3 := Fr.app N0 N3
      have sz_r3 : h0.size ≤ r3 := Nat.le_trans K0.1 le_r3
      have XO4 : Old Z n0 T3.heap := X00.keep KK3 all0
      have K5 : Keep h0 T3.heap [] := K0.trans KK3 all0
      have Z5 : n0 ≤ T3.heap.size := Nat.le_trans Z0 KK3.1
      have ES3 := SS3.exa
      refine GoesW.back st3 ?_
      show GoesW _ _ _ _ _ _ _ (T3.setTop (mkF m 80 _ [(.ref r3)]))
      refine GoesW.step (fun _ k => XS.astore XX3.here hx rfl (hb hby at_80) rfl rfl (l' := #[.val (.int p0), .val (.int p1), .val (.int p2), .val (.int p3), .val (.int p4), .val (.int (((p0.toUInt32 >>> ((24 : Int32) &&& 31).toUInt32).toInt32) &&& (3 : Int32))), .val (.int (0 : Int32)), .val (.int p1), .val (.int (((p1.toUInt32 >>> ((24 : Int32) &&& 31).toUInt32).toInt32) &&& (3 : Int32))), .val (.int p3), .val (.int (((p4.toUInt32 >>> ((3 : Int32) &&& 31).toUInt32).toInt32) &&& (3 : Int32))), .val (.ref r3), .unset, .unset, .unset, .unset, .unset]) rfl k) ?_
      show GoesW _ _ _ _ _ _ _ (T3.setTop (mkF m 82 _ []))
      refine GoesW.step (fun _ k => XS.iload XX3.here hx rfl (hb hby at_82) rfl  k) ?_
      refine GoesW.step (fun _ k => XS.iload XX3.here hx rfl (hb hby at_84) rfl  k) ?_
      obtain ⟨_, _, ⟨T6, L6, k6, n6⟩, -, X6, hs6, hg6, ⟨Lc6, hQ6, l6, y6, z6⟩, st6⟩ := callSS XX3 hx (y := (⟨"com/example/topicd/topicd/message/TopicQueueEqualsPinLaw", "str", "(II)Ljava/lang/String;"⟩ : MethodName)) hown (mvT hZ w_0) (mvT hZ w_1) (mvT hZ w_2) (mvT hZ w_3) (by decide) (own_backS (W := 0) (rm1 l Z a0 hw [] p1 (((p1.toUInt32 >>> ((24 : Int32) &&& 31).toUInt32).toInt32) &&& (3 : Int32)) zC T3.heap n0 Z5 S_CS P5 XO4 hheld hcw) hZ w_3 w_2 (by decide) (by decide)) (g := (mkF m 86 #[.val (.int p0), .val (.int p1), .val (.int p2), .val (.int p3), .val (.int p4), .val (.int (((p0.toUInt32 >>> ((24 : Int32) &&& 31).toUInt32).toInt32) &&& (3 : Int32))), .val (.int (0 : Int32)), .val (.int p1), .val (.int (((p1.toUInt32 >>> ((24 : Int32) &&& 31).toUInt32).toInt32) &&& (3 : Int32))), .val (.int p3), .val (.int (((p4.toUInt32 >>> ((3 : Int32) &&& 31).toUInt32).toInt32) &&& (3 : Int32))), .val (.ref r3), .unset, .unset, .unset, .unset, .unset] [(.int (((p1.toUInt32 >>> ((24 : Int32) &&& 31).toUInt32).toInt32) &&& (3 : Int32))), (.int p1)])) rfl (by rw [hml]; rfl) (argsL := [(.int p1), (.int (((p1.toUInt32 >>> ((24 : Int32) &&& 31).toUInt32).toInt32) &&& (3 : Int32)))]) (rest := []) (lenOf pd_0 rfl) rfl (by show 2 * 0 + _ ≤ _; exact Nat.le_of_eq rfl) (hb hby at_86) (fun _ hWc => ⟨rfl, rfl, (by decide : 4 + 4 ≤ _), (by decide : 10 + 10 ≤ _), own_CH.warm (s := (s.setVm T3.vm)) CH3 hWc⟩)
      dsimp only [Pt.U, Pt.locs, Pt.cells, Pt.slots] at X6 l6 y6 z6 st6 hQ6 hs6 hg6
      rw [l6, y6, z6] at X6
      obtain ⟨XX6, hS6⟩ := Stand.againW X6 hS3 hs6 (Nat.le_trans (Nat.le_refl _) hg6)
      have hZ : Z.Warmed39 (s.setVm T6.vm).vm := State.Warmed39.trans (t := (s.setVm T3.vm)) hZ hs6.1
      have hown : (s.setVm T6.vm).vm.findClass "com/example/topicd/topicd/message/TopicQueueEqualsPinLaw" = some m.cls := (hs6.1.alike.findClass _ _).trans hown
      obtain ⟨N6, KK6, CH6, r6, cs6, rfl, g_r6, le_r6, SS6⟩ := hQ6
      have NA6 := Fr.app NA3 N6
      have ne7 : r3 ≠ r6 := Nat.ne_of_lt (Nat.lt_of_lt_of_le SS3.lt le_r6)
      have sz_r6 : h0.size ≤ r6 := Nat.le_trans K5.1 le_r6
      have XO8 : Old Z n0 T6.heap := XO4.keep KK6 all0
      have f9 := SS3.keep0 KK6
      have f10 := ES3.keep KK6
      have K11 : Keep h0 T6.heap [] := K5.trans KK6 all0
      have Z11 : n0 ≤ T6.heap.size := Nat.le_trans Z5 KK6.1
      have ES6 := SS6.exa
      refine GoesW.back st6 ?_
      show GoesW _ _ _ _ _ _ _ (T6.setTop (mkF m 89 #[.val (.int p0), .val (.int p1), .val (.int p2), .val (.int p3), .val (.int p4), .val (.int (((p0.toUInt32 >>> ((24 : Int32) &&& 31).toUInt32).toInt32) &&& (3 : Int32))), .val (.int (0 : Int32)), .val (.int p1), .val (.int (((p1.toUInt32 >>> ((24 : Int32) &&& 31).toUInt32).toInt32) &&& (3 : Int32))), .val (.int p3), .val (.int (((p4.toUInt32 >>> ((3 : Int32) &&& 31).toUInt32).toInt32) &&& (3 : Int32))), .val (.ref r3), .unset, .unset, .unset, .unset, .unset] [(.ref r6)]))
      refine GoesW.step (fun _ k => XS.astore XX6.here hx rfl (hb hby at_89) rfl rfl (l' := #[.val (.int p0), .val (.int p1), .val (.int p2), .val (.int p3), .val (.int p4), .val (.int (((p0.toUInt32 >>> ((24 : Int32) &&& 31).toUInt32).toInt32) &&& (3 : Int32))), .val (.int (0 : Int32)), .val (.int p1), .val (.int (((p1.toUInt32 >>> ((24 : Int32) &&& 31).toUInt32).toInt32) &&& (3 : Int32))), .val (.int p3), .val (.int (((p4.toUInt32 >>> ((3 : Int32) &&& 31).toUInt32).toInt32) &&& (3 : Int32))), .val (.ref r3), .val (.ref r6), .unset, .unset, .unset, .unset]) rfl k) ?_
      show GoesW _ _ _ _ _ _ _ (T6.setTop (mkF m 91 _ []))
      obtain ⟨T12, h12, X12, e12, E12, A12, D12, -, st12⟩ := newO XX6 hx hZ hown w_26 w_27 w_28 rfl (g := (mkF m 91 #[.val (.int p0), .val (.int p1), .val (.int p2), .val (.int p3), .val (.int p4), .val (.int (((p0.toUInt32 >>> ((24 : Int32) &&& 31).toUInt32).toInt32) &&& (3 : Int32))), .val (.int (0 : Int32)), .val (.int p1), .val (.int (((p1.toUInt32 >>> ((24 : Int32) &&& 31).toUInt32).toInt32) &&& (3 : Int32))), .val (.int p3), .val (.int (((p4.toUInt32 >>> ((3 : Int32) &&& 31).toUInt32).toInt32) &&& (3 : Int32))), .val (.ref r3), .val (.ref r6), .unset, .unset, .unset, .unset] [])) rfl (hb hby at_91) (by decide) (by decide)
      obtain ⟨b12, g12⟩ : ∃ z, z = T6.heap.size := ⟨_, rfl⟩
      rw [← g12] at A12 D12 st12
      refine GoesW.step st12 ?_
      have g_b12 : n0 ≤ b12 := Nat.le_trans Z11 (Nat.le_of_eq g12.symm)
      have sz_b12 : h0.size ≤ b12 := Nat.le_trans K11.1 (Nat.le_of_eq g12.symm)
      have ne13 : r3 ≠ b12 := Nat.ne_of_lt (Nat.lt_of_lt_of_le f9.lt (Nat.le_of_eq g12.symm))
      have ne14 : r6 ≠ b12 := Nat.ne_of_lt (Nat.lt_of_lt_of_le SS6.lt (Nat.le_of_eq g12.symm))
      have XO15 : Old Z n0 h12 := XO8.ext E12
      have f16 := f9.ext E12
      have f17 := f10.ext E12
      have f18 := SS6.ext E12
      have f19 := ES6.ext E12
      have K20 : Keep h0 h12 [] := K11.ext E12
      have Z20 : n0 ≤ h12.size := Nat.le_trans Z11 E12.1
      have ZS20 : T6.heap.size ≤ h12.size := Nat.le_trans (Nat.le_refl _) E12.1
      have E_b12 := A12
      have F_topic_b12 : Fld Z h12 b12 "com/example/topicd/topicd/message/TopicQueue" "topic" "Ljava/lang/String;" .null := D12 (Or.inr w_34) (ty := (.object "java/lang/String")) (by decide)
      have F_queueId_b12 : Fld Z h12 b12 "com/example/topicd/topicd/message/TopicQueue" "queueId" "I" (.int (0 : Int32)) := D12 (Or.inr w_36) (ty := .int) (by decide)
      show GoesW _ _ _ _ _ _ _ (T12.setTop (mkF m 94 _ [(.ref b12)]))
      refine GoesW.step (fun _ k => XS.dup X12.here hx rfl (hb hby at_94) rfl rfl k) ?_
      refine GoesW.step (fun _ k => XS.aload X12.here hx rfl (hb hby at_95) rfl rfl k) ?_
      refine GoesW.step (fun _ k => XS.iloadN X12.here hx rfl (hb hby at_97) rfl  k) ?_
      obtain ⟨_, _, ⟨T21, L21, k21, n21⟩, -, X21, ⟨Lc21, hQ21, l21, y21, z21⟩, st21⟩ := X12.specialBack hx (y := (⟨"com/example/topicd/topicd/message/TopicQueue", "<init>", "(Ljava/lang/String;I)V"⟩ : MethodName)) rfl hown (mvT hZ w_29) (mvT hZ w_30) (mvT hZ w_31) (by decide) (backOf (W := 1) (rm5 l Z a0 hw [] b12 r3 p2 h12 n0 Z20 F_topic_b12 F_queueId_b12 E_b12 g_b12) hZ w_31 w_28 (by decide) (by decide)) (g := (mkF m 98 #[.val (.int p0), .val (.int p1), .val (.int p2), .val (.int p3), .val (.int p4), .val (.int (((p0.toUInt32 >>> ((24 : Int32) &&& 31).toUInt32).toInt32) &&& (3 : Int32))), .val (.int (0 : Int32)), .val (.int p1), .val (.int (((p1.toUInt32 >>> ((24 : Int32) &&& 31).toUInt32).toInt32) &&& (3 : Int32))), .val (.int p3), .val (.int (((p4.toUInt32 >>> ((3 : Int32) &&& 31).toUInt32).toInt32) &&& (3 : Int32))), .val (.ref r3), .val (.ref r6), .unset, .unset, .unset, .unset] [(.int p2), (.ref r3), (.ref b12), (.ref b12)])) rfl (by rw [hml]; rfl) (Steps.refl _) (a := b12) (argsL := [(.ref r3), (.int p2)]) (rest := [(.ref b12)]) (lenOf pd_4 rfl) rfl (by show 2 * 0 + _ ≤ _; exact Nat.le_of_eq rfl) (hb hby at_98) (fun _ _ => ⟨rfl, e12, (by decide : 9 + 0 ≤ _), (by decide : 22 + 0 ≤ _)⟩)
      dsimp only [Pt.U, Pt.locs, Pt.cells, Pt.slots] at X21 l21 y21 z21 st21 hQ21
      rw [l21, y21, z21] at X21
      obtain ⟨N21, KK21, hR21⟩ := hQ21
      have NA21 := Fr.app NA6 N21
      have XO22 : Old Z n0 T21.heap := XO15.keep KK21 (allS g_b12 all0)
      have f23 := f16.keepT KK21 E_b12 w_27 (by decide)
      have f24 := f17.keep KK21
      have f25 := f18.keepT KK21 E_b12 w_27 (by decide)
      have f26 := f19.keep KK21
      have f27 := E_b12.keep KK21
      have K30 : Keep h0 T21.heap [] := K20.trans KK21 (allS (Or.inr sz_b12) all0)
      have Z30 : n0 ≤ T21.heap.size := Nat.le_trans Z20 KK21.1
      have ZS30 : T6.heap.size ≤ T21.heap.size := Nat.le_trans ZS20 KK21.1
      obtain ⟨rfl, v21_0_0, v21_0_1, v21_0_2⟩ := hR21
      refine GoesW.back st21 ?_
      show GoesW _ _ _ _ _ _ _ (T21.setTop (mkF m 101 _ [(.ref b12)]))
      refine GoesW.step (fun _ k => XS.astore X21.here hx rfl (hb hby at_101) rfl rfl (l' := #[.val (.int p0), .val (.int p1), .val (.int p2), .val (.int p3), .val (.int p4), .val (.int (((p0.toUInt32 >>> ((24 : Int32) &&& 31).toUInt32).toInt32) &&& (3 : Int32))), .val (.int (0 : Int32)), .val (.int p1), .val (.int (((p1.toUInt32 >>> ((24 : Int32) &&& 31).toUInt32).toInt32) &&& (3 : Int32))), .val (.int p3), .val (.int (((p4.toUInt32 >>> ((3 : Int32) &&& 31).toUInt32).toInt32) &&& (3 : Int32))), .val (.ref r3), .val (.ref r6), .val (.ref b12), .unset, .unset, .unset]) rfl k) ?_
      show GoesW _ _ _ _ _ _ _ (T21.setTop (mkF m 103 _ []))
      obtain ⟨T31, h31, X31, e31, E31, A31, D31, -, st31⟩ := newO X21 hx hZ hown w_26 w_27 w_28 rfl (g := (mkF m 103 #[.val (.int p0), .val (.int p1), .val (.int p2), .val (.int p3), .val (.int p4), .val (.int (((p0.toUInt32 >>> ((24 : Int32) &&& 31).toUInt32).toInt32) &&& (3 : Int32))), .val (.int (0 : Int32)), .val (.int p1), .val (.int (((p1.toUInt32 >>> ((24 : Int32) &&& 31).toUInt32).toInt32) &&& (3 : Int32))), .val (.int p3), .val (.int (((p4.toUInt32 >>> ((3 : Int32) &&& 31).toUInt32).toInt32) &&& (3 : Int32))), .val (.ref r3), .val (.ref r6), .val (.ref b12), .unset, .unset, .unset] [])) rfl (hb hby at_103) (by decide) (by decide)
      obtain ⟨b31, g31⟩ : ∃ z, z = T21.heap.size := ⟨_, rfl⟩
      rw [← g31] at A31 D31 st31
      refine GoesW.step st31 ?_
      have g_b31 : n0 ≤ b31 := Nat.le_trans Z30 (Nat.le_of_eq g31.symm)
      have sz_b31 : h0.size ≤ b31 := Nat.le_trans K30.1 (Nat.le_of_eq g31.symm)
      have ne32 : r3 ≠ b31 := Nat.ne_of_lt (Nat.lt_of_lt_of_le f23.lt (Nat.le_of_eq g31.symm))
      have ne33 : r6 ≠ b31 := Nat.ne_of_lt (Nat.lt_of_lt_of_le f25.lt (Nat.le_of_eq g31.symm))
      have ne34 : b12 ≠ b31 := Nat.ne_of_lt (Nat.lt_of_lt_of_le v21_0_2.lt (Nat.le_of_eq g31.symm))
      have XO35 : Old Z n0 h31 := XO22.ext E31
      have f36 := f23.ext E31
      have f37 := f24.ext E31
      have f38 := f25.ext E31
      have f39 := f26.ext E31
      have f40 := v21_0_2.ext E31
      have f41 := v21_0_0.ext E31
      have f42 := v21_0_1.ext E31
      have K43 : Keep h0 h31 [] := K30.ext E31
      have Z43 : n0 ≤ h31.size := Nat.le_trans Z30 E31.1
      have ZS43 : T6.heap.size ≤ h31.size := Nat.le_trans ZS30 E31.1
      have E_b31 := A31
      have F_topic_b31 : Fld Z h31 b31 "com/example/topicd/topicd/message/TopicQueue" "topic" "Ljava/lang/String;" .null := D31 (Or.inr w_34) (ty := (.object "java/lang/String")) (by decide)
      have F_queueId_b31 : Fld Z h31 b31 "com/example/topicd/topicd/message/TopicQueue" "queueId" "I" (.int (0 : Int32)) := D31 (Or.inr w_36) (ty := .int) (by decide)
      show GoesW _ _ _ _ _ _ _ (T31.setTop (mkF m 106 _ [(.ref b31)]))
      refine GoesW.step (fun _ k => XS.dup X31.here hx rfl (hb hby at_106) rfl rfl k) ?_
      refine GoesW.step (fun _ k => XS.aload X31.here hx rfl (hb hby at_107) rfl rfl k) ?_
      refine GoesW.step (fun _ k => XS.iload X31.here hx rfl (hb hby at_109) rfl  k) ?_
      obtain ⟨_, _, ⟨T44, L44, k44, n44⟩, -, X44, ⟨Lc44, hQ44, l44, y44, z44⟩, st44⟩ := X31.specialBack hx (y := (⟨"com/example/topicd/topicd/message/TopicQueue", "<init>", "(Ljava/lang/String;I)V"⟩ : MethodName)) rfl hown (mvT hZ w_29) (mvT hZ w_30) (mvT hZ w_31) (by decide) (backOf (W := 1) (rm5 l Z a0 hw [] b31 r6 p3 h31 n0 Z43 F_topic_b31 F_queueId_b31 E_b31 g_b31) hZ w_31 w_28 (by decide) (by decide)) (g := (mkF m 111 #[.val (.int p0), .val (.int p1), .val (.int p2), .val (.int p3), .val (.int p4), .val (.int (((p0.toUInt32 >>> ((24 : Int32) &&& 31).toUInt32).toInt32) &&& (3 : Int32))), .val (.int (0 : Int32)), .val (.int p1), .val (.int (((p1.toUInt32 >>> ((24 : Int32) &&& 31).toUInt32).toInt32) &&& (3 : Int32))), .val (.int p3), .val (.int (((p4.toUInt32 >>> ((3 : Int32) &&& 31).toUInt32).toInt32) &&& (3 : Int32))), .val (.ref r3), .val (.ref r6), .val (.ref b12), .unset, .unset, .unset] [(.int p3), (.ref r6), (.ref b31), (.ref b31)])) rfl (by rw [hml]; rfl) (Steps.refl _) (a := b31) (argsL := [(.ref r6), (.int p3)]) (rest := [(.ref b31)]) (lenOf pd_4 rfl) rfl (by show 2 * 0 + _ ≤ _; exact Nat.le_of_eq rfl) (hb hby at_111) (fun _ _ => ⟨rfl, e31, (by decide : 10 + 0 ≤ _), (by decide : 24 + 0 ≤ _)⟩)
      dsimp only [Pt.U, Pt.locs, Pt.cells, Pt.slots] at X44 l44 y44 z44 st44 hQ44
      rw [l44, y44, z44] at X44
      obtain ⟨N44, KK44, hR44⟩ := hQ44
      have NA44 := Fr.app NA21 N44
      have XO45 : Old Z n0 T44.heap := XO35.keep KK44 (allS g_b31 all0)
      have f46 := f36.keepT KK44 E_b31 w_27 (by decide)
      have f47 := f37.keep KK44
      have f48 := f38.keepT KK44 E_b31 w_27 (by decide)
      have f49 := f39.keep KK44
      have f50 := f40.keep KK44
      have f51 := f41.keep KK44 (ninS ne34 nin0)
      have f52 := f42.keep KK44 (ninS ne34 nin0)
      have f53 := E_b31.keep KK44
      have K56 : Keep h0 T44.heap [] := K43.trans KK44 (allS (Or.inr sz_b31) all0)
      have Z56 : n0 ≤ T44.heap.size := Nat.le_trans Z43 KK44.1
      have ZS56 : T6.heap.size ≤ T44.heap.size := Nat.le_trans ZS43 KK44.1
      obtain ⟨rfl, v44_0_0, v44_0_1, v44_0_2⟩ := hR44
      refine GoesW.back st44 ?_
      show GoesW _ _ _ _ _ _ _ (T44.setTop (mkF m 114 _ [(.ref b31)]))
      refine GoesW.step (fun _ k => XS.astore X44.here hx rfl (hb hby at_114) rfl rfl (l' := #[.val (.int p0), .val (.int p1), .val (.int p2), .val (.int p3), .val (.int p4), .val (.int (((p0.toUInt32 >>> ((24 : Int32) &&& 31).toUInt32).toInt32) &&& (3 : Int32))), .val (.int (0 : Int32)), .val (.int p1), .val (.int (((p1.toUInt32 >>> ((24 : Int32) &&& 31).toUInt32).toInt32) &&& (3 : Int32))), .val (.int p3), .val (.int (((p4.toUInt32 >>> ((3 : Int32) &&& 31).toUInt32).toInt32) &&& (3 : Int32))), .val (.ref r3), .val (.ref r6), .val (.ref b12), .val (.ref b31), .unset, .unset]) rfl k) ?_
      show GoesW _ _ _ _ _ _ _ (T44.setTop (mkF m 116 #[.val (.int p0), .val (.int p1), .val (.int p2), .val (.int p3), .val (.int p4), .val (.int (((p0.toUInt32 >>> ((24 : Int32) &&& 31).toUInt32).toInt32) &&& (3 : Int32))), .val (.int (0 : Int32)), .val (.int p1), .val (.int (((p1.toUInt32 >>> ((24 : Int32) &&& 31).toUInt32).toInt32) &&& (3 : Int32))), .val (.int p3), .val (.int (((p4.toUInt32 >>> ((3 : Int32) &&& 31).toUInt32).toInt32) &&& (3 : Int32))), .val (.ref r3), .val (.ref r6), .val (.ref b12), .val (.ref b31), .unset, .unset] []))
      refine GoesW.step (fun _ k => XS.iload X44.here hx rfl (hb hby at_116) rfl  k) ?_
      by_cases c118_57 : (((p4.toUInt32 >>> ((3 : Int32) &&& 31).toUInt32).toInt32) &&& (3 : Int32)) = (0 : Int32)
      · refine GoesW.step (fun _ k => XS.ifNo X44.here hx rfl (hb hby at_118) rfl ((if0 _ _).trans (teq c118_57).2) k) ?_
        show GoesW _ _ _ _ _ _ _ (T44.setTop (mkF m 121 _ []))
        refine GoesW.step (fun _ k => XS.aload X44.here hx rfl (hb hby at_121) rfl rfl k) ?_
        refine GoesW.step (fun _ k => XS.astore X44.here hx rfl (hb hby at_123) rfl rfl (l' := #[.val (.int p0), .val (.int p1), .val (.int p2), .val (.int p3), .val (.int p4), .val (.int (((p0.toUInt32 >>> ((24 : Int32) &&& 31).toUInt32).toInt32) &&& (3 : Int32))), .val (.int (0 : Int32)), .val (.int p1), .val (.int (((p1.toUInt32 >>> ((24 : Int32) &&& 31).toUInt32).toInt32) &&& (3 : Int32))), .val (.int p3), .val (.int (((p4.toUInt32 >>> ((3 : Int32) &&& 31).toUInt32).toInt32) &&& (3 : Int32))), .val (.ref r3), .val (.ref r6), .val (.ref b12), .val (.ref b31), .val (.ref b31), .unset]) rfl k) ?_
        show GoesW _ _ _ _ _ _ _ (T44.setTop (mkF m 125 _ []))
        refine GoesW.step (fun _ k => XS.goto X44.here hx rfl (pc0 := 125) (pc' := 160) rfl (hb hby at_125) (by decide) (by decide) k) ?_
        show GoesW _ _ _ _ _ _ _ (T44.setTop (mkF m 160 _ []))
        refine GoesW.step (fun _ k => XS.iload X44.here hx rfl (hb hby at_160) rfl  k) ?_
        refine GoesW.step (fun _ k => XS.ifNo X44.here hx rfl (hb hby at_162) rfl ((if0 _ _).trans (teq c118_57).2) k) ?_
        show GoesW _ _ _ _ _ _ _ (T44.setTop (mkF m 165 _ []))
        refine GoesW.step (fun _ k => XS.iloadN X44.here hx rfl (hb hby at_165) rfl  k) ?_
        refine GoesW.step (fun _ k => XS.iload X44.here hx rfl (hb hby at_166) rfl  k) ?_
        by_cases c168_58 : p2 = p3
        · refine GoesW.step (fun _ k => XS.icmpNo X44.here hx rfl (hb hby at_168) rfl (teq c168_58).2 k) ?_
          show GoesW _ _ _ _ _ _ _ (T44.setTop (mkF m 171 _ []))
          refine GoesW.step (fun _ k => XS.aload X44.here hx rfl (hb hby at_171) rfl rfl k) ?_
          refine GoesW.step (fun _ k => XS.aload X44.here hx rfl (hb hby at_173) rfl rfl k) ?_
          obtain ⟨et60, ek60, en60, ev60, e1_60, e2_60, e3_60, e4_60, e5_60, e6_60, e7_60⟩ := id f46
          obtain ⟨et61, ek61, en61, ev61, e1_61, e2_61, e3_61, e4_61, e5_61, e6_61, e7_61⟩ := id f48
          obtain ⟨cq59, kq59, q59a, q59b, q59c⟩ := isOf hZ rfl f47
          obtain ⟨_, _, ⟨T59, L59, k59, n59⟩, -, X59, ⟨Lc59, hQ59, l59, y59, z59⟩, st59⟩ := X44.virtualBack hx (y := (⟨"java/lang/String", "equals", "(Ljava/lang/Object;)Z"⟩ : MethodName)) (z := (⟨"java/lang/String", "equals", "(Ljava/lang/Object;)Z"⟩ : MethodName)) hown (mvT hZ w_49) (mvT hZ w_45) (notFace_of_selects (args := #[]) (mvT hZ w_47)) (mvT hZ w_47) (mvT hZ w_46) (by decide) (StrChars.Road.eqW (W := 0) hZ hwe (kI := 4) w_5 e1_60 e2_60 e3_60 e4_60 e5_60 e6_60 e7_60 e1_61 e2_61 e3_61 e4_61 e5_61 e6_61 e7_61 (S_CS.ext XO45.2) P5 (by decide) (by decide)) q59a q59c (g := (mkF m 175 #[.val (.int p0), .val (.int p1), .val (.int p2), .val (.int p3), .val (.int p4), .val (.int (((p0.toUInt32 >>> ((24 : Int32) &&& 31).toUInt32).toInt32) &&& (3 : Int32))), .val (.int (0 : Int32)), .val (.int p1), .val (.int (((p1.toUInt32 >>> ((24 : Int32) &&& 31).toUInt32).toInt32) &&& (3 : Int32))), .val (.int p3), .val (.int (((p4.toUInt32 >>> ((3 : Int32) &&& 31).toUInt32).toInt32) &&& (3 : Int32))), .val (.ref r3), .val (.ref r6), .val (.ref b12), .val (.ref b31), .val (.ref b31), .unset] [(.ref r6), (.ref r3)])) rfl (by rw [hml]; rfl) (Steps.refl _) (argsL := [(.ref r6)]) (rest := []) (lenOf pd_5 rfl) rfl (by show 2 * 0 + _ ≤ _; exact Nat.le_of_eq rfl) (hb hby at_175) (fun _ _ => ⟨rfl, rfl, (by decide : 10 + 0 ≤ _), (by decide : 24 + 0 ≤ _)⟩)
          dsimp only [Pt.U, Pt.locs, Pt.cells, Pt.slots] at X59 l59 y59 z59 st59 hQ59
          rw [l59, y59, z59] at X59
          obtain ⟨hR59, rfl, eh59⟩ := hQ59
          have NA59 := Fr.app NA44 (Fr.nil n0)
          rcases hR59 with ⟨rfl, u59⟩ | ⟨rfl, u59⟩
          · refine GoesW.back st59 ?_
            show GoesW _ _ _ _ _ _ _ (T59.setTop (mkF m 178 _ [(.int (1 : Int32))]))
            refine GoesW.step (fun _ k => XS.ifNo X59.here hx rfl (hb hby at_178) rfl ((if0 _ _).trans (feq (by decide : ¬ ((1 : Int32) = (0 : Int32)))).1) k) ?_
            show GoesW _ _ _ _ _ _ _ (T59.setTop (mkF m 181 #[.val (.int p0), .val (.int p1), .val (.int p2), .val (.int p3), .val (.int p4), .val (.int (((p0.toUInt32 >>> ((24 : Int32) &&& 31).toUInt32).toInt32) &&& (3 : Int32))), .val (.int (0 : Int32)), .val (.int p1), .val (.int (((p1.toUInt32 >>> ((24 : Int32) &&& 31).toUInt32).toInt32) &&& (3 : Int32))), .val (.int p3), .val (.int (((p4.toUInt32 >>> ((3 : Int32) &&& 31).toUInt32).toInt32) &&& (3 : Int32))), .val (.ref r3), .val (.ref r6), .val (.ref b12), .val (.ref b31), .val (.ref b31), .unset] []))
            refine GoesW.step (fun _ k => XS.iconst X59.here hx rfl (hb hby at_181) k) ?_
            refine GoesW.step (fun _ k => XS.goto X59.here hx rfl (pc0 := 182) (pc' := 186) rfl (hb hby at_182) (by decide) (by decide) k) ?_
            show GoesW _ _ _ _ _ _ _ (T59.setTop (mkF m 186 _ [(.int (1 : Int32))]))
            refine GoesW.step (fun _ k => XS.istore X59.here hx rfl (hb hby at_186) rfl (l' := #[.val (.int p0), .val (.int p1), .val (.int p2), .val (.int p3), .val (.int p4), .val (.int (((p0.toUInt32 >>> ((24 : Int32) &&& 31).toUInt32).toInt32) &&& (3 : Int32))), .val (.int (0 : Int32)), .val (.int p1), .val (.int (((p1.toUInt32 >>> ((24 : Int32) &&& 31).toUInt32).toInt32) &&& (3 : Int32))), .val (.int p3), .val (.int (((p4.toUInt32 >>> ((3 : Int32) &&& 31).toUInt32).toInt32) &&& (3 : Int32))), .val (.ref r3), .val (.ref r6), .val (.ref b12), .val (.ref b31), .val (.ref b31), .val (.int (1 : Int32))]) rfl k) ?_
            show GoesW _ _ _ _ _ _ _ (T59.setTop (mkF m 188 _ []))
            refine GoesW.step (fun _ k => XS.aload X59.here hx rfl (hb hby at_188) rfl rfl k) ?_
            refine GoesW.step (fun _ k => XS.aload X59.here hx rfl (hb hby at_190) rfl rfl k) ?_
            obtain ⟨cq62, kq62, q62a, q62b, q62c⟩ := isOf hZ eh59 f50
            obtain ⟨_, _, ⟨T62, L62, k62, n62⟩, -, X62, ⟨Lc62, hQ62, l62, y62, z62⟩, st62⟩ := X59.virtualBack hx (y := (⟨"com/example/topicd/topicd/message/TopicQueue", "equals", "(Ljava/lang/Object;)Z"⟩ : MethodName)) (z := (⟨"com/example/topicd/topicd/message/TopicQueue", "equals", "(Ljava/lang/Object;)Z"⟩ : MethodName)) hown (mvT hZ w_37) (mvT hZ w_38) (notFace_of_selects (args := #[]) (mvT hZ w_40)) (mvT hZ w_40) (mvT hZ w_39) (by decide) (backOf (W := 0) (rm6_b l Z a0 hw [] b12 b31 r3 r6 p2 p3 cs3 cs6 zC T44.heap n0 Z56 f51 f52 v44_0_0 v44_0_1 v44_0_2 f46 f48 S_CS P5 XO45) hZ w_41 w_28 (by decide) (by decide)) q62a q62c (g := (mkF m 192 #[.val (.int p0), .val (.int p1), .val (.int p2), .val (.int p3), .val (.int p4), .val (.int (((p0.toUInt32 >>> ((24 : Int32) &&& 31).toUInt32).toInt32) &&& (3 : Int32))), .val (.int (0 : Int32)), .val (.int p1), .val (.int (((p1.toUInt32 >>> ((24 : Int32) &&& 31).toUInt32).toInt32) &&& (3 : Int32))), .val (.int p3), .val (.int (((p4.toUInt32 >>> ((3 : Int32) &&& 31).toUInt32).toInt32) &&& (3 : Int32))), .val (.ref r3), .val (.ref r6), .val (.ref b12), .val (.ref b31), .val (.ref b31), .val (.int (1 : Int32))] [(.ref b31), (.ref b12)])) rfl (by rw [hml]; rfl) (Steps.refl _) (argsL := [(.ref b31)]) (rest := []) (lenOf pd_5 rfl) rfl (by show 2 * 0 + _ ≤ _; exact Nat.le_of_eq rfl) (hb hby at_192) (fun _ _ => ⟨rfl, eh59, (by decide : 10 + 0 ≤ _), (by decide : 24 + 0 ≤ _)⟩)
            dsimp only [Pt.U, Pt.locs, Pt.cells, Pt.slots] at X62 l62 y62 z62 st62 hQ62
            rw [l62, y62, z62] at X62
            obtain ⟨N62, eh62, hR62⟩ := hQ62
            have NA62 := Fr.app NA59 N62
            rcases hR62 with ⟨rfl, u62, uu62⟩ | ⟨rfl, u62⟩
            · refine GoesW.back st62 ?_
              show GoesW _ _ _ _ _ _ _ (T62.setTop (mkF m 195 _ [(.int (1 : Int32))]))
              refine GoesW.step (fun _ k => XS.iload X62.here hx rfl (hb hby at_195) rfl  k) ?_
              refine GoesW.step (fun _ k => XS.icmpYes X62.here hx rfl (pc0 := 197) (pc' := 202) rfl (hb hby at_197) rfl (teq (by decide : (1 : Int32) = (1 : Int32))).1 (by decide) (by decide) k) ?_
              show GoesW _ _ _ _ _ _ _ (T62.setTop (mkF m 202 _ []))
              refine GoesW.step (fun _ k => XS.iload X62.here hx rfl (hb hby at_202) rfl  k) ?_
              refine GoesW.step (fun _ k => XS.ifNo X62.here hx rfl (hb hby at_204) rfl ((if0 _ _).trans (teq c118_57).2) k) ?_
              show GoesW _ _ _ _ _ _ _ (T62.setTop (mkF m 207 _ []))
              refine GoesW.step (fun _ k => XS.aload X62.here hx rfl (hb hby at_207) rfl rfl k) ?_
              refine GoesW.step (fun _ k => XS.aload X62.here hx rfl (hb hby at_209) rfl rfl k) ?_
              obtain ⟨cq63, kq63, q63a, q63b, q63c⟩ := isOf hZ eh62 v44_0_2
              obtain ⟨_, _, ⟨T63, L63, k63, n63⟩, -, X63, ⟨Lc63, hQ63, l63, y63, z63⟩, st63⟩ := X62.virtualBack hx (y := (⟨"com/example/topicd/topicd/message/TopicQueue", "equals", "(Ljava/lang/Object;)Z"⟩ : MethodName)) (z := (⟨"com/example/topicd/topicd/message/TopicQueue", "equals", "(Ljava/lang/Object;)Z"⟩ : MethodName)) hown (mvT hZ w_37) (mvT hZ w_38) (notFace_of_selects (args := #[]) (mvT hZ w_40)) (mvT hZ w_40) (mvT hZ w_39) (by decide) (backOf (W := 0) (rm6_b l Z a0 hw [] b31 b12 r6 r3 p3 p2 cs6 cs3 zC T44.heap n0 Z56 v44_0_0 v44_0_1 f51 f52 f50 f48 f46 S_CS P5 XO45) hZ w_41 w_28 (by decide) (by decide)) q63a q63c (g := (mkF m 211 #[.val (.int p0), .val (.int p1), .val (.int p2), .val (.int p3), .val (.int p4), .val (.int (((p0.toUInt32 >>> ((24 : Int32) &&& 31).toUInt32).toInt32) &&& (3 : Int32))), .val (.int (0 : Int32)), .val (.int p1), .val (.int (((p1.toUInt32 >>> ((24 : Int32) &&& 31).toUInt32).toInt32) &&& (3 : Int32))), .val (.int p3), .val (.int (((p4.toUInt32 >>> ((3 : Int32) &&& 31).toUInt32).toInt32) &&& (3 : Int32))), .val (.ref r3), .val (.ref r6), .val (.ref b12), .val (.ref b31), .val (.ref b31), .val (.int (1 : Int32))] [(.ref b12), (.ref b31)])) rfl (by rw [hml]; rfl) (Steps.refl _) (argsL := [(.ref b12)]) (rest := []) (lenOf pd_5 rfl) rfl (by show 2 * 0 + _ ≤ _; exact Nat.le_of_eq rfl) (hb hby at_211) (fun _ _ => ⟨rfl, eh62, (by decide : 10 + 0 ≤ _), (by decide : 24 + 0 ≤ _)⟩)
              dsimp only [Pt.U, Pt.locs, Pt.cells, Pt.slots] at X63 l63 y63 z63 st63 hQ63
              rw [l63, y63, z63] at X63
              obtain ⟨N63, eh63, hR63⟩ := hQ63
              have NA63 := Fr.app NA62 N63
              rcases hR63 with ⟨rfl, u63, uu63⟩ | ⟨rfl, u63⟩
              · refine GoesW.back st63 ?_
                show GoesW _ _ _ _ _ _ _ (T63.setTop (mkF m 214 _ [(.int (1 : Int32))]))
                refine GoesW.step (fun _ k => XS.iload X63.here hx rfl (hb hby at_214) rfl  k) ?_
                refine GoesW.step (fun _ k => XS.icmpYes X63.here hx rfl (pc0 := 216) (pc' := 221) rfl (hb hby at_216) rfl (teq (by decide : (1 : Int32) = (1 : Int32))).1 (by decide) (by decide) k) ?_
                show GoesW _ _ _ _ _ _ _ (T63.setTop (mkF m 221 #[.val (.int p0), .val (.int p1), .val (.int p2), .val (.int p3), .val (.int p4), .val (.int (((p0.toUInt32 >>> ((24 : Int32) &&& 31).toUInt32).toInt32) &&& (3 : Int32))), .val (.int (0 : Int32)), .val (.int p1), .val (.int (((p1.toUInt32 >>> ((24 : Int32) &&& 31).toUInt32).toInt32) &&& (3 : Int32))), .val (.int p3), .val (.int (((p4.toUInt32 >>> ((3 : Int32) &&& 31).toUInt32).toInt32) &&& (3 : Int32))), .val (.ref r3), .val (.ref r6), .val (.ref b12), .val (.ref b31), .val (.ref b31), .val (.int (1 : Int32))] []))
                refine GoesW.step (fun _ k => XS.aload X63.here hx rfl (hb hby at_221) rfl rfl k) ?_
                refine GoesW.step (fun _ k => XS.aload X63.here hx rfl (hb hby at_223) rfl rfl k) ?_
                obtain ⟨cq64, kq64, q64a, q64b, q64c⟩ := isOf hZ eh63 f50
                obtain ⟨_, _, ⟨T64, L64, k64, n64⟩, -, X64, ⟨Lc64, hQ64, l64, y64, z64⟩, st64⟩ := X63.virtualBack hx (y := (⟨"com/example/topicd/topicd/message/TopicQueue", "equals", "(Ljava/lang/Object;)Z"⟩ : MethodName)) (z := (⟨"com/example/topicd/topicd/message/TopicQueue", "equals", "(Ljava/lang/Object;)Z"⟩ : MethodName)) hown (mvT hZ w_37) (mvT hZ w_38) (notFace_of_selects (args := #[]) (mvT hZ w_40)) (mvT hZ w_40) (mvT hZ w_39) (by decide) (backOf (W := 0) (rm6_b l Z a0 hw [] b12 b12 r3 r3 p2 p2 cs3 cs3 zC T44.heap n0 Z56 f51 f52 f51 f52 f50 f46 f46 S_CS P5 XO45) hZ w_41 w_28 (by decide) (by decide)) q64a q64c (g := (mkF m 225 #[.val (.int p0), .val (.int p1), .val (.int p2), .val (.int p3), .val (.int p4), .val (.int (((p0.toUInt32 >>> ((24 : Int32) &&& 31).toUInt32).toInt32) &&& (3 : Int32))), .val (.int (0 : Int32)), .val (.int p1), .val (.int (((p1.toUInt32 >>> ((24 : Int32) &&& 31).toUInt32).toInt32) &&& (3 : Int32))), .val (.int p3), .val (.int (((p4.toUInt32 >>> ((3 : Int32) &&& 31).toUInt32).toInt32) &&& (3 : Int32))), .val (.ref r3), .val (.ref r6), .val (.ref b12), .val (.ref b31), .val (.ref b31), .val (.int (1 : Int32))] [(.ref b12), (.ref b12)])) rfl (by rw [hml]; rfl) (Steps.refl _) (argsL := [(.ref b12)]) (rest := []) (lenOf pd_5 rfl) rfl (by show 2 * 0 + _ ≤ _; exact Nat.le_of_eq rfl) (hb hby at_225) (fun _ _ => ⟨rfl, eh63, (by decide : 10 + 0 ≤ _), (by decide : 24 + 0 ≤ _)⟩)
                dsimp only [Pt.U, Pt.locs, Pt.cells, Pt.slots] at X64 l64 y64 z64 st64 hQ64
                rw [l64, y64, z64] at X64
                obtain ⟨N64, eh64, hR64⟩ := hQ64
                have NA64 := Fr.app NA63 N64
                rcases hR64 with ⟨rfl, u64, uu64⟩ | ⟨rfl, u64⟩
                · refine GoesW.back st64 ?_
                  show GoesW _ _ _ _ _ _ _ (T64.setTop (mkF m 228 _ [(.int (1 : Int32))]))
                  exact GoesW.ret1 X64 hS6 (by rw [eh64]; exact ZS56) hx (BodyLoose.notSynchronized Bd) Bd.returns rfl (Or.inl ⟨rfl, by simp, _, rfl⟩) (hb hby at_228) (by show Q0 Z p0 p1 p2 p3 p4 zC ca cc h0 n0 (some (.int (1 : Int32))) T64.vm T64.heap _; rw [eh64]; exact ⟨rfl, NA64⟩) (by decide) (by decide)
                · exact absurd ⟨(rfl : p2 = p2), (rfl : cs3 = cs3)⟩ u64
              · exact absurd ⟨c168_58, u59⟩ u63
            · exact absurd ⟨(Eq.symm c168_58), (Eq.symm u59)⟩ u62
          · refine GoesW.back st59 ?_
            show GoesW _ _ _ _ _ _ _ (T59.setTop (mkF m 178 _ [(.int (0 : Int32))]))
            refine GoesW.step (fun _ k => XS.ifYes X59.here hx rfl (pc0 := 178) (pc' := 185) rfl (hb hby at_178) rfl ((if0 _ _).trans (teq (by decide : (0 : Int32) = (0 : Int32))).1) (by decide) (by decide) k) ?_
            show GoesW _ _ _ _ _ _ _ (T59.setTop (mkF m 185 #[.val (.int p0), .val (.int p1), .val (.int p2), .val (.int p3), .val (.int p4), .val (.int (((p0.toUInt32 >>> ((24 : Int32) &&& 31).toUInt32).toInt32) &&& (3 : Int32))), .val (.int (0 : Int32)), .val (.int p1), .val (.int (((p1.toUInt32 >>> ((24 : Int32) &&& 31).toUInt32).toInt32) &&& (3 : Int32))), .val (.int p3), .val (.int (((p4.toUInt32 >>> ((3 : Int32) &&& 31).toUInt32).toInt32) &&& (3 : Int32))), .val (.ref r3), .val (.ref r6), .val (.ref b12), .val (.ref b31), .val (.ref b31), .unset] []))
            refine GoesW.step (fun _ k => XS.iconst X59.here hx rfl (hb hby at_185) k) ?_
            refine GoesW.step (fun _ k => XS.istore X59.here hx rfl (hb hby at_186) rfl (l' := #[.val (.int p0), .val (.int p1), .val (.int p2), .val (.int p3), .val (.int p4), .val (.int (((p0.toUInt32 >>> ((24 : Int32) &&& 31).toUInt32).toInt32) &&& (3 : Int32))), .val (.int (0 : Int32)), .val (.int p1), .val (.int (((p1.toUInt32 >>> ((24 : Int32) &&& 31).toUInt32).toInt32) &&& (3 : Int32))), .val (.int p3), .val (.int (((p4.toUInt32 >>> ((3 : Int32) &&& 31).toUInt32).toInt32) &&& (3 : Int32))), .val (.ref r3), .val (.ref r6), .val (.ref b12), .val (.ref b31), .val (.ref b31), .val (.int (0 : Int32))]) rfl k) ?_
            show GoesW _ _ _ _ _ _ _ (T59.setTop (mkF m 188 _ []))
            refine GoesW.step (fun _ k => XS.aload X59.here hx rfl (hb hby at_188) rfl rfl k) ?_
            refine GoesW.step (fun _ k => XS.aload X59.here hx rfl (hb hby at_190) rfl rfl k) ?_
            obtain ⟨cq65, kq65, q65a, q65b, q65c⟩ := isOf hZ eh59 f50
            obtain ⟨_, _, ⟨T65, L65, k65, n65⟩, -, X65, ⟨Lc65, hQ65, l65, y65, z65⟩, st65⟩ := X59.virtualBack hx (y := (⟨"com/example/topicd/topicd/message/TopicQueue", "equals", "(Ljava/lang/Object;)Z"⟩ : MethodName)) (z := (⟨"com/example/topicd/topicd/message/TopicQueue", "equals", "(Ljava/lang/Object;)Z"⟩ : MethodName)) hown (mvT hZ w_37) (mvT hZ w_38) (notFace_of_selects (args := #[]) (mvT hZ w_40)) (mvT hZ w_40) (mvT hZ w_39) (by decide) (backOf (W := 0) (rm6_b l Z a0 hw [] b12 b31 r3 r6 p2 p3 cs3 cs6 zC T44.heap n0 Z56 f51 f52 v44_0_0 v44_0_1 v44_0_2 f46 f48 S_CS P5 XO45) hZ w_41 w_28 (by decide) (by decide)) q65a q65c (g := (mkF m 192 #[.val (.int p0), .val (.int p1), .val (.int p2), .val (.int p3), .val (.int p4), .val (.int (((p0.toUInt32 >>> ((24 : Int32) &&& 31).toUInt32).toInt32) &&& (3 : Int32))), .val (.int (0 : Int32)), .val (.int p1), .val (.int (((p1.toUInt32 >>> ((24 : Int32) &&& 31).toUInt32).toInt32) &&& (3 : Int32))), .val (.int p3), .val (.int (((p4.toUInt32 >>> ((3 : Int32) &&& 31).toUInt32).toInt32) &&& (3 : Int32))), .val (.ref r3), .val (.ref r6), .val (.ref b12), .val (.ref b31), .val (.ref b31), .val (.int (0 : Int32))] [(.ref b31), (.ref b12)])) rfl (by rw [hml]; rfl) (Steps.refl _) (argsL := [(.ref b31)]) (rest := []) (lenOf pd_5 rfl) rfl (by show 2 * 0 + _ ≤ _; exact Nat.le_of_eq rfl) (hb hby at_192) (fun _ _ => ⟨rfl, eh59, (by decide : 10 + 0 ≤ _), (by decide : 24 + 0 ≤ _)⟩)
            dsimp only [Pt.U, Pt.locs, Pt.cells, Pt.slots] at X65 l65 y65 z65 st65 hQ65
            rw [l65, y65, z65] at X65
            obtain ⟨N65, eh65, hR65⟩ := hQ65
            have NA65 := Fr.app NA59 N65
            rcases hR65 with ⟨rfl, u65, uu65⟩ | ⟨rfl, u65⟩
            · exact absurd uu65 (Ne.symm u59)
            · refine GoesW.back st65 ?_
              show GoesW _ _ _ _ _ _ _ (T65.setTop (mkF m 195 _ [(.int (0 : Int32))]))
              refine GoesW.step (fun _ k => XS.iload X65.here hx rfl (hb hby at_195) rfl  k) ?_
              refine GoesW.step (fun _ k => XS.icmpYes X65.here hx rfl (pc0 := 197) (pc' := 202) rfl (hb hby at_197) rfl (teq (by decide : (0 : Int32) = (0 : Int32))).1 (by decide) (by decide) k) ?_
              show GoesW _ _ _ _ _ _ _ (T65.setTop (mkF m 202 _ []))
              refine GoesW.step (fun _ k => XS.iload X65.here hx rfl (hb hby at_202) rfl  k) ?_
              refine GoesW.step (fun _ k => XS.ifNo X65.here hx rfl (hb hby at_204) rfl ((if0 _ _).trans (teq c118_57).2) k) ?_
              show GoesW _ _ _ _ _ _ _ (T65.setTop (mkF m 207 _ []))
              refine GoesW.step (fun _ k => XS.aload X65.here hx rfl (hb hby at_207) rfl rfl k) ?_
              refine GoesW.step (fun _ k => XS.aload X65.here hx rfl (hb hby at_209) rfl rfl k) ?_
              obtain ⟨cq66, kq66, q66a, q66b, q66c⟩ := isOf hZ eh65 v44_0_2
              obtain ⟨_, _, ⟨T66, L66, k66, n66⟩, -, X66, ⟨Lc66, hQ66, l66, y66, z66⟩, st66⟩ := X65.virtualBack hx (y := (⟨"com/example/topicd/topicd/message/TopicQueue", "equals", "(Ljava/lang/Object;)Z"⟩ : MethodName)) (z := (⟨"com/example/topicd/topicd/message/TopicQueue", "equals", "(Ljava/lang/Object;)Z"⟩ : MethodName)) hown (mvT hZ w_37) (mvT hZ w_38) (notFace_of_selects (args := #[]) (mvT hZ w_40)) (mvT hZ w_40) (mvT hZ w_39) (by decide) (backOf (W := 0) (rm6_b l Z a0 hw [] b31 b12 r6 r3 p3 p2 cs6 cs3 zC T44.heap n0 Z56 v44_0_0 v44_0_1 f51 f52 f50 f48 f46 S_CS P5 XO45) hZ w_41 w_28 (by decide) (by decide)) q66a q66c (g := (mkF m 211 #[.val (.int p0), .val (.int p1), .val (.int p2), .val (.int p3), .val (.int p4), .val (.int (((p0.toUInt32 >>> ((24 : Int32) &&& 31).toUInt32).toInt32) &&& (3 : Int32))), .val (.int (0 : Int32)), .val (.int p1), .val (.int (((p1.toUInt32 >>> ((24 : Int32) &&& 31).toUInt32).toInt32) &&& (3 : Int32))), .val (.int p3), .val (.int (((p4.toUInt32 >>> ((3 : Int32) &&& 31).toUInt32).toInt32) &&& (3 : Int32))), .val (.ref r3), .val (.ref r6), .val (.ref b12), .val (.ref b31), .val (.ref b31), .val (.int (0 : Int32))] [(.ref b12), (.ref b31)])) rfl (by rw [hml]; rfl) (Steps.refl _) (argsL := [(.ref b12)]) (rest := []) (lenOf pd_5 rfl) rfl (by show 2 * 0 + _ ≤ _; exact Nat.le_of_eq rfl) (hb hby at_211) (fun _ _ => ⟨rfl, eh65, (by decide : 10 + 0 ≤ _), (by decide : 24 + 0 ≤ _)⟩)
              dsimp only [Pt.U, Pt.locs, Pt.cells, Pt.slots] at X66 l66 y66 z66 st66 hQ66
              rw [l66, y66, z66] at X66
              obtain ⟨N66, eh66, hR66⟩ := hQ66
              have NA66 := Fr.app NA65 N66
              rcases hR66 with ⟨rfl, u66, uu66⟩ | ⟨rfl, u66⟩
              · exact absurd uu66 u59
              · refine GoesW.back st66 ?_
                show GoesW _ _ _ _ _ _ _ (T66.setTop (mkF m 214 _ [(.int (0 : Int32))]))
                refine GoesW.step (fun _ k => XS.iload X66.here hx rfl (hb hby at_214) rfl  k) ?_
                refine GoesW.step (fun _ k => XS.icmpYes X66.here hx rfl (pc0 := 216) (pc' := 221) rfl (hb hby at_216) rfl (teq (by decide : (0 : Int32) = (0 : Int32))).1 (by decide) (by decide) k) ?_
                show GoesW _ _ _ _ _ _ _ (T66.setTop (mkF m 221 _ []))
                refine GoesW.step (fun _ k => XS.aload X66.here hx rfl (hb hby at_221) rfl rfl k) ?_
                refine GoesW.step (fun _ k => XS.aload X66.here hx rfl (hb hby at_223) rfl rfl k) ?_
                obtain ⟨cq67, kq67, q67a, q67b, q67c⟩ := isOf hZ eh66 f50
                obtain ⟨_, _, ⟨T67, L67, k67, n67⟩, -, X67, ⟨Lc67, hQ67, l67, y67, z67⟩, st67⟩ := X66.virtualBack hx (y := (⟨"com/example/topicd/topicd/message/TopicQueue", "equals", "(Ljava/lang/Object;)Z"⟩ : MethodName)) (z := (⟨"com/example/topicd/topicd/message/TopicQueue", "equals", "(Ljava/lang/Object;)Z"⟩ : MethodName)) hown (mvT hZ w_37) (mvT hZ w_38) (notFace_of_selects (args := #[]) (mvT hZ w_40)) (mvT hZ w_40) (mvT hZ w_39) (by decide) (backOf (W := 0) (rm6_b l Z a0 hw [] b12 b12 r3 r3 p2 p2 cs3 cs3 zC T44.heap n0 Z56 f51 f52 f51 f52 f50 f46 f46 S_CS P5 XO45) hZ w_41 w_28 (by decide) (by decide)) q67a q67c (g := (mkF m 225 #[.val (.int p0), .val (.int p1), .val (.int p2), .val (.int p3), .val (.int p4), .val (.int (((p0.toUInt32 >>> ((24 : Int32) &&& 31).toUInt32).toInt32) &&& (3 : Int32))), .val (.int (0 : Int32)), .val (.int p1), .val (.int (((p1.toUInt32 >>> ((24 : Int32) &&& 31).toUInt32).toInt32) &&& (3 : Int32))), .val (.int p3), .val (.int (((p4.toUInt32 >>> ((3 : Int32) &&& 31).toUInt32).toInt32) &&& (3 : Int32))), .val (.ref r3), .val (.ref r6), .val (.ref b12), .val (.ref b31), .val (.ref b31), .val (.int (0 : Int32))] [(.ref b12), (.ref b12)])) rfl (by rw [hml]; rfl) (Steps.refl _) (argsL := [(.ref b12)]) (rest := []) (lenOf pd_5 rfl) rfl (by show 2 * 0 + _ ≤ _; exact Nat.le_of_eq rfl) (hb hby at_225) (fun _ _ => ⟨rfl, eh66, (by decide : 10 + 0 ≤ _), (by decide : 24 + 0 ≤ _)⟩)
                dsimp only [Pt.U, Pt.locs, Pt.cells, Pt.slots] at X67 l67 y67 z67 st67 hQ67
                rw [l67, y67, z67] at X67
                obtain ⟨N67, eh67, hR67⟩ := hQ67
                have NA67 := Fr.app NA66 N67
                rcases hR67 with ⟨rfl, u67, uu67⟩ | ⟨rfl, u67⟩
                · refine GoesW.back st67 ?_
                  show GoesW _ _ _ _ _ _ _ (T67.setTop (mkF m 228 #[.val (.int p0), .val (.int p1), .val (.int p2), .val (.int p3), .val (.int p4), .val (.int (((p0.toUInt32 >>> ((24 : Int32) &&& 31).toUInt32).toInt32) &&& (3 : Int32))), .val (.int (0 : Int32)), .val (.int p1), .val (.int (((p1.toUInt32 >>> ((24 : Int32) &&& 31).toUInt32).toInt32) &&& (3 : Int32))), .val (.int p3), .val (.int (((p4.toUInt32 >>> ((3 : Int32) &&& 31).toUInt32).toInt32) &&& (3 : Int32))), .val (.ref r3), .val (.ref r6), .val (.ref b12), .val (.ref b31), .val (.ref b31), .val (.int (0 : Int32))] [(.int (1 : Int32))]))
                  exact GoesW.ret1 X67 hS6 (by rw [eh67]; exact ZS56) hx (BodyLoose.notSynchronized Bd) Bd.returns rfl (Or.inl ⟨rfl, by simp, _, rfl⟩) (hb hby at_228) (by show Q0 Z p0 p1 p2 p3 p4 zC ca cc h0 n0 (some (.int (1 : Int32))) T67.vm T67.heap _; rw [eh67]; exact ⟨rfl, NA67⟩) (by decide) (by decide)
                · exact absurd ⟨(rfl : p2 = p2), (rfl : cs3 = cs3)⟩ u67
        · refine GoesW.step (fun _ k => XS.icmpYes X44.here hx rfl (pc0 := 168) (pc' := 185) rfl (hb hby at_168) rfl (feq c168_58).2 (by decide) (by decide) k) ?_
          show GoesW _ _ _ _ _ _ _ (T44.setTop (mkF m 185 _ []))
          refine GoesW.step (fun _ k => XS.iconst X44.here hx rfl (hb hby at_185) k) ?_
          refine GoesW.step (fun _ k => XS.istore X44.here hx rfl (hb hby at_186) rfl (l' := #[.val (.int p0), .val (.int p1), .val (.int p2), .val (.int p3), .val (.int p4), .val (.int (((p0.toUInt32 >>> ((24 : Int32) &&& 31).toUInt32).toInt32) &&& (3 : Int32))), .val (.int (0 : Int32)), .val (.int p1), .val (.int (((p1.toUInt32 >>> ((24 : Int32) &&& 31).toUInt32).toInt32) &&& (3 : Int32))), .val (.int p3), .val (.int (((p4.toUInt32 >>> ((3 : Int32) &&& 31).toUInt32).toInt32) &&& (3 : Int32))), .val (.ref r3), .val (.ref r6), .val (.ref b12), .val (.ref b31), .val (.ref b31), .val (.int (0 : Int32))]) rfl k) ?_
          show GoesW _ _ _ _ _ _ _ (T44.setTop (mkF m 188 _ []))
          refine GoesW.step (fun _ k => XS.aload X44.here hx rfl (hb hby at_188) rfl rfl k) ?_
          refine GoesW.step (fun _ k => XS.aload X44.here hx rfl (hb hby at_190) rfl rfl k) ?_
          obtain ⟨cq68, kq68, q68a, q68b, q68c⟩ := isOf hZ rfl f50
          obtain ⟨_, _, ⟨T68, L68, k68, n68⟩, -, X68, ⟨Lc68, hQ68, l68, y68, z68⟩, st68⟩ := X44.virtualBack hx (y := (⟨"com/example/topicd/topicd/message/TopicQueue", "equals", "(Ljava/lang/Object;)Z"⟩ : MethodName)) (z := (⟨"com/example/topicd/topicd/message/TopicQueue", "equals", "(Ljava/lang/Object;)Z"⟩ : MethodName)) hown (mvT hZ w_37) (mvT hZ w_38) (notFace_of_selects (args := #[]) (mvT hZ w_40)) (mvT hZ w_40) (mvT hZ w_39) (by decide) (backOf (W := 0) (rm6_b l Z a0 hw [] b12 b31 r3 r6 p2 p3 cs3 cs6 zC T44.heap n0 Z56 f51 f52 v44_0_0 v44_0_1 v44_0_2 f46 f48 S_CS P5 XO45) hZ w_41 w_28 (by decide) (by decide)) q68a q68c (g := (mkF m 192 #[.val (.int p0), .val (.int p1), .val (.int p2), .val (.int p3), .val (.int p4), .val (.int (((p0.toUInt32 >>> ((24 : Int32) &&& 31).toUInt32).toInt32) &&& (3 : Int32))), .val (.int (0 : Int32)), .val (.int p1), .val (.int (((p1.toUInt32 >>> ((24 : Int32) &&& 31).toUInt32).toInt32) &&& (3 : Int32))), .val (.int p3), .val (.int (((p4.toUInt32 >>> ((3 : Int32) &&& 31).toUInt32).toInt32) &&& (3 : Int32))), .val (.ref r3), .val (.ref r6), .val (.ref b12), .val (.ref b31), .val (.ref b31), .val (.int (0 : Int32))] [(.ref b31), (.ref b12)])) rfl (by rw [hml]; rfl) (Steps.refl _) (argsL := [(.ref b31)]) (rest := []) (lenOf pd_5 rfl) rfl (by show 2 * 0 + _ ≤ _; exact Nat.le_of_eq rfl) (hb hby at_192) (fun _ _ => ⟨rfl, rfl, (by decide : 10 + 0 ≤ _), (by decide : 24 + 0 ≤ _)⟩)
          dsimp only [Pt.U, Pt.locs, Pt.cells, Pt.slots] at X68 l68 y68 z68 st68 hQ68
          rw [l68, y68, z68] at X68
          obtain ⟨N68, eh68, hR68⟩ := hQ68
          have NA68 := Fr.app NA44 N68
          rcases hR68 with ⟨rfl, u68, uu68⟩ | ⟨rfl, u68⟩
          · exact absurd u68 (Ne.symm c168_58)
          · refine GoesW.back st68 ?_
            show GoesW _ _ _ _ _ _ _ (T68.setTop (mkF m 195 #[.val (.int p0), .val (.int p1), .val (.int p2), .val (.int p3), .val (.int p4), .val (.int (((p0.toUInt32 >>> ((24 : Int32) &&& 31).toUInt32).toInt32) &&& (3 : Int32))), .val (.int (0 : Int32)), .val (.int p1), .val (.int (((p1.toUInt32 >>> ((24 : Int32) &&& 31).toUInt32).toInt32) &&& (3 : Int32))), .val (.int p3), .val (.int (((p4.toUInt32 >>> ((3 : Int32) &&& 31).toUInt32).toInt32) &&& (3 : Int32))), .val (.ref r3), .val (.ref r6), .val (.ref b12), .val (.ref b31), .val (.ref b31), .val (.int (0 : Int32))] [(.int (0 : Int32))]))
            refine GoesW.step (fun _ k => XS.iload X68.here hx rfl (hb hby at_195) rfl  k) ?_
            refine GoesW.step (fun _ k => XS.icmpYes X68.here hx rfl (pc0 := 197) (pc' := 202) rfl (hb hby at_197) rfl (teq (by decide : (0 : Int32) = (0 : Int32))).1 (by decide) (by decide) k) ?_
            show GoesW _ _ _ _ _ _ _ (T68.setTop (mkF m 202 _ []))
            refine GoesW.step (fun _ k => XS.iload X68.here hx rfl (hb hby at_202) rfl  k) ?_
            refine GoesW.step (fun _ k => XS.ifNo X68.here hx rfl (hb hby at_204) rfl ((if0 _ _).trans (teq c118_57).2) k) ?_
            show GoesW _ _ _ _ _ _ _ (T68.setTop (mkF m 207 _ []))
            refine GoesW.step (fun _ k => XS.aload X68.here hx rfl (hb hby at_207) rfl rfl k) ?_
            refine GoesW.step (fun _ k => XS.aload X68.here hx rfl (hb hby at_209) rfl rfl k) ?_
            obtain ⟨cq69, kq69, q69a, q69b, q69c⟩ := isOf hZ eh68 v44_0_2
            obtain ⟨_, _, ⟨T69, L69, k69, n69⟩, -, X69, ⟨Lc69, hQ69, l69, y69, z69⟩, st69⟩ := X68.virtualBack hx (y := (⟨"com/example/topicd/topicd/message/TopicQueue", "equals", "(Ljava/lang/Object;)Z"⟩ : MethodName)) (z := (⟨"com/example/topicd/topicd/message/TopicQueue", "equals", "(Ljava/lang/Object;)Z"⟩ : MethodName)) hown (mvT hZ w_37) (mvT hZ w_38) (notFace_of_selects (args := #[]) (mvT hZ w_40)) (mvT hZ w_40) (mvT hZ w_39) (by decide) (backOf (W := 0) (rm6_b l Z a0 hw [] b31 b12 r6 r3 p3 p2 cs6 cs3 zC T44.heap n0 Z56 v44_0_0 v44_0_1 f51 f52 f50 f48 f46 S_CS P5 XO45) hZ w_41 w_28 (by decide) (by decide)) q69a q69c (g := (mkF m 211 #[.val (.int p0), .val (.int p1), .val (.int p2), .val (.int p3), .val (.int p4), .val (.int (((p0.toUInt32 >>> ((24 : Int32) &&& 31).toUInt32).toInt32) &&& (3 : Int32))), .val (.int (0 : Int32)), .val (.int p1), .val (.int (((p1.toUInt32 >>> ((24 : Int32) &&& 31).toUInt32).toInt32) &&& (3 : Int32))), .val (.int p3), .val (.int (((p4.toUInt32 >>> ((3 : Int32) &&& 31).toUInt32).toInt32) &&& (3 : Int32))), .val (.ref r3), .val (.ref r6), .val (.ref b12), .val (.ref b31), .val (.ref b31), .val (.int (0 : Int32))] [(.ref b12), (.ref b31)])) rfl (by rw [hml]; rfl) (Steps.refl _) (argsL := [(.ref b12)]) (rest := []) (lenOf pd_5 rfl) rfl (by show 2 * 0 + _ ≤ _; exact Nat.le_of_eq rfl) (hb hby at_211) (fun _ _ => ⟨rfl, eh68, (by decide : 10 + 0 ≤ _), (by decide : 24 + 0 ≤ _)⟩)
            dsimp only [Pt.U, Pt.locs, Pt.cells, Pt.slots] at X69 l69 y69 z69 st69 hQ69
            rw [l69, y69, z69] at X69
            obtain ⟨N69, eh69, hR69⟩ := hQ69
            have NA69 := Fr.app NA68 N69
            rcases hR69 with ⟨rfl, u69, uu69⟩ | ⟨rfl, u69⟩
            · exact absurd u69 c168_58
            · refine GoesW.back st69 ?_
              show GoesW _ _ _ _ _ _ _ (T69.setTop (mkF m 214 _ [(.int (0 : Int32))]))
              refine GoesW.step (fun _ k => XS.iload X69.here hx rfl (hb hby at_214) rfl  k) ?_
              refine GoesW.step (fun _ k => XS.icmpYes X69.here hx rfl (pc0 := 216) (pc' := 221) rfl (hb hby at_216) rfl (teq (by decide : (0 : Int32) = (0 : Int32))).1 (by decide) (by decide) k) ?_
              show GoesW _ _ _ _ _ _ _ (T69.setTop (mkF m 221 _ []))
              refine GoesW.step (fun _ k => XS.aload X69.here hx rfl (hb hby at_221) rfl rfl k) ?_
              refine GoesW.step (fun _ k => XS.aload X69.here hx rfl (hb hby at_223) rfl rfl k) ?_
              obtain ⟨cq70, kq70, q70a, q70b, q70c⟩ := isOf hZ eh69 f50
              obtain ⟨_, _, ⟨T70, L70, k70, n70⟩, -, X70, ⟨Lc70, hQ70, l70, y70, z70⟩, st70⟩ := X69.virtualBack hx (y := (⟨"com/example/topicd/topicd/message/TopicQueue", "equals", "(Ljava/lang/Object;)Z"⟩ : MethodName)) (z := (⟨"com/example/topicd/topicd/message/TopicQueue", "equals", "(Ljava/lang/Object;)Z"⟩ : MethodName)) hown (mvT hZ w_37) (mvT hZ w_38) (notFace_of_selects (args := #[]) (mvT hZ w_40)) (mvT hZ w_40) (mvT hZ w_39) (by decide) (backOf (W := 0) (rm6_b l Z a0 hw [] b12 b12 r3 r3 p2 p2 cs3 cs3 zC T44.heap n0 Z56 f51 f52 f51 f52 f50 f46 f46 S_CS P5 XO45) hZ w_41 w_28 (by decide) (by decide)) q70a q70c (g := (mkF m 225 #[.val (.int p0), .val (.int p1), .val (.int p2), .val (.int p3), .val (.int p4), .val (.int (((p0.toUInt32 >>> ((24 : Int32) &&& 31).toUInt32).toInt32) &&& (3 : Int32))), .val (.int (0 : Int32)), .val (.int p1), .val (.int (((p1.toUInt32 >>> ((24 : Int32) &&& 31).toUInt32).toInt32) &&& (3 : Int32))), .val (.int p3), .val (.int (((p4.toUInt32 >>> ((3 : Int32) &&& 31).toUInt32).toInt32) &&& (3 : Int32))), .val (.ref r3), .val (.ref r6), .val (.ref b12), .val (.ref b31), .val (.ref b31), .val (.int (0 : Int32))] [(.ref b12), (.ref b12)])) rfl (by rw [hml]; rfl) (Steps.refl _) (argsL := [(.ref b12)]) (rest := []) (lenOf pd_5 rfl) rfl (by show 2 * 0 + _ ≤ _; exact Nat.le_of_eq rfl) (hb hby at_225) (fun _ _ => ⟨rfl, eh69, (by decide : 10 + 0 ≤ _), (by decide : 24 + 0 ≤ _)⟩)
              dsimp only [Pt.U, Pt.locs, Pt.cells, Pt.slots] at X70 l70 y70 z70 st70 hQ70
              rw [l70, y70, z70] at X70
              obtain ⟨N70, eh70, hR70⟩ := hQ70
              have NA70 := Fr.app NA69 N70
              rcases hR70 with ⟨rfl, u70, uu70⟩ | ⟨rfl, u70⟩
              · refine GoesW.back st70 ?_
                show GoesW _ _ _ _ _ _ _ (T70.setTop (mkF m 228 _ [(.int (1 : Int32))]))
                exact GoesW.ret1 X70 hS6 (by rw [eh70]; exact ZS56) hx (BodyLoose.notSynchronized Bd) Bd.returns rfl (Or.inl ⟨rfl, by simp, _, rfl⟩) (hb hby at_228) (by show Q0 Z p0 p1 p2 p3 p4 zC ca cc h0 n0 (some (.int (1 : Int32))) T70.vm T70.heap _; rw [eh70]; exact ⟨rfl, NA70⟩) (by decide) (by decide)
              · exact absurd ⟨(rfl : p2 = p2), (rfl : cs3 = cs3)⟩ u70
      · refine GoesW.step (fun _ k => XS.ifYes X44.here hx rfl (pc0 := 118) (pc' := 128) rfl (hb hby at_118) rfl ((if0 _ _).trans (feq c118_57).2) (by decide) (by decide) k) ?_
        show GoesW _ _ _ _ _ _ _ (T44.setTop (mkF m 128 _ []))
        refine GoesW.step (fun _ k => XS.iload X44.here hx rfl (hb hby at_128) rfl  k) ?_
        refine GoesW.step (fun _ k => XS.iconst X44.here hx rfl (hb hby at_130) k) ?_
        by_cases c131_71 : (((p4.toUInt32 >>> ((3 : Int32) &&& 31).toUInt32).toInt32) &&& (3 : Int32)) = (1 : Int32)
        · refine GoesW.step (fun _ k => XS.icmpNo X44.here hx rfl (hb hby at_131) rfl (teq c131_71).2 k) ?_
          show GoesW _ _ _ _ _ _ _ (T44.setTop (mkF m 134 _ []))
          refine GoesW.step (fun _ k => XS.aconstNull X44.here hx rfl (hb hby at_134) k) ?_
          refine GoesW.step (fun _ k => XS.astore X44.here hx rfl (hb hby at_135) rfl rfl (l' := #[.val (.int p0), .val (.int p1), .val (.int p2), .val (.int p3), .val (.int p4), .val (.int (((p0.toUInt32 >>> ((24 : Int32) &&& 31).toUInt32).toInt32) &&& (3 : Int32))), .val (.int (0 : Int32)), .val (.int p1), .val (.int (((p1.toUInt32 >>> ((24 : Int32) &&& 31).toUInt32).toInt32) &&& (3 : Int32))), .val (.int p3), .val (.int (((p4.toUInt32 >>> ((3 : Int32) &&& 31).toUInt32).toInt32) &&& (3 : Int32))), .val (.ref r3), .val (.ref r6), .val (.ref b12), .val (.ref b31), .val .null, .unset]) rfl k) ?_
          show GoesW _ _ _ _ _ _ _ (T44.setTop (mkF m 137 _ []))
          refine GoesW.step (fun _ k => XS.goto X44.here hx rfl (pc0 := 137) (pc' := 160) rfl (hb hby at_137) (by decide) (by decide) k) ?_
          show GoesW _ _ _ _ _ _ _ (T44.setTop (mkF m 160 _ []))
          refine GoesW.step (fun _ k => XS.iload X44.here hx rfl (hb hby at_160) rfl  k) ?_
          refine GoesW.step (fun _ k => XS.ifYes X44.here hx rfl (pc0 := 162) (pc' := 185) rfl (hb hby at_162) rfl ((if0 _ _).trans (feq c118_57).2) (by decide) (by decide) k) ?_
          show GoesW _ _ _ _ _ _ _ (T44.setTop (mkF m 185 _ []))
          refine GoesW.step (fun _ k => XS.iconst X44.here hx rfl (hb hby at_185) k) ?_
          refine GoesW.step (fun _ k => XS.istore X44.here hx rfl (hb hby at_186) rfl (l' := #[.val (.int p0), .val (.int p1), .val (.int p2), .val (.int p3), .val (.int p4), .val (.int (((p0.toUInt32 >>> ((24 : Int32) &&& 31).toUInt32).toInt32) &&& (3 : Int32))), .val (.int (0 : Int32)), .val (.int p1), .val (.int (((p1.toUInt32 >>> ((24 : Int32) &&& 31).toUInt32).toInt32) &&& (3 : Int32))), .val (.int p3), .val (.int (((p4.toUInt32 >>> ((3 : Int32) &&& 31).toUInt32).toInt32) &&& (3 : Int32))), .val (.ref r3), .val (.ref r6), .val (.ref b12), .val (.ref b31), .val .null, .val (.int (0 : Int32))]) rfl k) ?_
          show GoesW _ _ _ _ _ _ _ (T44.setTop (mkF m 188 _ []))
          refine GoesW.step (fun _ k => XS.aload X44.here hx rfl (hb hby at_188) rfl rfl k) ?_
          refine GoesW.step (fun _ k => XS.aload X44.here hx rfl (hb hby at_190) rfl rfl k) ?_
          obtain ⟨cq72, kq72, q72a, q72b, q72c⟩ := isOf hZ rfl f50
          obtain ⟨_, _, ⟨T72, L72, k72, n72⟩, -, X72, ⟨Lc72, hQ72, l72, y72, z72⟩, st72⟩ := X44.virtualBack hx (y := (⟨"com/example/topicd/topicd/message/TopicQueue", "equals", "(Ljava/lang/Object;)Z"⟩ : MethodName)) (z := (⟨"com/example/topicd/topicd/message/TopicQueue", "equals", "(Ljava/lang/Object;)Z"⟩ : MethodName)) hown (mvT hZ w_37) (mvT hZ w_38) (notFace_of_selects (args := #[]) (mvT hZ w_40)) (mvT hZ w_40) (mvT hZ w_39) (by decide) (backOf (W := 0) (rm6_n l Z a0 hw [] b12 T44.heap n0 Z56 ) hZ w_41 w_28 (by decide) (by decide)) q72a q72c (g := (mkF m 192 #[.val (.int p0), .val (.int p1), .val (.int p2), .val (.int p3), .val (.int p4), .val (.int (((p0.toUInt32 >>> ((24 : Int32) &&& 31).toUInt32).toInt32) &&& (3 : Int32))), .val (.int (0 : Int32)), .val (.int p1), .val (.int (((p1.toUInt32 >>> ((24 : Int32) &&& 31).toUInt32).toInt32) &&& (3 : Int32))), .val (.int p3), .val (.int (((p4.toUInt32 >>> ((3 : Int32) &&& 31).toUInt32).toInt32) &&& (3 : Int32))), .val (.ref r3), .val (.ref r6), .val (.ref b12), .val (.ref b31), .val .null, .val (.int (0 : Int32))] [.null, (.ref b12)])) rfl (by rw [hml]; rfl) (Steps.refl _) (argsL := [.null]) (rest := []) (lenOf pd_5 rfl) rfl (by show 2 * 0 + _ ≤ _; exact Nat.le_of_eq rfl) (hb hby at_192) (fun _ _ => ⟨rfl, rfl, (by decide : 10 + 0 ≤ _), (by decide : 24 + 0 ≤ _)⟩)
          dsimp only [Pt.U, Pt.locs, Pt.cells, Pt.slots] at X72 l72 y72 z72 st72 hQ72
          rw [l72, y72, z72] at X72
          obtain ⟨N72, eh72, hR72⟩ := hQ72
          have NA72 := Fr.app NA44 N72
          obtain rfl := hR72
          refine GoesW.back st72 ?_
          show GoesW _ _ _ _ _ _ _ (T72.setTop (mkF m 195 #[.val (.int p0), .val (.int p1), .val (.int p2), .val (.int p3), .val (.int p4), .val (.int (((p0.toUInt32 >>> ((24 : Int32) &&& 31).toUInt32).toInt32) &&& (3 : Int32))), .val (.int (0 : Int32)), .val (.int p1), .val (.int (((p1.toUInt32 >>> ((24 : Int32) &&& 31).toUInt32).toInt32) &&& (3 : Int32))), .val (.int p3), .val (.int (((p4.toUInt32 >>> ((3 : Int32) &&& 31).toUInt32).toInt32) &&& (3 : Int32))), .val (.ref r3), .val (.ref r6), .val (.ref b12), .val (.ref b31), .val .null, .val (.int (0 : Int32))] [(.int (0 : Int32))]))
          refine GoesW.step (fun _ k => XS.iload X72.here hx rfl (hb hby at_195) rfl  k) ?_
          refine GoesW.step (fun _ k => XS.icmpYes X72.here hx rfl (pc0 := 197) (pc' := 202) rfl (hb hby at_197) rfl (teq (by decide : (0 : Int32) = (0 : Int32))).1 (by decide) (by decide) k) ?_
          show GoesW _ _ _ _ _ _ _ (T72.setTop (mkF m 202 _ []))
          refine GoesW.step (fun _ k => XS.iload X72.here hx rfl (hb hby at_202) rfl  k) ?_
          refine GoesW.step (fun _ k => XS.ifYes X72.here hx rfl (pc0 := 204) (pc' := 221) rfl (hb hby at_204) rfl ((if0 _ _).trans (feq c118_57).2) (by decide) (by decide) k) ?_
          show GoesW _ _ _ _ _ _ _ (T72.setTop (mkF m 221 _ []))
          refine GoesW.step (fun _ k => XS.aload X72.here hx rfl (hb hby at_221) rfl rfl k) ?_
          refine GoesW.step (fun _ k => XS.aload X72.here hx rfl (hb hby at_223) rfl rfl k) ?_
          obtain ⟨cq73, kq73, q73a, q73b, q73c⟩ := isOf hZ eh72 f50
          obtain ⟨_, _, ⟨T73, L73, k73, n73⟩, -, X73, ⟨Lc73, hQ73, l73, y73, z73⟩, st73⟩ := X72.virtualBack hx (y := (⟨"com/example/topicd/topicd/message/TopicQueue", "equals", "(Ljava/lang/Object;)Z"⟩ : MethodName)) (z := (⟨"com/example/topicd/topicd/message/TopicQueue", "equals", "(Ljava/lang/Object;)Z"⟩ : MethodName)) hown (mvT hZ w_37) (mvT hZ w_38) (notFace_of_selects (args := #[]) (mvT hZ w_40)) (mvT hZ w_40) (mvT hZ w_39) (by decide) (backOf (W := 0) (rm6_b l Z a0 hw [] b12 b12 r3 r3 p2 p2 cs3 cs3 zC T44.heap n0 Z56 f51 f52 f51 f52 f50 f46 f46 S_CS P5 XO45) hZ w_41 w_28 (by decide) (by decide)) q73a q73c (g := (mkF m 225 #[.val (.int p0), .val (.int p1), .val (.int p2), .val (.int p3), .val (.int p4), .val (.int (((p0.toUInt32 >>> ((24 : Int32) &&& 31).toUInt32).toInt32) &&& (3 : Int32))), .val (.int (0 : Int32)), .val (.int p1), .val (.int (((p1.toUInt32 >>> ((24 : Int32) &&& 31).toUInt32).toInt32) &&& (3 : Int32))), .val (.int p3), .val (.int (((p4.toUInt32 >>> ((3 : Int32) &&& 31).toUInt32).toInt32) &&& (3 : Int32))), .val (.ref r3), .val (.ref r6), .val (.ref b12), .val (.ref b31), .val .null, .val (.int (0 : Int32))] [(.ref b12), (.ref b12)])) rfl (by rw [hml]; rfl) (Steps.refl _) (argsL := [(.ref b12)]) (rest := []) (lenOf pd_5 rfl) rfl (by show 2 * 0 + _ ≤ _; exact Nat.le_of_eq rfl) (hb hby at_225) (fun _ _ => ⟨rfl, eh72, (by decide : 10 + 0 ≤ _), (by decide : 24 + 0 ≤ _)⟩)
          dsimp only [Pt.U, Pt.locs, Pt.cells, Pt.slots] at X73 l73 y73 z73 st73 hQ73
          rw [l73, y73, z73] at X73
          obtain ⟨N73, eh73, hR73⟩ := hQ73
          have NA73 := Fr.app NA72 N73
          rcases hR73 with ⟨rfl, u73, uu73⟩ | ⟨rfl, u73⟩
          · refine GoesW.back st73 ?_
            show GoesW _ _ _ _ _ _ _ (T73.setTop (mkF m 228 _ [(.int (1 : Int32))]))
            exact GoesW.ret1 X73 hS6 (by rw [eh73]; exact ZS56) hx (BodyLoose.notSynchronized Bd) Bd.returns rfl (Or.inl ⟨rfl, by simp, _, rfl⟩) (hb hby at_228) (by show Q0 Z p0 p1 p2 p3 p4 zC ca cc h0 n0 (some (.int (1 : Int32))) T73.vm T73.heap _; rw [eh73]; exact ⟨rfl, NA73⟩) (by decide) (by decide)
          · exact absurd ⟨(rfl : p2 = p2), (rfl : cs3 = cs3)⟩ u73
        · refine GoesW.step (fun _ k => XS.icmpYes X44.here hx rfl (pc0 := 131) (pc' := 140) rfl (hb hby at_131) rfl (feq c131_71).2 (by decide) (by decide) k) ?_
          show GoesW _ _ _ _ _ _ _ (T44.setTop (mkF m 140 _ []))
          refine GoesW.step (fun _ k => XS.iload X44.here hx rfl (hb hby at_140) rfl  k) ?_
          refine GoesW.step (fun _ k => XS.iconst X44.here hx rfl (hb hby at_142) k) ?_
          by_cases c143_74 : (((p4.toUInt32 >>> ((3 : Int32) &&& 31).toUInt32).toInt32) &&& (3 : Int32)) = (2 : Int32)
          · refine GoesW.step (fun _ k => XS.icmpNo X44.here hx rfl (hb hby at_143) rfl (teq c143_74).2 k) ?_
            show GoesW _ _ _ _ _ _ _ (T44.setTop (mkF m 146 _ []))
            refine GoesW.step (fun _ k => XS.aload X44.here hx rfl (hb hby at_146) rfl rfl k) ?_
            refine GoesW.step (fun _ k => XS.astore X44.here hx rfl (hb hby at_148) rfl rfl (l' := #[.val (.int p0), .val (.int p1), .val (.int p2), .val (.int p3), .val (.int p4), .val (.int (((p0.toUInt32 >>> ((24 : Int32) &&& 31).toUInt32).toInt32) &&& (3 : Int32))), .val (.int (0 : Int32)), .val (.int p1), .val (.int (((p1.toUInt32 >>> ((24 : Int32) &&& 31).toUInt32).toInt32) &&& (3 : Int32))), .val (.int p3), .val (.int (((p4.toUInt32 >>> ((3 : Int32) &&& 31).toUInt32).toInt32) &&& (3 : Int32))), .val (.ref r3), .val (.ref r6), .val (.ref b12), .val (.ref b31), .val (.ref r6), .unset]) rfl k) ?_
            show GoesW _ _ _ _ _ _ _ (T44.setTop (mkF m 150 _ []))
            refine GoesW.step (fun _ k => XS.goto X44.here hx rfl (pc0 := 150) (pc' := 160) rfl (hb hby at_150) (by decide) (by decide) k) ?_
            show GoesW _ _ _ _ _ _ _ (T44.setTop (mkF m 160 _ []))
            refine GoesW.step (fun _ k => XS.iload X44.here hx rfl (hb hby at_160) rfl  k) ?_
            refine GoesW.step (fun _ k => XS.ifYes X44.here hx rfl (pc0 := 162) (pc' := 185) rfl (hb hby at_162) rfl ((if0 _ _).trans (feq c118_57).2) (by decide) (by decide) k) ?_
            show GoesW _ _ _ _ _ _ _ (T44.setTop (mkF m 185 _ []))
            refine GoesW.step (fun _ k => XS.iconst X44.here hx rfl (hb hby at_185) k) ?_
            refine GoesW.step (fun _ k => XS.istore X44.here hx rfl (hb hby at_186) rfl (l' := #[.val (.int p0), .val (.int p1), .val (.int p2), .val (.int p3), .val (.int p4), .val (.int (((p0.toUInt32 >>> ((24 : Int32) &&& 31).toUInt32).toInt32) &&& (3 : Int32))), .val (.int (0 : Int32)), .val (.int p1), .val (.int (((p1.toUInt32 >>> ((24 : Int32) &&& 31).toUInt32).toInt32) &&& (3 : Int32))), .val (.int p3), .val (.int (((p4.toUInt32 >>> ((3 : Int32) &&& 31).toUInt32).toInt32) &&& (3 : Int32))), .val (.ref r3), .val (.ref r6), .val (.ref b12), .val (.ref b31), .val (.ref r6), .val (.int (0 : Int32))]) rfl k) ?_
            show GoesW _ _ _ _ _ _ _ (T44.setTop (mkF m 188 #[.val (.int p0), .val (.int p1), .val (.int p2), .val (.int p3), .val (.int p4), .val (.int (((p0.toUInt32 >>> ((24 : Int32) &&& 31).toUInt32).toInt32) &&& (3 : Int32))), .val (.int (0 : Int32)), .val (.int p1), .val (.int (((p1.toUInt32 >>> ((24 : Int32) &&& 31).toUInt32).toInt32) &&& (3 : Int32))), .val (.int p3), .val (.int (((p4.toUInt32 >>> ((3 : Int32) &&& 31).toUInt32).toInt32) &&& (3 : Int32))), .val (.ref r3), .val (.ref r6), .val (.ref b12), .val (.ref b31), .val (.ref r6), .val (.int (0 : Int32))] []))
            refine GoesW.step (fun _ k => XS.aload X44.here hx rfl (hb hby at_188) rfl rfl k) ?_
            refine GoesW.step (fun _ k => XS.aload X44.here hx rfl (hb hby at_190) rfl rfl k) ?_
            obtain ⟨cq75, kq75, q75a, q75b, q75c⟩ := isOf hZ rfl f50
            obtain ⟨_, _, ⟨T75, L75, k75, n75⟩, -, X75, ⟨Lc75, hQ75, l75, y75, z75⟩, st75⟩ := X44.virtualBack hx (y := (⟨"com/example/topicd/topicd/message/TopicQueue", "equals", "(Ljava/lang/Object;)Z"⟩ : MethodName)) (z := (⟨"com/example/topicd/topicd/message/TopicQueue", "equals", "(Ljava/lang/Object;)Z"⟩ : MethodName)) hown (mvT hZ w_37) (mvT hZ w_38) (notFace_of_selects (args := #[]) (mvT hZ w_40)) (mvT hZ w_40) (mvT hZ w_39) (by decide) (backOf (W := 0) (rm6_s l Z a0 hw [] b12 r6 T44.heap n0 Z56 f49) hZ w_41 w_28 (by decide) (by decide)) q75a q75c (g := (mkF m 192 #[.val (.int p0), .val (.int p1), .val (.int p2), .val (.int p3), .val (.int p4), .val (.int (((p0.toUInt32 >>> ((24 : Int32) &&& 31).toUInt32).toInt32) &&& (3 : Int32))), .val (.int (0 : Int32)), .val (.int p1), .val (.int (((p1.toUInt32 >>> ((24 : Int32) &&& 31).toUInt32).toInt32) &&& (3 : Int32))), .val (.int p3), .val (.int (((p4.toUInt32 >>> ((3 : Int32) &&& 31).toUInt32).toInt32) &&& (3 : Int32))), .val (.ref r3), .val (.ref r6), .val (.ref b12), .val (.ref b31), .val (.ref r6), .val (.int (0 : Int32))] [(.ref r6), (.ref b12)])) rfl (by rw [hml]; rfl) (Steps.refl _) (argsL := [(.ref r6)]) (rest := []) (lenOf pd_5 rfl) rfl (by show 2 * 0 + _ ≤ _; exact Nat.le_of_eq rfl) (hb hby at_192) (fun _ _ => ⟨rfl, rfl, (by decide : 10 + 0 ≤ _), (by decide : 24 + 0 ≤ _)⟩)
            dsimp only [Pt.U, Pt.locs, Pt.cells, Pt.slots] at X75 l75 y75 z75 st75 hQ75
            rw [l75, y75, z75] at X75
            obtain ⟨N75, eh75, hR75⟩ := hQ75
            have NA75 := Fr.app NA44 N75
            obtain rfl := hR75
            refine GoesW.back st75 ?_
            show GoesW _ _ _ _ _ _ _ (T75.setTop (mkF m 195 _ [(.int (0 : Int32))]))
            refine GoesW.step (fun _ k => XS.iload X75.here hx rfl (hb hby at_195) rfl  k) ?_
            refine GoesW.step (fun _ k => XS.icmpYes X75.here hx rfl (pc0 := 197) (pc' := 202) rfl (hb hby at_197) rfl (teq (by decide : (0 : Int32) = (0 : Int32))).1 (by decide) (by decide) k) ?_
            show GoesW _ _ _ _ _ _ _ (T75.setTop (mkF m 202 _ []))
            refine GoesW.step (fun _ k => XS.iload X75.here hx rfl (hb hby at_202) rfl  k) ?_
            refine GoesW.step (fun _ k => XS.ifYes X75.here hx rfl (pc0 := 204) (pc' := 221) rfl (hb hby at_204) rfl ((if0 _ _).trans (feq c118_57).2) (by decide) (by decide) k) ?_
            show GoesW _ _ _ _ _ _ _ (T75.setTop (mkF m 221 _ []))
            refine GoesW.step (fun _ k => XS.aload X75.here hx rfl (hb hby at_221) rfl rfl k) ?_
            refine GoesW.step (fun _ k => XS.aload X75.here hx rfl (hb hby at_223) rfl rfl k) ?_
            obtain ⟨cq76, kq76, q76a, q76b, q76c⟩ := isOf hZ eh75 f50
            obtain ⟨_, _, ⟨T76, L76, k76, n76⟩, -, X76, ⟨Lc76, hQ76, l76, y76, z76⟩, st76⟩ := X75.virtualBack hx (y := (⟨"com/example/topicd/topicd/message/TopicQueue", "equals", "(Ljava/lang/Object;)Z"⟩ : MethodName)) (z := (⟨"com/example/topicd/topicd/message/TopicQueue", "equals", "(Ljava/lang/Object;)Z"⟩ : MethodName)) hown (mvT hZ w_37) (mvT hZ w_38) (notFace_of_selects (args := #[]) (mvT hZ w_40)) (mvT hZ w_40) (mvT hZ w_39) (by decide) (backOf (W := 0) (rm6_b l Z a0 hw [] b12 b12 r3 r3 p2 p2 cs3 cs3 zC T44.heap n0 Z56 f51 f52 f51 f52 f50 f46 f46 S_CS P5 XO45) hZ w_41 w_28 (by decide) (by decide)) q76a q76c (g := (mkF m 225 #[.val (.int p0), .val (.int p1), .val (.int p2), .val (.int p3), .val (.int p4), .val (.int (((p0.toUInt32 >>> ((24 : Int32) &&& 31).toUInt32).toInt32) &&& (3 : Int32))), .val (.int (0 : Int32)), .val (.int p1), .val (.int (((p1.toUInt32 >>> ((24 : Int32) &&& 31).toUInt32).toInt32) &&& (3 : Int32))), .val (.int p3), .val (.int (((p4.toUInt32 >>> ((3 : Int32) &&& 31).toUInt32).toInt32) &&& (3 : Int32))), .val (.ref r3), .val (.ref r6), .val (.ref b12), .val (.ref b31), .val (.ref r6), .val (.int (0 : Int32))] [(.ref b12), (.ref b12)])) rfl (by rw [hml]; rfl) (Steps.refl _) (argsL := [(.ref b12)]) (rest := []) (lenOf pd_5 rfl) rfl (by show 2 * 0 + _ ≤ _; exact Nat.le_of_eq rfl) (hb hby at_225) (fun _ _ => ⟨rfl, eh75, (by decide : 10 + 0 ≤ _), (by decide : 24 + 0 ≤ _)⟩)
            dsimp only [Pt.U, Pt.locs, Pt.cells, Pt.slots] at X76 l76 y76 z76 st76 hQ76
            rw [l76, y76, z76] at X76
            obtain ⟨N76, eh76, hR76⟩ := hQ76
            have NA76 := Fr.app NA75 N76
            rcases hR76 with ⟨rfl, u76, uu76⟩ | ⟨rfl, u76⟩
            · refine GoesW.back st76 ?_
              show GoesW _ _ _ _ _ _ _ (T76.setTop (mkF m 228 _ [(.int (1 : Int32))]))
              exact GoesW.ret1 X76 hS6 (by rw [eh76]; exact ZS56) hx (BodyLoose.notSynchronized Bd) Bd.returns rfl (Or.inl ⟨rfl, by simp, _, rfl⟩) (hb hby at_228) (by show Q0 Z p0 p1 p2 p3 p4 zC ca cc h0 n0 (some (.int (1 : Int32))) T76.vm T76.heap _; rw [eh76]; exact ⟨rfl, NA76⟩) (by decide) (by decide)
            · exact absurd ⟨(rfl : p2 = p2), (rfl : cs3 = cs3)⟩ u76
          · refine GoesW.step (fun _ k => XS.icmpYes X44.here hx rfl (pc0 := 143) (pc' := 153) rfl (hb hby at_143) rfl (feq c143_74).2 (by decide) (by decide) k) ?_
            show GoesW _ _ _ _ _ _ _ (T44.setTop (mkF m 153 _ []))
            refine GoesW.step (fun _ k => XS.iload X44.here hx rfl (hb hby at_153) rfl  k) ?_
            obtain ⟨_, _, ⟨T77, L77, k77, n77⟩, -, X77, ⟨Lc77, hQ77, l77, y77, z77⟩, st77⟩ := Jvm.LawKit.callS X44 hx (y := (⟨"java/lang/Integer", "valueOf", "(I)Ljava/lang/Integer;"⟩ : MethodName)) hown (mvT hZ w_66) (mvT hZ w_67) (mvT hZ w_68) (mvT hZ w_69) (by decide) (backOf (W := 0) (rm12 l Z a0 hw [] p3 ca cc T44.heap n0 Z56 (S_high.ext XO45.2) (S_cache.ext XO45.2) BX XO45) hZ w_69 w_68 (by decide) (by decide)) (g := (mkF m 155 #[.val (.int p0), .val (.int p1), .val (.int p2), .val (.int p3), .val (.int p4), .val (.int (((p0.toUInt32 >>> ((24 : Int32) &&& 31).toUInt32).toInt32) &&& (3 : Int32))), .val (.int (0 : Int32)), .val (.int p1), .val (.int (((p1.toUInt32 >>> ((24 : Int32) &&& 31).toUInt32).toInt32) &&& (3 : Int32))), .val (.int p3), .val (.int (((p4.toUInt32 >>> ((3 : Int32) &&& 31).toUInt32).toInt32) &&& (3 : Int32))), .val (.ref r3), .val (.ref r6), .val (.ref b12), .val (.ref b31), .unset, .unset] [(.int p3)])) rfl (by rw [hml]; rfl) (argsL := [(.int p3)]) (rest := []) (lenOf pd_10 rfl) rfl (by show 2 * 0 + _ ≤ _; exact Nat.le_of_eq rfl) (hb hby at_155) (fun _ _ => ⟨rfl, rfl, (by decide : 10 + 1 ≤ _), (by decide : 24 + 1 ≤ _)⟩)
            dsimp only [Pt.U, Pt.locs, Pt.cells, Pt.slots] at X77 l77 y77 z77 st77 hQ77
            rw [l77, y77, z77] at X77
            obtain ⟨N77, KK77, r77, rfl, ex77, v77_0⟩ := hQ77
            have NA77 := Fr.app NA44 N77
            have XO78 : Old Z n0 T77.heap := XO45.keep KK77 all0
            have f79 := f46.keep0 KK77
            have f80 := f47.keep KK77
            have f81 := f48.keep0 KK77
            have f82 := f49.keep KK77
            have f83 := f50.keep KK77
            have f84 := f51.keep KK77 nin0
            have f85 := f52.keep KK77 nin0
            have f86 := v44_0_2.keep KK77
            have f87 := v44_0_0.keep KK77 nin0
            have f88 := v44_0_1.keep KK77 nin0
            have K89 : Keep h0 T77.heap [] := K56.trans KK77 all0
            have Z89 : n0 ≤ T77.heap.size := Nat.le_trans Z56 KK77.1
            have ZS89 : T6.heap.size ≤ T77.heap.size := Nat.le_trans ZS56 KK77.1
            refine GoesW.step st77 ?_
            show GoesW _ _ _ _ _ _ _ (T77.setTop (mkF m 158 _ [(.ref r77)]))
            refine GoesW.step (fun _ k => XS.astore X77.here hx rfl (hb hby at_158) rfl rfl (l' := #[.val (.int p0), .val (.int p1), .val (.int p2), .val (.int p3), .val (.int p4), .val (.int (((p0.toUInt32 >>> ((24 : Int32) &&& 31).toUInt32).toInt32) &&& (3 : Int32))), .val (.int (0 : Int32)), .val (.int p1), .val (.int (((p1.toUInt32 >>> ((24 : Int32) &&& 31).toUInt32).toInt32) &&& (3 : Int32))), .val (.int p3), .val (.int (((p4.toUInt32 >>> ((3 : Int32) &&& 31).toUInt32).toInt32) &&& (3 : Int32))), .val (.ref r3), .val (.ref r6), .val (.ref b12), .val (.ref b31), .val (.ref r77), .unset]) rfl k) ?_
            show GoesW _ _ _ _ _ _ _ (T77.setTop (mkF m 160 _ []))
            refine GoesW.step (fun _ k => XS.iload X77.here hx rfl (hb hby at_160) rfl  k) ?_
            refine GoesW.step (fun _ k => XS.ifYes X77.here hx rfl (pc0 := 162) (pc' := 185) rfl (hb hby at_162) rfl ((if0 _ _).trans (feq c118_57).2) (by decide) (by decide) k) ?_
            show GoesW _ _ _ _ _ _ _ (T77.setTop (mkF m 185 _ []))
            refine GoesW.step (fun _ k => XS.iconst X77.here hx rfl (hb hby at_185) k) ?_
            refine GoesW.step (fun _ k => XS.istore X77.here hx rfl (hb hby at_186) rfl (l' := #[.val (.int p0), .val (.int p1), .val (.int p2), .val (.int p3), .val (.int p4), .val (.int (((p0.toUInt32 >>> ((24 : Int32) &&& 31).toUInt32).toInt32) &&& (3 : Int32))), .val (.int (0 : Int32)), .val (.int p1), .val (.int (((p1.toUInt32 >>> ((24 : Int32) &&& 31).toUInt32).toInt32) &&& (3 : Int32))), .val (.int p3), .val (.int (((p4.toUInt32 >>> ((3 : Int32) &&& 31).toUInt32).toInt32) &&& (3 : Int32))), .val (.ref r3), .val (.ref r6), .val (.ref b12), .val (.ref b31), .val (.ref r77), .val (.int (0 : Int32))]) rfl k) ?_
            show GoesW _ _ _ _ _ _ _ (T77.setTop (mkF m 188 #[.val (.int p0), .val (.int p1), .val (.int p2), .val (.int p3), .val (.int p4), .val (.int (((p0.toUInt32 >>> ((24 : Int32) &&& 31).toUInt32).toInt32) &&& (3 : Int32))), .val (.int (0 : Int32)), .val (.int p1), .val (.int (((p1.toUInt32 >>> ((24 : Int32) &&& 31).toUInt32).toInt32) &&& (3 : Int32))), .val (.int p3), .val (.int (((p4.toUInt32 >>> ((3 : Int32) &&& 31).toUInt32).toInt32) &&& (3 : Int32))), .val (.ref r3), .val (.ref r6), .val (.ref b12), .val (.ref b31), .val (.ref r77), .val (.int (0 : Int32))] []))
            refine GoesW.step (fun _ k => XS.aload X77.here hx rfl (hb hby at_188) rfl rfl k) ?_
            refine GoesW.step (fun _ k => XS.aload X77.here hx rfl (hb hby at_190) rfl rfl k) ?_
            obtain ⟨cq90, kq90, q90a, q90b, q90c⟩ := isOf hZ rfl f83
            obtain ⟨_, _, ⟨T90, L90, k90, n90⟩, -, X90, ⟨Lc90, hQ90, l90, y90, z90⟩, st90⟩ := X77.virtualBack hx (y := (⟨"com/example/topicd/topicd/message/TopicQueue", "equals", "(Ljava/lang/Object;)Z"⟩ : MethodName)) (z := (⟨"com/example/topicd/topicd/message/TopicQueue", "equals", "(Ljava/lang/Object;)Z"⟩ : MethodName)) hown (mvT hZ w_37) (mvT hZ w_38) (notFace_of_selects (args := #[]) (mvT hZ w_40)) (mvT hZ w_40) (mvT hZ w_39) (by decide) (backOf (W := 0) (rm6_i l Z a0 hw [] b12 r77 T77.heap n0 Z89 ex77) hZ w_41 w_28 (by decide) (by decide)) q90a q90c (g := (mkF m 192 #[.val (.int p0), .val (.int p1), .val (.int p2), .val (.int p3), .val (.int p4), .val (.int (((p0.toUInt32 >>> ((24 : Int32) &&& 31).toUInt32).toInt32) &&& (3 : Int32))), .val (.int (0 : Int32)), .val (.int p1), .val (.int (((p1.toUInt32 >>> ((24 : Int32) &&& 31).toUInt32).toInt32) &&& (3 : Int32))), .val (.int p3), .val (.int (((p4.toUInt32 >>> ((3 : Int32) &&& 31).toUInt32).toInt32) &&& (3 : Int32))), .val (.ref r3), .val (.ref r6), .val (.ref b12), .val (.ref b31), .val (.ref r77), .val (.int (0 : Int32))] [(.ref r77), (.ref b12)])) rfl (by rw [hml]; rfl) (Steps.refl _) (argsL := [(.ref r77)]) (rest := []) (lenOf pd_5 rfl) rfl (by show 2 * 0 + _ ≤ _; exact Nat.le_of_eq rfl) (hb hby at_192) (fun _ _ => ⟨rfl, rfl, (by decide : 11 + 0 ≤ _), (by decide : 25 + 0 ≤ _)⟩)
            dsimp only [Pt.U, Pt.locs, Pt.cells, Pt.slots] at X90 l90 y90 z90 st90 hQ90
            rw [l90, y90, z90] at X90
            obtain ⟨N90, eh90, hR90⟩ := hQ90
            have NA90 := Fr.app NA77 N90
            obtain rfl := hR90
            refine GoesW.back st90 ?_
            show GoesW _ _ _ _ _ _ _ (T90.setTop (mkF m 195 _ [(.int (0 : Int32))]))
            refine GoesW.step (fun _ k => XS.iload X90.here hx rfl (hb hby at_195) rfl  k) ?_
            refine GoesW.step (fun _ k => XS.icmpYes X90.here hx rfl (pc0 := 197) (pc' := 202) rfl (hb hby at_197) rfl (teq (by decide : (0 : Int32) = (0 : Int32))).1 (by decide) (by decide) k) ?_
            show GoesW _ _ _ _ _ _ _ (T90.setTop (mkF m 202 _ []))
            refine GoesW.step (fun _ k => XS.iload X90.here hx rfl (hb hby at_202) rfl  k) ?_
            refine GoesW.step (fun _ k => XS.ifYes X90.here hx rfl (pc0 := 204) (pc' := 221) rfl (hb hby at_204) rfl ((if0 _ _).trans (feq c118_57).2) (by decide) (by decide) k) ?_
            show GoesW _ _ _ _ _ _ _ (T90.setTop (mkF m 221 _ []))
            refine GoesW.step (fun _ k => XS.aload X90.here hx rfl (hb hby at_221) rfl rfl k) ?_
            refine GoesW.step (fun _ k => XS.aload X90.here hx rfl (hb hby at_223) rfl rfl k) ?_
            obtain ⟨cq91, kq91, q91a, q91b, q91c⟩ := isOf hZ eh90 f83
            obtain ⟨_, _, ⟨T91, L91, k91, n91⟩, -, X91, ⟨Lc91, hQ91, l91, y91, z91⟩, st91⟩ := X90.virtualBack hx (y := (⟨"com/example/topicd/topicd/message/TopicQueue", "equals", "(Ljava/lang/Object;)Z"⟩ : MethodName)) (z := (⟨"com/example/topicd/topicd/message/TopicQueue", "equals", "(Ljava/lang/Object;)Z"⟩ : MethodName)) hown (mvT hZ w_37) (mvT hZ w_38) (notFace_of_selects (args := #[]) (mvT hZ w_40)) (mvT hZ w_40) (mvT hZ w_39) (by decide) (backOf (W := 0) (rm6_b l Z a0 hw [] b12 b12 r3 r3 p2 p2 cs3 cs3 zC T77.heap n0 Z89 f84 f85 f84 f85 f83 f79 f79 S_CS P5 XO78) hZ w_41 w_28 (by decide) (by decide)) q91a q91c (g := (mkF m 225 #[.val (.int p0), .val (.int p1), .val (.int p2), .val (.int p3), .val (.int p4), .val (.int (((p0.toUInt32 >>> ((24 : Int32) &&& 31).toUInt32).toInt32) &&& (3 : Int32))), .val (.int (0 : Int32)), .val (.int p1), .val (.int (((p1.toUInt32 >>> ((24 : Int32) &&& 31).toUInt32).toInt32) &&& (3 : Int32))), .val (.int p3), .val (.int (((p4.toUInt32 >>> ((3 : Int32) &&& 31).toUInt32).toInt32) &&& (3 : Int32))), .val (.ref r3), .val (.ref r6), .val (.ref b12), .val (.ref b31), .val (.ref r77), .val (.int (0 : Int32))] [(.ref b12), (.ref b12)])) rfl (by rw [hml]; rfl) (Steps.refl _) (argsL := [(.ref b12)]) (rest := []) (lenOf pd_5 rfl) rfl (by show 2 * 0 + _ ≤ _; exact Nat.le_of_eq rfl) (hb hby at_225) (fun _ _ => ⟨rfl, eh90, (by decide : 11 + 0 ≤ _), (by decide : 25 + 0 ≤ _)⟩)
            dsimp only [Pt.U, Pt.locs, Pt.cells, Pt.slots] at X91 l91 y91 z91 st91 hQ91
            rw [l91, y91, z91] at X91
            obtain ⟨N91, eh91, hR91⟩ := hQ91
            have NA91 := Fr.app NA90 N91
            rcases hR91 with ⟨rfl, u91, uu91⟩ | ⟨rfl, u91⟩
            · refine GoesW.back st91 ?_
              show GoesW _ _ _ _ _ _ _ (T91.setTop (mkF m 228 _ [(.int (1 : Int32))]))
              exact GoesW.ret1 X91 hS6 (by rw [eh91]; exact ZS89) hx (BodyLoose.notSynchronized Bd) Bd.returns rfl (Or.inl ⟨rfl, by simp, _, rfl⟩) (hb hby at_228) (by show Q0 Z p0 p1 p2 p3 p4 zC ca cc h0 n0 (some (.int (1 : Int32))) T91.vm T91.heap _; rw [eh91]; exact ⟨rfl, NA91⟩) (by decide) (by decide)
            · exact absurd ⟨(rfl : p2 = p2), (rfl : cs3 = cs3)⟩ u91
    · refine GoesW.step (fun _ k => XS.ifNo X0.here hx rfl (hb hby at_56) rfl ((if0 _ _).trans (feq c56_2).1) k) ?_
      show GoesW _ _ _ _ _ _ _ (s₁.setTop (mkF m 59 #[.val (.int p0), .val (.int p1), .val (.int p2), .val (.int p3), .val (.int p4), .val (.int (((p0.toUInt32 >>> ((24 : Int32) &&& 31).toUInt32).toInt32) &&& (3 : Int32))), .val (.int (0 : Int32)), .val (.int p1), .val (.int (((p1.toUInt32 >>> ((24 : Int32) &&& 31).toUInt32).toInt32) &&& (3 : Int32))), .unset, .unset, .unset, .unset, .unset, .unset, .unset, .unset] []))
      refine GoesW.step (fun _ k => XS.iloadN X0.here hx rfl (hb hby at_59) rfl  k) ?_
      refine GoesW.step (fun _ k => XS.goto X0.here hx rfl (pc0 := 60) (pc' := 64) rfl (hb hby at_60) (by decide) (by decide) k) ?_
      show GoesW _ _ _ _ _ _ _ (s₁.setTop (mkF m 64 _ [(.int p2)]))
      refine GoesW.step (fun _ k => XS.istore X0.here hx rfl (hb hby at_64) rfl (l' := #[.val (.int p0), .val (.int p1), .val (.int p2), .val (.int p3), .val (.int p4), .val (.int (((p0.toUInt32 >>> ((24 : Int32) &&& 31).toUInt32).toInt32) &&& (3 : Int32))), .val (.int (0 : Int32)), .val (.int p1), .val (.int (((p1.toUInt32 >>> ((24 : Int32) &&& 31).toUInt32).toInt32) &&& (3 : Int32))), .val (.int p2), .unset, .unset, .unset, .unset, .unset, .unset, .unset]) rfl k) ?_
      show GoesW _ _ _ _ _ _ _ (s₁.setTop (mkF m 66 _ []))
      refine GoesW.step (fun _ k => XS.iload X0.here hx rfl (hb hby at_66) rfl  k) ?_
      refine GoesW.step (fun _ k => XS.iconst X0.here hx rfl (hb hby at_68) k) ?_
      refine GoesW.step (fun _ k => XS.iushr X0.here hx rfl (hb hby at_69) rfl k) ?_
      show GoesW _ _ _ _ _ _ _ (s₁.setTop (mkF m 70 _ [(.int ((p4.toUInt32 >>> ((3 : Int32) &&& 31).toUInt32).toInt32))]))
      refine GoesW.step (fun _ k => XS.iconst X0.here hx rfl (hb hby at_70) k) ?_
      refine GoesW.step (fun _ k => XS.iand X0.here hx rfl (hb hby at_71) rfl k) ?_
      show GoesW _ _ _ _ _ _ _ (s₁.setTop (mkF m 72 _ [(.int (((p4.toUInt32 >>> ((3 : Int32) &&& 31).toUInt32).toInt32) &&& (3 : Int32)))]))
      refine GoesW.step (fun _ k => XS.istore X0.here hx rfl (hb hby at_72) rfl (l' := #[.val (.int p0), .val (.int p1), .val (.int p2), .val (.int p3), .val (.int p4), .val (.int (((p0.toUInt32 >>> ((24 : Int32) &&& 31).toUInt32).toInt32) &&& (3 : Int32))), .val (.int (0 : Int32)), .val (.int p1), .val (.int (((p1.toUInt32 >>> ((24 : Int32) &&& 31).toUInt32).toInt32) &&& (3 : Int32))), .val (.int p2), .val (.int (((p4.toUInt32 >>> ((3 : Int32) &&& 31).toUInt32).toInt32) &&& (3 : Int32))), .unset, .unset, .unset, .unset, .unset, .unset]) rfl k) ?_
      show GoesW _ _ _ _ _ _ _ (s₁.setTop (mkF m 74 _ []))
      refine GoesW.step (fun _ k => XS.iloadN X0.here hx rfl (hb hby at_74) rfl  k) ?_
      refine GoesW.step (fun _ k => XS.iload X0.here hx rfl (hb hby at_75) rfl  k) ?_
      obtain ⟨_, _, ⟨T92, L92, k92, n92⟩, -, X92, hs92, hg92, ⟨Lc92, hQ92, l92, y92, z92⟩, st92⟩ := callSS X0 hx (y := (⟨"com/example/topicd/topicd/message/TopicQueueEqualsPinLaw", "str", "(II)Ljava/lang/String;"⟩ : MethodName)) hown (mvT hZ w_0) (mvT hZ w_1) (mvT hZ w_2) (mvT hZ w_3) (by decide) (own_backS (W := 0) (rm1 l Z a0 hw [] p0 (((p0.toUInt32 >>> ((24 : Int32) &&& 31).toUInt32).toInt32) &&& (3 : Int32)) zC h0 n0 Z0 S_CS P5 X00 hheld hcw) hZ w_3 w_2 (by decide) (by decide)) (g := (mkF m 77 #[.val (.int p0), .val (.int p1), .val (.int p2), .val (.int p3), .val (.int p4), .val (.int (((p0.toUInt32 >>> ((24 : Int32) &&& 31).toUInt32).toInt32) &&& (3 : Int32))), .val (.int (0 : Int32)), .val (.int p1), .val (.int (((p1.toUInt32 >>> ((24 : Int32) &&& 31).toUInt32).toInt32) &&& (3 : Int32))), .val (.int p2), .val (.int (((p4.toUInt32 >>> ((3 : Int32) &&& 31).toUInt32).toInt32) &&& (3 : Int32))), .unset, .unset, .unset, .unset, .unset, .unset] [(.int (((p0.toUInt32 >>> ((24 : Int32) &&& 31).toUInt32).toInt32) &&& (3 : Int32))), (.int p0)])) rfl (by rw [hml]; rfl) (argsL := [(.int p0), (.int (((p0.toUInt32 >>> ((24 : Int32) &&& 31).toUInt32).toInt32) &&& (3 : Int32)))]) (rest := []) (lenOf pd_0 rfl) rfl (by show 2 * 0 + _ ≤ _; exact Nat.le_of_eq rfl) (hb hby at_77) (fun _ hWc => ⟨rfl, e0, (by decide : 0 + 4 ≤ _), (by decide : 0 + 10 ≤ _), own_CH.warm (s := s) hCH hWc⟩)
      dsimp only [Pt.U, Pt.locs, Pt.cells, Pt.slots] at X92 l92 y92 z92 st92 hQ92 hs92 hg92
      rw [l92, y92, z92] at X92
      have XX92 := X92
      have hS92 := hs92
      have hZ : Z.Warmed39 (s.setVm T92.vm).vm := State.Warmed39.trans (t := s) hZ hs92.1
      have hown : (s.setVm T92.vm).vm.findClass "com/example/topicd/topicd/message/TopicQueueEqualsPinLaw" = some m.cls := (hs92.1.alike.findClass _ _).trans hown
      obtain ⟨N92, KK92, CH92, r92, cs92, rfl, g_r92, le_r92, SS92⟩ := hQ92
      have NA92 := Fr.app N0 N92
      have sz_r92 : h0.size ≤ r92 := Nat.le_trans K0.1 le_r92
      have XO93 : Old Z n0 T92.heap := X00.keep KK92 all0
      have K94 : Keep h0 T92.heap [] := K0.trans KK92 all0
      have Z94 : n0 ≤ T92.heap.size := Nat.le_trans Z0 KK92.1
      have ES92 := SS92.exa
      refine GoesW.back st92 ?_
      show GoesW _ _ _ _ _ _ _ (T92.setTop (mkF m 80 _ [(.ref r92)]))
      refine GoesW.step (fun _ k => XS.astore XX92.here hx rfl (hb hby at_80) rfl rfl (l' := #[.val (.int p0), .val (.int p1), .val (.int p2), .val (.int p3), .val (.int p4), .val (.int (((p0.toUInt32 >>> ((24 : Int32) &&& 31).toUInt32).toInt32) &&& (3 : Int32))), .val (.int (0 : Int32)), .val (.int p1), .val (.int (((p1.toUInt32 >>> ((24 : Int32) &&& 31).toUInt32).toInt32) &&& (3 : Int32))), .val (.int p2), .val (.int (((p4.toUInt32 >>> ((3 : Int32) &&& 31).toUInt32).toInt32) &&& (3 : Int32))), .val (.ref r92), .unset, .unset, .unset, .unset, .unset]) rfl k) ?_
      show GoesW _ _ _ _ _ _ _ (T92.setTop (mkF m 82 #[.val (.int p0), .val (.int p1), .val (.int p2), .val (.int p3), .val (.int p4), .val (.int (((p0.toUInt32 >>> ((24 : Int32) &&& 31).toUInt32).toInt32) &&& (3 : Int32))), .val (.int (0 : Int32)), .val (.int p1), .val (.int (((p1.toUInt32 >>> ((24 : Int32) &&& 31).toUInt32).toInt32) &&& (3 : Int32))), .val (.int p2), .val (.int (((p4.toUInt32 >>> ((3 : Int32) &&& 31).toUInt32).toInt32) &&& (3 : Int32))), .val (.ref r92), .unset, .unset, .unset, .unset, .unset] []))
      refine GoesW.step (fun _ k => XS.iload XX92.here hx rfl (hb hby at_82) rfl  k) ?_
      refine GoesW.step (fun _ k => XS.iload XX92.here hx rfl (hb hby at_84) rfl  k) ?_
      obtain ⟨_, _, ⟨T95, L95, k95, n95⟩, -, X95, hs95, hg95, ⟨Lc95, hQ95, l95, y95, z95⟩, st95⟩ := callSS XX92 hx (y := (⟨"com/example/topicd/topicd/message/TopicQueueEqualsPinLaw", "str", "(II)Ljava/lang/String;"⟩ : MethodName)) hown (mvT hZ w_0) (mvT hZ w_1) (mvT hZ w_2) (mvT hZ w_3) (by decide) (own_backS (W := 0) (rm1 l Z a0 hw [] p1 (((p1.toUInt32 >>> ((24 : Int32) &&& 31).toUInt32).toInt32) &&& (3 : Int32)) zC T92.heap n0 Z94 S_CS P5 XO93 hheld hcw) hZ w_3 w_2 (by decide) (by decide)) (g := (mkF m 86 #[.val (.int p0), .val (.int p1), .val (.int p2), .val (.int p3), .val (.int p4), .val (.int (((p0.toUInt32 >>> ((24 : Int32) &&& 31).toUInt32).toInt32) &&& (3 : Int32))), .val (.int (0 : Int32)), .val (.int p1), .val (.int (((p1.toUInt32 >>> ((24 : Int32) &&& 31).toUInt32).toInt32) &&& (3 : Int32))), .val (.int p2), .val (.int (((p4.toUInt32 >>> ((3 : Int32) &&& 31).toUInt32).toInt32) &&& (3 : Int32))), .val (.ref r92), .unset, .unset, .unset, .unset, .unset] [(.int (((p1.toUInt32 >>> ((24 : Int32) &&& 31).toUInt32).toInt32) &&& (3 : Int32))), (.int p1)])) rfl (by rw [hml]; rfl) (argsL := [(.int p1), (.int (((p1.toUInt32 >>> ((24 : Int32) &&& 31).toUInt32).toInt32) &&& (3 : Int32)))]) (rest := []) (lenOf pd_0 rfl) rfl (by show 2 * 0 + _ ≤ _; exact Nat.le_of_eq rfl) (hb hby at_86) (fun _ hWc => ⟨rfl, rfl, (by decide : 4 + 4 ≤ _), (by decide : 10 + 10 ≤ _), own_CH.warm (s := (s.setVm T92.vm)) CH92 hWc⟩)
      dsimp only [Pt.U, Pt.locs, Pt.cells, Pt.slots] at X95 l95 y95 z95 st95 hQ95 hs95 hg95
      rw [l95, y95, z95] at X95
      obtain ⟨XX95, hS95⟩ := Stand.againW X95 hS92 hs95 (Nat.le_trans (Nat.le_refl _) hg95)
      have hZ : Z.Warmed39 (s.setVm T95.vm).vm := State.Warmed39.trans (t := (s.setVm T92.vm)) hZ hs95.1
      have hown : (s.setVm T95.vm).vm.findClass "com/example/topicd/topicd/message/TopicQueueEqualsPinLaw" = some m.cls := (hs95.1.alike.findClass _ _).trans hown
      obtain ⟨N95, KK95, CH95, r95, cs95, rfl, g_r95, le_r95, SS95⟩ := hQ95
      have NA95 := Fr.app NA92 N95
      have ne96 : r92 ≠ r95 := Nat.ne_of_lt (Nat.lt_of_lt_of_le SS92.lt le_r95)
      have sz_r95 : h0.size ≤ r95 := Nat.le_trans K94.1 le_r95
      have XO97 : Old Z n0 T95.heap := XO93.keep KK95 all0
      have f98 := SS92.keep0 KK95
      have f99 := ES92.keep KK95
      have K100 : Keep h0 T95.heap [] := K94.trans KK95 all0
      have Z100 : n0 ≤ T95.heap.size := Nat.le_trans Z94 KK95.1
      have ES95 := SS95.exa
      refine GoesW.back st95 ?_
      show GoesW _ _ _ _ _ _ _ (T95.setTop (mkF m 89 _ [(.ref r95)]))
      refine GoesW.step (fun _ k => XS.astore XX95.here hx rfl (hb hby at_89) rfl rfl (l' := #[.val (.int p0), .val (.int p1), .val (.int p2), .val (.int p3), .val (.int p4), .val (.int (((p0.toUInt32 >>> ((24 : Int32) &&& 31).toUInt32).toInt32) &&& (3 : Int32))), .val (.int (0 : Int32)), .val (.int p1), .val (.int (((p1.toUInt32 >>> ((24 : Int32) &&& 31).toUInt32).toInt32) &&& (3 : Int32))), .val (.int p2), .val (.int (((p4.toUInt32 >>> ((3 : Int32) &&& 31).toUInt32).toInt32) &&& (3 : Int32))), .val (.ref r92), .val (.ref r95), .unset, .unset, .unset, .unset]) rfl k) ?_
      show GoesW _ _ _ _ _ _ _ (T95.setTop (mkF m 91 _ []))
      obtain ⟨T101, h101, X101, e101, E101, A101, D101, -, st101⟩ := newO XX95 hx hZ hown w_26 w_27 w_28 rfl (g := (mkF m 91 #[.val (.int p0), .val (.int p1), .val (.int p2), .val (.int p3), .val (.int p4), .val (.int (((p0.toUInt32 >>> ((24 : Int32) &&& 31).toUInt32).toInt32) &&& (3 : Int32))), .val (.int (0 : Int32)), .val (.int p1), .val (.int (((p1.toUInt32 >>> ((24 : Int32) &&& 31).toUInt32).toInt32) &&& (3 : Int32))), .val (.int p2), .val (.int (((p4.toUInt32 >>> ((3 : Int32) &&& 31).toUInt32).toInt32) &&& (3 : Int32))), .val (.ref r92), .val (.ref r95), .unset, .unset, .unset, .unset] [])) rfl (hb hby at_91) (by decide) (by decide)
      obtain ⟨b101, g101⟩ : ∃ z, z = T95.heap.size := ⟨_, rfl⟩
      rw [← g101] at A101 D101 st101
      refine GoesW.step st101 ?_
      have g_b101 : n0 ≤ b101 := Nat.le_trans Z100 (Nat.le_of_eq g101.symm)
      have sz_b101 : h0.size ≤ b101 := Nat.le_trans K100.1 (Nat.le_of_eq g101.symm)
      have ne102 : r92 ≠ b101 := Nat.ne_of_lt (Nat.lt_of_lt_of_le f98.lt (Nat.le_of_eq g101.symm))
      have ne103 : r95 ≠ b101 := Nat.ne_of_lt (Nat.lt_of_lt_of_le SS95.lt (Nat.le_of_eq g101.symm))
      have XO104 : Old Z n0 h101 := XO97.ext E101
      have f105 := f98.ext E101
      have f106 := f99.ext E101
      have f107 := SS95.ext E101
      have f108 := ES95.ext E101
      have K109 : Keep h0 h101 [] := K100.ext E101
      have Z109 : n0 ≤ h101.size := Nat.le_trans Z100 E101.1
      have ZS109 : T95.heap.size ≤ h101.size := Nat.le_trans (Nat.le_refl _) E101.1
      have E_b101 := A101
      have F_topic_b101 : Fld Z h101 b101 "com/example/topicd/topicd/message/TopicQueue" "topic" "Ljava/lang/String;" .null := D101 (Or.inr w_34) (ty := (.object "java/lang/String")) (by decide)
      have F_queueId_b101 : Fld Z h101 b101 "com/example/topicd/topicd/message/TopicQueue" "queueId" "I" (.int (0 : Int32)) := D101 (Or.inr w_36) (ty := .int) (by decide)
      show GoesW _ _ _ _ _ _ _ (T101.setTop (mkF m 94 _ [(.ref b101)]))
      refine GoesW.step (fun _ k => XS.dup X101.here hx rfl (hb hby at_94) rfl rfl k) ?_
      refine GoesW.step (fun _ k => XS.aload X101.here hx rfl (hb hby at_95) rfl rfl k) ?_
      refine GoesW.step (fun _ k => XS.iloadN X101.here hx rfl (hb hby at_97) rfl  k) ?_
      obtain ⟨_, _, ⟨T110, L110, k110, n110⟩, -, X110, ⟨Lc110, hQ110, l110, y110, z110⟩, st110⟩ := X101.specialBack hx (y := (⟨"com/example/topicd/topicd/message/TopicQueue", "<init>", "(Ljava/lang/String;I)V"⟩ : MethodName)) rfl hown (mvT hZ w_29) (mvT hZ w_30) (mvT hZ w_31) (by decide) (backOf (W := 1) (rm5 l Z a0 hw [] b101 r92 p2 h101 n0 Z109 F_topic_b101 F_queueId_b101 E_b101 g_b101) hZ w_31 w_28 (by decide) (by decide)) (g := (mkF m 98 #[.val (.int p0), .val (.int p1), .val (.int p2), .val (.int p3), .val (.int p4), .val (.int (((p0.toUInt32 >>> ((24 : Int32) &&& 31).toUInt32).toInt32) &&& (3 : Int32))), .val (.int (0 : Int32)), .val (.int p1), .val (.int (((p1.toUInt32 >>> ((24 : Int32) &&& 31).toUInt32).toInt32) &&& (3 : Int32))), .val (.int p2), .val (.int (((p4.toUInt32 >>> ((3 : Int32) &&& 31).toUInt32).toInt32) &&& (3 : Int32))), .val (.ref r92), .val (.ref r95), .unset, .unset, .unset, .unset] [(.int p2), (.ref r92), (.ref b101), (.ref b101)])) rfl (by rw [hml]; rfl) (Steps.refl _) (a := b101) (argsL := [(.ref r92), (.int p2)]) (rest := [(.ref b101)]) (lenOf pd_4 rfl) rfl (by show 2 * 0 + _ ≤ _; exact Nat.le_of_eq rfl) (hb hby at_98) (fun _ _ => ⟨rfl, e101, (by decide : 9 + 0 ≤ _), (by decide : 22 + 0 ≤ _)⟩)
      dsimp only [Pt.U, Pt.locs, Pt.cells, Pt.slots] at X110 l110 y110 z110 st110 hQ110
      rw [l110, y110, z110] at X110
      obtain ⟨N110, KK110, hR110⟩ := hQ110
      have NA110 := Fr.app NA95 N110
      have XO111 : Old Z n0 T110.heap := XO104.keep KK110 (allS g_b101 all0)
      have f112 := f105.keepT KK110 E_b101 w_27 (by decide)
      have f113 := f106.keep KK110
      have f114 := f107.keepT KK110 E_b101 w_27 (by decide)
      have f115 := f108.keep KK110
      have f116 := E_b101.keep KK110
      have K119 : Keep h0 T110.heap [] := K109.trans KK110 (allS (Or.inr sz_b101) all0)
      have Z119 : n0 ≤ T110.heap.size := Nat.le_trans Z109 KK110.1
      have ZS119 : T95.heap.size ≤ T110.heap.size := Nat.le_trans ZS109 KK110.1
      obtain ⟨rfl, v110_0_0, v110_0_1, v110_0_2⟩ := hR110
      refine GoesW.back st110 ?_
      show GoesW _ _ _ _ _ _ _ (T110.setTop (mkF m 101 _ [(.ref b101)]))
      refine GoesW.step (fun _ k => XS.astore X110.here hx rfl (hb hby at_101) rfl rfl (l' := #[.val (.int p0), .val (.int p1), .val (.int p2), .val (.int p3), .val (.int p4), .val (.int (((p0.toUInt32 >>> ((24 : Int32) &&& 31).toUInt32).toInt32) &&& (3 : Int32))), .val (.int (0 : Int32)), .val (.int p1), .val (.int (((p1.toUInt32 >>> ((24 : Int32) &&& 31).toUInt32).toInt32) &&& (3 : Int32))), .val (.int p2), .val (.int (((p4.toUInt32 >>> ((3 : Int32) &&& 31).toUInt32).toInt32) &&& (3 : Int32))), .val (.ref r92), .val (.ref r95), .val (.ref b101), .unset, .unset, .unset]) rfl k) ?_
      show GoesW _ _ _ _ _ _ _ (T110.setTop (mkF m 103 _ []))
      obtain ⟨T120, h120, X120, e120, E120, A120, D120, -, st120⟩ := newO X110 hx hZ hown w_26 w_27 w_28 rfl (g := (mkF m 103 #[.val (.int p0), .val (.int p1), .val (.int p2), .val (.int p3), .val (.int p4), .val (.int (((p0.toUInt32 >>> ((24 : Int32) &&& 31).toUInt32).toInt32) &&& (3 : Int32))), .val (.int (0 : Int32)), .val (.int p1), .val (.int (((p1.toUInt32 >>> ((24 : Int32) &&& 31).toUInt32).toInt32) &&& (3 : Int32))), .val (.int p2), .val (.int (((p4.toUInt32 >>> ((3 : Int32) &&& 31).toUInt32).toInt32) &&& (3 : Int32))), .val (.ref r92), .val (.ref r95), .val (.ref b101), .unset, .unset, .unset] [])) rfl (hb hby at_103) (by decide) (by decide)
      obtain ⟨b120, g120⟩ : ∃ z, z = T110.heap.size := ⟨_, rfl⟩
      rw [← g120] at A120 D120 st120
      refine GoesW.step st120 ?_
      have g_b120 : n0 ≤ b120 := Nat.le_trans Z119 (Nat.le_of_eq g120.symm)
      have sz_b120 : h0.size ≤ b120 := Nat.le_trans K119.1 (Nat.le_of_eq g120.symm)
      have ne121 : r92 ≠ b120 := Nat.ne_of_lt (Nat.lt_of_lt_of_le f112.lt (Nat.le_of_eq g120.symm))
      have ne122 : r95 ≠ b120 := Nat.ne_of_lt (Nat.lt_of_lt_of_le f114.lt (Nat.le_of_eq g120.symm))
      have ne123 : b101 ≠ b120 := Nat.ne_of_lt (Nat.lt_of_lt_of_le v110_0_2.lt (Nat.le_of_eq g120.symm))
      have XO124 : Old Z n0 h120 := XO111.ext E120
      have f125 := f112.ext E120
      have f126 := f113.ext E120
      have f127 := f114.ext E120
      have f128 := f115.ext E120
      have f129 := v110_0_2.ext E120
      have f130 := v110_0_0.ext E120
      have f131 := v110_0_1.ext E120
      have K132 : Keep h0 h120 [] := K119.ext E120
      have Z132 : n0 ≤ h120.size := Nat.le_trans Z119 E120.1
      have ZS132 : T95.heap.size ≤ h120.size := Nat.le_trans ZS119 E120.1
      have E_b120 := A120
      have F_topic_b120 : Fld Z h120 b120 "com/example/topicd/topicd/message/TopicQueue" "topic" "Ljava/lang/String;" .null := D120 (Or.inr w_34) (ty := (.object "java/lang/String")) (by decide)
      have F_queueId_b120 : Fld Z h120 b120 "com/example/topicd/topicd/message/TopicQueue" "queueId" "I" (.int (0 : Int32)) := D120 (Or.inr w_36) (ty := .int) (by decide)
      show GoesW _ _ _ _ _ _ _ (T120.setTop (mkF m 106 _ [(.ref b120)]))
      refine GoesW.step (fun _ k => XS.dup X120.here hx rfl (hb hby at_106) rfl rfl k) ?_
      refine GoesW.step (fun _ k => XS.aload X120.here hx rfl (hb hby at_107) rfl rfl k) ?_
      refine GoesW.step (fun _ k => XS.iload X120.here hx rfl (hb hby at_109) rfl  k) ?_
      obtain ⟨_, _, ⟨T133, L133, k133, n133⟩, -, X133, ⟨Lc133, hQ133, l133, y133, z133⟩, st133⟩ := X120.specialBack hx (y := (⟨"com/example/topicd/topicd/message/TopicQueue", "<init>", "(Ljava/lang/String;I)V"⟩ : MethodName)) rfl hown (mvT hZ w_29) (mvT hZ w_30) (mvT hZ w_31) (by decide) (backOf (W := 1) (rm5 l Z a0 hw [] b120 r95 p2 h120 n0 Z132 F_topic_b120 F_queueId_b120 E_b120 g_b120) hZ w_31 w_28 (by decide) (by decide)) (g := (mkF m 111 #[.val (.int p0), .val (.int p1), .val (.int p2), .val (.int p3), .val (.int p4), .val (.int (((p0.toUInt32 >>> ((24 : Int32) &&& 31).toUInt32).toInt32) &&& (3 : Int32))), .val (.int (0 : Int32)), .val (.int p1), .val (.int (((p1.toUInt32 >>> ((24 : Int32) &&& 31).toUInt32).toInt32) &&& (3 : Int32))), .val (.int p2), .val (.int (((p4.toUInt32 >>> ((3 : Int32) &&& 31).toUInt32).toInt32) &&& (3 : Int32))), .val (.ref r92), .val (.ref r95), .val (.ref b101), .unset, .unset, .unset] [(.int p2), (.ref r95), (.ref b120), (.ref b120)])) rfl (by rw [hml]; rfl) (Steps.refl _) (a := b120) (argsL := [(.ref r95), (.int p2)]) (rest := [(.ref b120)]) (lenOf pd_4 rfl) rfl (by show 2 * 0 + _ ≤ _; exact Nat.le_of_eq rfl) (hb hby at_111) (fun _ _ => ⟨rfl, e120, (by decide : 10 + 0 ≤ _), (by decide : 24 + 0 ≤ _)⟩)
      dsimp only [Pt.U, Pt.locs, Pt.cells, Pt.slots] at X133 l133 y133 z133 st133 hQ133
      rw [l133, y133, z133] at X133
      obtain ⟨N133, KK133, hR133⟩ := hQ133
      have NA133 := Fr.app NA110 N133
      have XO134 : Old Z n0 T133.heap := XO124.keep KK133 (allS g_b120 all0)
      have f135 := f125.keepT KK133 E_b120 w_27 (by decide)
      have f136 := f126.keep KK133
      have f137 := f127.keepT KK133 E_b120 w_27 (by decide)
      have f138 := f128.keep KK133
      have f139 := f129.keep KK133
      have f140 := f130.keep KK133 (ninS ne123 nin0)
      have f141 := f131.keep KK133 (ninS ne123 nin0)
      have f142 := E_b120.keep KK133
      have K145 : Keep h0 T133.heap [] := K132.trans KK133 (allS (Or.inr sz_b120) all0)
      have Z145 : n0 ≤ T133.heap.size := Nat.le_trans Z132 KK133.1
      have ZS145 : T95.heap.size ≤ T133.heap.size := Nat.le_trans ZS132 KK133.1
      obtain ⟨rfl, v133_0_0, v133_0_1, v133_0_2⟩ := hR133
      refine GoesW.back st133 ?_
      show GoesW _ _ _ _ _ _ _ (T133.setTop (mkF m 114 #[.val (.int p0), .val (.int p1), .val (.int p2), .val (.int p3), .val (.int p4), .val (.int (((p0.toUInt32 >>> ((24 : Int32) &&& 31).toUInt32).toInt32) &&& (3 : Int32))), .val (.int (0 : Int32)), .val (.int p1), .val (.int (((p1.toUInt32 >>> ((24 : Int32) &&& 31).toUInt32).toInt32) &&& (3 : Int32))), .val (.int p2), .val (.int (((p4.toUInt32 >>> ((3 : Int32) &&& 31).toUInt32).toInt32) &&& (3 : Int32))), .val (.ref r92), .val (.ref r95), .val (.ref b101), .unset, .unset, .unset] [(.ref b120)]))
      refine GoesW.step (fun _ k => XS.astore X133.here hx rfl (hb hby at_114) rfl rfl (l' := #[.val (.int p0), .val (.int p1), .val (.int p2), .val (.int p3), .val (.int p4), .val (.int (((p0.toUInt32 >>> ((24 : Int32) &&& 31).toUInt32).toInt32) &&& (3 : Int32))), .val (.int (0 : Int32)), .val (.int p1), .val (.int (((p1.toUInt32 >>> ((24 : Int32) &&& 31).toUInt32).toInt32) &&& (3 : Int32))), .val (.int p2), .val (.int (((p4.toUInt32 >>> ((3 : Int32) &&& 31).toUInt32).toInt32) &&& (3 : Int32))), .val (.ref r92), .val (.ref r95), .val (.ref b101), .val (.ref b120), .unset, .unset]) rfl k) ?_
      show GoesW _ _ _ _ _ _ _ (T133.setTop (mkF m 116 _ []))
      refine GoesW.step (fun _ k => XS.iload X133.here hx rfl (hb hby at_116) rfl  k) ?_
      by_cases c118_146 : (((p4.toUInt32 >>> ((3 : Int32) &&& 31).toUInt32).toInt32) &&& (3 : Int32)) = (0 : Int32)
      · refine GoesW.step (fun _ k => XS.ifNo X133.here hx rfl (hb hby at_118) rfl ((if0 _ _).trans (teq c118_146).2) k) ?_
        show GoesW _ _ _ _ _ _ _ (T133.setTop (mkF m 121 _ []))
        refine GoesW.step (fun _ k => XS.aload X133.here hx rfl (hb hby at_121) rfl rfl k) ?_
        refine GoesW.step (fun _ k => XS.astore X133.here hx rfl (hb hby at_123) rfl rfl (l' := #[.val (.int p0), .val (.int p1), .val (.int p2), .val (.int p3), .val (.int p4), .val (.int (((p0.toUInt32 >>> ((24 : Int32) &&& 31).toUInt32).toInt32) &&& (3 : Int32))), .val (.int (0 : Int32)), .val (.int p1), .val (.int (((p1.toUInt32 >>> ((24 : Int32) &&& 31).toUInt32).toInt32) &&& (3 : Int32))), .val (.int p2), .val (.int (((p4.toUInt32 >>> ((3 : Int32) &&& 31).toUInt32).toInt32) &&& (3 : Int32))), .val (.ref r92), .val (.ref r95), .val (.ref b101), .val (.ref b120), .val (.ref b120), .unset]) rfl k) ?_
        show GoesW _ _ _ _ _ _ _ (T133.setTop (mkF m 125 _ []))
        refine GoesW.step (fun _ k => XS.goto X133.here hx rfl (pc0 := 125) (pc' := 160) rfl (hb hby at_125) (by decide) (by decide) k) ?_
        show GoesW _ _ _ _ _ _ _ (T133.setTop (mkF m 160 _ []))
        refine GoesW.step (fun _ k => XS.iload X133.here hx rfl (hb hby at_160) rfl  k) ?_
        refine GoesW.step (fun _ k => XS.ifNo X133.here hx rfl (hb hby at_162) rfl ((if0 _ _).trans (teq c118_146).2) k) ?_
        show GoesW _ _ _ _ _ _ _ (T133.setTop (mkF m 165 _ []))
        refine GoesW.step (fun _ k => XS.iloadN X133.here hx rfl (hb hby at_165) rfl  k) ?_
        refine GoesW.step (fun _ k => XS.iload X133.here hx rfl (hb hby at_166) rfl  k) ?_
        refine GoesW.step (fun _ k => XS.icmpNo X133.here hx rfl (hb hby at_168) rfl (teq (rfl : p2 = p2)).2 k) ?_
        show GoesW _ _ _ _ _ _ _ (T133.setTop (mkF m 171 _ []))
        refine GoesW.step (fun _ k => XS.aload X133.here hx rfl (hb hby at_171) rfl rfl k) ?_
        refine GoesW.step (fun _ k => XS.aload X133.here hx rfl (hb hby at_173) rfl rfl k) ?_
        obtain ⟨et148, ek148, en148, ev148, e1_148, e2_148, e3_148, e4_148, e5_148, e6_148, e7_148⟩ := id f135
        obtain ⟨et149, ek149, en149, ev149, e1_149, e2_149, e3_149, e4_149, e5_149, e6_149, e7_149⟩ := id f137
        obtain ⟨cq147, kq147, q147a, q147b, q147c⟩ := isOf hZ rfl f136
        obtain ⟨_, _, ⟨T147, L147, k147, n147⟩, -, X147, ⟨Lc147, hQ147, l147, y147, z147⟩, st147⟩ := X133.virtualBack hx (y := (⟨"java/lang/String", "equals", "(Ljava/lang/Object;)Z"⟩ : MethodName)) (z := (⟨"java/lang/String", "equals", "(Ljava/lang/Object;)Z"⟩ : MethodName)) hown (mvT hZ w_49) (mvT hZ w_45) (notFace_of_selects (args := #[]) (mvT hZ w_47)) (mvT hZ w_47) (mvT hZ w_46) (by decide) (StrChars.Road.eqW (W := 0) hZ hwe (kI := 4) w_5 e1_148 e2_148 e3_148 e4_148 e5_148 e6_148 e7_148 e1_149 e2_149 e3_149 e4_149 e5_149 e6_149 e7_149 (S_CS.ext XO134.2) P5 (by decide) (by decide)) q147a q147c (g := (mkF m 175 #[.val (.int p0), .val (.int p1), .val (.int p2), .val (.int p3), .val (.int p4), .val (.int (((p0.toUInt32 >>> ((24 : Int32) &&& 31).toUInt32).toInt32) &&& (3 : Int32))), .val (.int (0 : Int32)), .val (.int p1), .val (.int (((p1.toUInt32 >>> ((24 : Int32) &&& 31).toUInt32).toInt32) &&& (3 : Int32))), .val (.int p2), .val (.int (((p4.toUInt32 >>> ((3 : Int32) &&& 31).toUInt32).toInt32) &&& (3 : Int32))), .val (.ref r92), .val (.ref r95), .val (.ref b101), .val (.ref b120), .val (.ref b120), .unset] [(.ref r95), (.ref r92)])) rfl (by rw [hml]; rfl) (Steps.refl _) (argsL := [(.ref r95)]) (rest := []) (lenOf pd_5 rfl) rfl (by show 2 * 0 + _ ≤ _; exact Nat.le_of_eq rfl) (hb hby at_175) (fun _ _ => ⟨rfl, rfl, (by decide : 10 + 0 ≤ _), (by decide : 24 + 0 ≤ _)⟩)
        dsimp only [Pt.U, Pt.locs, Pt.cells, Pt.slots] at X147 l147 y147 z147 st147 hQ147
        rw [l147, y147, z147] at X147
        obtain ⟨hR147, rfl, eh147⟩ := hQ147
        have NA147 := Fr.app NA133 (Fr.nil n0)
        rcases hR147 with ⟨rfl, u147⟩ | ⟨rfl, u147⟩
        · refine GoesW.back st147 ?_
          show GoesW _ _ _ _ _ _ _ (T147.setTop (mkF m 178 #[.val (.int p0), .val (.int p1), .val (.int p2), .val (.int p3), .val (.int p4), .val (.int (((p0.toUInt32 >>> ((24 : Int32) &&& 31).toUInt32).toInt32) &&& (3 : Int32))), .val (.int (0 : Int32)), .val (.int p1), .val (.int (((p1.toUInt32 >>> ((24 : Int32) &&& 31).toUInt32).toInt32) &&& (3 : Int32))), .val (.int p2), .val (.int (((p4.toUInt32 >>> ((3 : Int32) &&& 31).toUInt32).toInt32) &&& (3 : Int32))), .val (.ref r92), .val (.ref r95), .val (.ref b101), .val (.ref b120), .val (.ref b120), .unset] [(.int (1 : Int32))]))
          refine GoesW.step (fun _ k => XS.ifNo X147.here hx rfl (hb hby at_178) rfl ((if0 _ _).trans (feq (by decide : ¬ ((1 : Int32) = (0 : Int32)))).1) k) ?_
          show GoesW _ _ _ _ _ _ _ (T147.setTop (mkF m 181 _ []))
          refine GoesW.step (fun _ k => XS.iconst X147.here hx rfl (hb hby at_181) k) ?_
          refine GoesW.step (fun _ k => XS.goto X147.here hx rfl (pc0 := 182) (pc' := 186) rfl (hb hby at_182) (by decide) (by decide) k) ?_
          show GoesW _ _ _ _ _ _ _ (T147.setTop (mkF m 186 _ [(.int (1 : Int32))]))
          refine GoesW.step (fun _ k => XS.istore X147.here hx rfl (hb hby at_186) rfl (l' := #[.val (.int p0), .val (.int p1), .val (.int p2), .val (.int p3), .val (.int p4), .val (.int (((p0.toUInt32 >>> ((24 : Int32) &&& 31).toUInt32).toInt32) &&& (3 : Int32))), .val (.int (0 : Int32)), .val (.int p1), .val (.int (((p1.toUInt32 >>> ((24 : Int32) &&& 31).toUInt32).toInt32) &&& (3 : Int32))), .val (.int p2), .val (.int (((p4.toUInt32 >>> ((3 : Int32) &&& 31).toUInt32).toInt32) &&& (3 : Int32))), .val (.ref r92), .val (.ref r95), .val (.ref b101), .val (.ref b120), .val (.ref b120), .val (.int (1 : Int32))]) rfl k) ?_
          show GoesW _ _ _ _ _ _ _ (T147.setTop (mkF m 188 _ []))
          refine GoesW.step (fun _ k => XS.aload X147.here hx rfl (hb hby at_188) rfl rfl k) ?_
          refine GoesW.step (fun _ k => XS.aload X147.here hx rfl (hb hby at_190) rfl rfl k) ?_
          obtain ⟨cq150, kq150, q150a, q150b, q150c⟩ := isOf hZ eh147 f139
          obtain ⟨_, _, ⟨T150, L150, k150, n150⟩, -, X150, ⟨Lc150, hQ150, l150, y150, z150⟩, st150⟩ := X147.virtualBack hx (y := (⟨"com/example/topicd/topicd/message/TopicQueue", "equals", "(Ljava/lang/Object;)Z"⟩ : MethodName)) (z := (⟨"com/example/topicd/topicd/message/TopicQueue", "equals", "(Ljava/lang/Object;)Z"⟩ : MethodName)) hown (mvT hZ w_37) (mvT hZ w_38) (notFace_of_selects (args := #[]) (mvT hZ w_40)) (mvT hZ w_40) (mvT hZ w_39) (by decide) (backOf (W := 0) (rm6_b l Z a0 hw [] b101 b120 r92 r95 p2 p2 cs92 cs95 zC T133.heap n0 Z145 f140 f141 v133_0_0 v133_0_1 v133_0_2 f135 f137 S_CS P5 XO134) hZ w_41 w_28 (by decide) (by decide)) q150a q150c (g := (mkF m 192 #[.val (.int p0), .val (.int p1), .val (.int p2), .val (.int p3), .val (.int p4), .val (.int (((p0.toUInt32 >>> ((24 : Int32) &&& 31).toUInt32).toInt32) &&& (3 : Int32))), .val (.int (0 : Int32)), .val (.int p1), .val (.int (((p1.toUInt32 >>> ((24 : Int32) &&& 31).toUInt32).toInt32) &&& (3 : Int32))), .val (.int p2), .val (.int (((p4.toUInt32 >>> ((3 : Int32) &&& 31).toUInt32).toInt32) &&& (3 : Int32))), .val (.ref r92), .val (.ref r95), .val (.ref b101), .val (.ref b120), .val (.ref b120), .val (.int (1 : Int32))] [(.ref b120), (.ref b101)])) rfl (by rw [hml]; rfl) (Steps.refl _) (argsL := [(.ref b120)]) (rest := []) (lenOf pd_5 rfl) rfl (by show 2 * 0 + _ ≤ _; exact Nat.le_of_eq rfl) (hb hby at_192) (fun _ _ => ⟨rfl, eh147, (by decide : 10 + 0 ≤ _), (by decide : 24 + 0 ≤ _)⟩)
          dsimp only [Pt.U, Pt.locs, Pt.cells, Pt.slots] at X150 l150 y150 z150 st150 hQ150
          rw [l150, y150, z150] at X150
          obtain ⟨N150, eh150, hR150⟩ := hQ150
          have NA150 := Fr.app NA147 N150
          rcases hR150 with ⟨rfl, u150, uu150⟩ | ⟨rfl, u150⟩
          · refine GoesW.back st150 ?_
            show GoesW _ _ _ _ _ _ _ (T150.setTop (mkF m 195 _ [(.int (1 : Int32))]))
            refine GoesW.step (fun _ k => XS.iload X150.here hx rfl (hb hby at_195) rfl  k) ?_
            refine GoesW.step (fun _ k => XS.icmpYes X150.here hx rfl (pc0 := 197) (pc' := 202) rfl (hb hby at_197) rfl (teq (by decide : (1 : Int32) = (1 : Int32))).1 (by decide) (by decide) k) ?_
            show GoesW _ _ _ _ _ _ _ (T150.setTop (mkF m 202 _ []))
            refine GoesW.step (fun _ k => XS.iload X150.here hx rfl (hb hby at_202) rfl  k) ?_
            refine GoesW.step (fun _ k => XS.ifNo X150.here hx rfl (hb hby at_204) rfl ((if0 _ _).trans (teq c118_146).2) k) ?_
            show GoesW _ _ _ _ _ _ _ (T150.setTop (mkF m 207 _ []))
            refine GoesW.step (fun _ k => XS.aload X150.here hx rfl (hb hby at_207) rfl rfl k) ?_
            refine GoesW.step (fun _ k => XS.aload X150.here hx rfl (hb hby at_209) rfl rfl k) ?_
            obtain ⟨cq151, kq151, q151a, q151b, q151c⟩ := isOf hZ eh150 v133_0_2
            obtain ⟨_, _, ⟨T151, L151, k151, n151⟩, -, X151, ⟨Lc151, hQ151, l151, y151, z151⟩, st151⟩ := X150.virtualBack hx (y := (⟨"com/example/topicd/topicd/message/TopicQueue", "equals", "(Ljava/lang/Object;)Z"⟩ : MethodName)) (z := (⟨"com/example/topicd/topicd/message/TopicQueue", "equals", "(Ljava/lang/Object;)Z"⟩ : MethodName)) hown (mvT hZ w_37) (mvT hZ w_38) (notFace_of_selects (args := #[]) (mvT hZ w_40)) (mvT hZ w_40) (mvT hZ w_39) (by decide) (backOf (W := 0) (rm6_b l Z a0 hw [] b120 b101 r95 r92 p2 p2 cs95 cs92 zC T133.heap n0 Z145 v133_0_0 v133_0_1 f140 f141 f139 f137 f135 S_CS P5 XO134) hZ w_41 w_28 (by decide) (by decide)) q151a q151c (g := (mkF m 211 #[.val (.int p0), .val (.int p1), .val (.int p2), .val (.int p3), .val (.int p4), .val (.int (((p0.toUInt32 >>> ((24 : Int32) &&& 31).toUInt32).toInt32) &&& (3 : Int32))), .val (.int (0 : Int32)), .val (.int p1), .val (.int (((p1.toUInt32 >>> ((24 : Int32) &&& 31).toUInt32).toInt32) &&& (3 : Int32))), .val (.int p2), .val (.int (((p4.toUInt32 >>> ((3 : Int32) &&& 31).toUInt32).toInt32) &&& (3 : Int32))), .val (.ref r92), .val (.ref r95), .val (.ref b101), .val (.ref b120), .val (.ref b120), .val (.int (1 : Int32))] [(.ref b101), (.ref b120)])) rfl (by rw [hml]; rfl) (Steps.refl _) (argsL := [(.ref b101)]) (rest := []) (lenOf pd_5 rfl) rfl (by show 2 * 0 + _ ≤ _; exact Nat.le_of_eq rfl) (hb hby at_211) (fun _ _ => ⟨rfl, eh150, (by decide : 10 + 0 ≤ _), (by decide : 24 + 0 ≤ _)⟩)
            dsimp only [Pt.U, Pt.locs, Pt.cells, Pt.slots] at X151 l151 y151 z151 st151 hQ151
            rw [l151, y151, z151] at X151
            obtain ⟨N151, eh151, hR151⟩ := hQ151
            have NA151 := Fr.app NA150 N151
            rcases hR151 with ⟨rfl, u151, uu151⟩ | ⟨rfl, u151⟩
            · refine GoesW.back st151 ?_
              show GoesW _ _ _ _ _ _ _ (T151.setTop (mkF m 214 #[.val (.int p0), .val (.int p1), .val (.int p2), .val (.int p3), .val (.int p4), .val (.int (((p0.toUInt32 >>> ((24 : Int32) &&& 31).toUInt32).toInt32) &&& (3 : Int32))), .val (.int (0 : Int32)), .val (.int p1), .val (.int (((p1.toUInt32 >>> ((24 : Int32) &&& 31).toUInt32).toInt32) &&& (3 : Int32))), .val (.int p2), .val (.int (((p4.toUInt32 >>> ((3 : Int32) &&& 31).toUInt32).toInt32) &&& (3 : Int32))), .val (.ref r92), .val (.ref r95), .val (.ref b101), .val (.ref b120), .val (.ref b120), .val (.int (1 : Int32))] [(.int (1 : Int32))]))
              refine GoesW.step (fun _ k => XS.iload X151.here hx rfl (hb hby at_214) rfl  k) ?_
              refine GoesW.step (fun _ k => XS.icmpYes X151.here hx rfl (pc0 := 216) (pc' := 221) rfl (hb hby at_216) rfl (teq (by decide : (1 : Int32) = (1 : Int32))).1 (by decide) (by decide) k) ?_
              show GoesW _ _ _ _ _ _ _ (T151.setTop (mkF m 221 _ []))
              refine GoesW.step (fun _ k => XS.aload X151.here hx rfl (hb hby at_221) rfl rfl k) ?_
              refine GoesW.step (fun _ k => XS.aload X151.here hx rfl (hb hby at_223) rfl rfl k) ?_
              obtain ⟨cq152, kq152, q152a, q152b, q152c⟩ := isOf hZ eh151 f139
              obtain ⟨_, _, ⟨T152, L152, k152, n152⟩, -, X152, ⟨Lc152, hQ152, l152, y152, z152⟩, st152⟩ := X151.virtualBack hx (y := (⟨"com/example/topicd/topicd/message/TopicQueue", "equals", "(Ljava/lang/Object;)Z"⟩ : MethodName)) (z := (⟨"com/example/topicd/topicd/message/TopicQueue", "equals", "(Ljava/lang/Object;)Z"⟩ : MethodName)) hown (mvT hZ w_37) (mvT hZ w_38) (notFace_of_selects (args := #[]) (mvT hZ w_40)) (mvT hZ w_40) (mvT hZ w_39) (by decide) (backOf (W := 0) (rm6_b l Z a0 hw [] b101 b101 r92 r92 p2 p2 cs92 cs92 zC T133.heap n0 Z145 f140 f141 f140 f141 f139 f135 f135 S_CS P5 XO134) hZ w_41 w_28 (by decide) (by decide)) q152a q152c (g := (mkF m 225 #[.val (.int p0), .val (.int p1), .val (.int p2), .val (.int p3), .val (.int p4), .val (.int (((p0.toUInt32 >>> ((24 : Int32) &&& 31).toUInt32).toInt32) &&& (3 : Int32))), .val (.int (0 : Int32)), .val (.int p1), .val (.int (((p1.toUInt32 >>> ((24 : Int32) &&& 31).toUInt32).toInt32) &&& (3 : Int32))), .val (.int p2), .val (.int (((p4.toUInt32 >>> ((3 : Int32) &&& 31).toUInt32).toInt32) &&& (3 : Int32))), .val (.ref r92), .val (.ref r95), .val (.ref b101), .val (.ref b120), .val (.ref b120), .val (.int (1 : Int32))] [(.ref b101), (.ref b101)])) rfl (by rw [hml]; rfl) (Steps.refl _) (argsL := [(.ref b101)]) (rest := []) (lenOf pd_5 rfl) rfl (by show 2 * 0 + _ ≤ _; exact Nat.le_of_eq rfl) (hb hby at_225) (fun _ _ => ⟨rfl, eh151, (by decide : 10 + 0 ≤ _), (by decide : 24 + 0 ≤ _)⟩)
              dsimp only [Pt.U, Pt.locs, Pt.cells, Pt.slots] at X152 l152 y152 z152 st152 hQ152
              rw [l152, y152, z152] at X152
              obtain ⟨N152, eh152, hR152⟩ := hQ152
              have NA152 := Fr.app NA151 N152
              rcases hR152 with ⟨rfl, u152, uu152⟩ | ⟨rfl, u152⟩
              · refine GoesW.back st152 ?_
                show GoesW _ _ _ _ _ _ _ (T152.setTop (mkF m 228 _ [(.int (1 : Int32))]))
                exact GoesW.ret1 X152 hS95 (by rw [eh152]; exact ZS145) hx (BodyLoose.notSynchronized Bd) Bd.returns rfl (Or.inl ⟨rfl, by simp, _, rfl⟩) (hb hby at_228) (by show Q0 Z p0 p1 p2 p3 p4 zC ca cc h0 n0 (some (.int (1 : Int32))) T152.vm T152.heap _; rw [eh152]; exact ⟨rfl, NA152⟩) (by decide) (by decide)
              · exact absurd ⟨(rfl : p2 = p2), (rfl : cs92 = cs92)⟩ u152
            · exact absurd ⟨(rfl : p2 = p2), u147⟩ u151
          · exact absurd ⟨(rfl : p2 = p2), (Eq.symm u147)⟩ u150
        · refine GoesW.back st147 ?_
          show GoesW _ _ _ _ _ _ _ (T147.setTop (mkF m 178 #[.val (.int p0), .val (.int p1), .val (.int p2), .val (.int p3), .val (.int p4), .val (.int (((p0.toUInt32 >>> ((24 : Int32) &&& 31).toUInt32).toInt32) &&& (3 : Int32))), .val (.int (0 : Int32)), .val (.int p1), .val (.int (((p1.toUInt32 >>> ((24 : Int32) &&& 31).toUInt32).toInt32) &&& (3 : Int32))), .val (.int p2), .val (.int (((p4.toUInt32 >>> ((3 : Int32) &&& 31).toUInt32).toInt32) &&& (3 : Int32))), .val (.ref r92), .val (.ref r95), .val (.ref b101), .val (.ref b120), .val (.ref b120), .unset] [(.int (0 : Int32))]))
          refine GoesW.step (fun _ k => XS.ifYes X147.here hx rfl (pc0 := 178) (pc' := 185) rfl (hb hby at_178) rfl ((if0 _ _).trans (teq (by decide : (0 : Int32) = (0 : Int32))).1) (by decide) (by decide) k) ?_
          show GoesW _ _ _ _ _ _ _ (T147.setTop (mkF m 185 _ []))
          refine GoesW.step (fun _ k => XS.iconst X147.here hx rfl (hb hby at_185) k) ?_
          refine GoesW.step (fun _ k => XS.istore X147.here hx rfl (hb hby at_186) rfl (l' := #[.val (.int p0), .val (.int p1), .val (.int p2), .val (.int p3), .val (.int p4), .val (.int (((p0.toUInt32 >>> ((24 : Int32) &&& 31).toUInt32).toInt32) &&& (3 : Int32))), .val (.int (0 : Int32)), .val (.int p1), .val (.int (((p1.toUInt32 >>> ((24 : Int32) &&& 31).toUInt32).toInt32) &&& (3 : Int32))), .val (.int p2), .val (.int (((p4.toUInt32 >>> ((3 : Int32) &&& 31).toUInt32).toInt32) &&& (3 : Int32))), .val (.ref r92), .val (.ref r95), .val (.ref b101), .val (.ref b120), .val (.ref b120), .val (.int (0 : Int32))]) rfl k) ?_
          show GoesW _ _ _ _ _ _ _ (T147.setTop (mkF m 188 _ []))
          refine GoesW.step (fun _ k => XS.aload X147.here hx rfl (hb hby at_188) rfl rfl k) ?_
          refine GoesW.step (fun _ k => XS.aload X147.here hx rfl (hb hby at_190) rfl rfl k) ?_
          obtain ⟨cq153, kq153, q153a, q153b, q153c⟩ := isOf hZ eh147 f139
          obtain ⟨_, _, ⟨T153, L153, k153, n153⟩, -, X153, ⟨Lc153, hQ153, l153, y153, z153⟩, st153⟩ := X147.virtualBack hx (y := (⟨"com/example/topicd/topicd/message/TopicQueue", "equals", "(Ljava/lang/Object;)Z"⟩ : MethodName)) (z := (⟨"com/example/topicd/topicd/message/TopicQueue", "equals", "(Ljava/lang/Object;)Z"⟩ : MethodName)) hown (mvT hZ w_37) (mvT hZ w_38) (notFace_of_selects (args := #[]) (mvT hZ w_40)) (mvT hZ w_40) (mvT hZ w_39) (by decide) (backOf (W := 0) (rm6_b l Z a0 hw [] b101 b120 r92 r95 p2 p2 cs92 cs95 zC T133.heap n0 Z145 f140 f141 v133_0_0 v133_0_1 v133_0_2 f135 f137 S_CS P5 XO134) hZ w_41 w_28 (by decide) (by decide)) q153a q153c (g := (mkF m 192 #[.val (.int p0), .val (.int p1), .val (.int p2), .val (.int p3), .val (.int p4), .val (.int (((p0.toUInt32 >>> ((24 : Int32) &&& 31).toUInt32).toInt32) &&& (3 : Int32))), .val (.int (0 : Int32)), .val (.int p1), .val (.int (((p1.toUInt32 >>> ((24 : Int32) &&& 31).toUInt32).toInt32) &&& (3 : Int32))), .val (.int p2), .val (.int (((p4.toUInt32 >>> ((3 : Int32) &&& 31).toUInt32).toInt32) &&& (3 : Int32))), .val (.ref r92), .val (.ref r95), .val (.ref b101), .val (.ref b120), .val (.ref b120), .val (.int (0 : Int32))] [(.ref b120), (.ref b101)])) rfl (by rw [hml]; rfl) (Steps.refl _) (argsL := [(.ref b120)]) (rest := []) (lenOf pd_5 rfl) rfl (by show 2 * 0 + _ ≤ _; exact Nat.le_of_eq rfl) (hb hby at_192) (fun _ _ => ⟨rfl, eh147, (by decide : 10 + 0 ≤ _), (by decide : 24 + 0 ≤ _)⟩)
          dsimp only [Pt.U, Pt.locs, Pt.cells, Pt.slots] at X153 l153 y153 z153 st153 hQ153
          rw [l153, y153, z153] at X153
          obtain ⟨N153, eh153, hR153⟩ := hQ153
          have NA153 := Fr.app NA147 N153
          rcases hR153 with ⟨rfl, u153, uu153⟩ | ⟨rfl, u153⟩
          · exact absurd uu153 (Ne.symm u147)
          · refine GoesW.back st153 ?_
            show GoesW _ _ _ _ _ _ _ (T153.setTop (mkF m 195 _ [(.int (0 : Int32))]))
            refine GoesW.step (fun _ k => XS.iload X153.here hx rfl (hb hby at_195) rfl  k) ?_
            refine GoesW.step (fun _ k => XS.icmpYes X153.here hx rfl (pc0 := 197) (pc' := 202) rfl (hb hby at_197) rfl (teq (by decide : (0 : Int32) = (0 : Int32))).1 (by decide) (by decide) k) ?_
            show GoesW _ _ _ _ _ _ _ (T153.setTop (mkF m 202 _ []))
            refine GoesW.step (fun _ k => XS.iload X153.here hx rfl (hb hby at_202) rfl  k) ?_
            refine GoesW.step (fun _ k => XS.ifNo X153.here hx rfl (hb hby at_204) rfl ((if0 _ _).trans (teq c118_146).2) k) ?_
            show GoesW _ _ _ _ _ _ _ (T153.setTop (mkF m 207 _ []))
            refine GoesW.step (fun _ k => XS.aload X153.here hx rfl (hb hby at_207) rfl rfl k) ?_
            refine GoesW.step (fun _ k => XS.aload X153.here hx rfl (hb hby at_209) rfl rfl k) ?_
            obtain ⟨cq154, kq154, q154a, q154b, q154c⟩ := isOf hZ eh153 v133_0_2
            obtain ⟨_, _, ⟨T154, L154, k154, n154⟩, -, X154, ⟨Lc154, hQ154, l154, y154, z154⟩, st154⟩ := X153.virtualBack hx (y := (⟨"com/example/topicd/topicd/message/TopicQueue", "equals", "(Ljava/lang/Object;)Z"⟩ : MethodName)) (z := (⟨"com/example/topicd/topicd/message/TopicQueue", "equals", "(Ljava/lang/Object;)Z"⟩ : MethodName)) hown (mvT hZ w_37) (mvT hZ w_38) (notFace_of_selects (args := #[]) (mvT hZ w_40)) (mvT hZ w_40) (mvT hZ w_39) (by decide) (backOf (W := 0) (rm6_b l Z a0 hw [] b120 b101 r95 r92 p2 p2 cs95 cs92 zC T133.heap n0 Z145 v133_0_0 v133_0_1 f140 f141 f139 f137 f135 S_CS P5 XO134) hZ w_41 w_28 (by decide) (by decide)) q154a q154c (g := (mkF m 211 #[.val (.int p0), .val (.int p1), .val (.int p2), .val (.int p3), .val (.int p4), .val (.int (((p0.toUInt32 >>> ((24 : Int32) &&& 31).toUInt32).toInt32) &&& (3 : Int32))), .val (.int (0 : Int32)), .val (.int p1), .val (.int (((p1.toUInt32 >>> ((24 : Int32) &&& 31).toUInt32).toInt32) &&& (3 : Int32))), .val (.int p2), .val (.int (((p4.toUInt32 >>> ((3 : Int32) &&& 31).toUInt32).toInt32) &&& (3 : Int32))), .val (.ref r92), .val (.ref r95), .val (.ref b101), .val (.ref b120), .val (.ref b120), .val (.int (0 : Int32))] [(.ref b101), (.ref b120)])) rfl (by rw [hml]; rfl) (Steps.refl _) (argsL := [(.ref b101)]) (rest := []) (lenOf pd_5 rfl) rfl (by show 2 * 0 + _ ≤ _; exact Nat.le_of_eq rfl) (hb hby at_211) (fun _ _ => ⟨rfl, eh153, (by decide : 10 + 0 ≤ _), (by decide : 24 + 0 ≤ _)⟩)
            dsimp only [Pt.U, Pt.locs, Pt.cells, Pt.slots] at X154 l154 y154 z154 st154 hQ154
            rw [l154, y154, z154] at X154
            obtain ⟨N154, eh154, hR154⟩ := hQ154
            have NA154 := Fr.app NA153 N154
            rcases hR154 with ⟨rfl, u154, uu154⟩ | ⟨rfl, u154⟩
            · exact absurd uu154 u147
            · refine GoesW.back st154 ?_
              show GoesW _ _ _ _ _ _ _ (T154.setTop (mkF m 214 _ [(.int (0 : Int32))]))
              refine GoesW.step (fun _ k => XS.iload X154.here hx rfl (hb hby at_214) rfl  k) ?_
              refine GoesW.step (fun _ k => XS.icmpYes X154.here hx rfl (pc0 := 216) (pc' := 221) rfl (hb hby at_216) rfl (teq (by decide : (0 : Int32) = (0 : Int32))).1 (by decide) (by decide) k) ?_
              show GoesW _ _ _ _ _ _ _ (T154.setTop (mkF m 221 #[.val (.int p0), .val (.int p1), .val (.int p2), .val (.int p3), .val (.int p4), .val (.int (((p0.toUInt32 >>> ((24 : Int32) &&& 31).toUInt32).toInt32) &&& (3 : Int32))), .val (.int (0 : Int32)), .val (.int p1), .val (.int (((p1.toUInt32 >>> ((24 : Int32) &&& 31).toUInt32).toInt32) &&& (3 : Int32))), .val (.int p2), .val (.int (((p4.toUInt32 >>> ((3 : Int32) &&& 31).toUInt32).toInt32) &&& (3 : Int32))), .val (.ref r92), .val (.ref r95), .val (.ref b101), .val (.ref b120), .val (.ref b120), .val (.int (0 : Int32))] []))
              refine GoesW.step (fun _ k => XS.aload X154.here hx rfl (hb hby at_221) rfl rfl k) ?_
              refine GoesW.step (fun _ k => XS.aload X154.here hx rfl (hb hby at_223) rfl rfl k) ?_
              obtain ⟨cq155, kq155, q155a, q155b, q155c⟩ := isOf hZ eh154 f139
              obtain ⟨_, _, ⟨T155, L155, k155, n155⟩, -, X155, ⟨Lc155, hQ155, l155, y155, z155⟩, st155⟩ := X154.virtualBack hx (y := (⟨"com/example/topicd/topicd/message/TopicQueue", "equals", "(Ljava/lang/Object;)Z"⟩ : MethodName)) (z := (⟨"com/example/topicd/topicd/message/TopicQueue", "equals", "(Ljava/lang/Object;)Z"⟩ : MethodName)) hown (mvT hZ w_37) (mvT hZ w_38) (notFace_of_selects (args := #[]) (mvT hZ w_40)) (mvT hZ w_40) (mvT hZ w_39) (by decide) (backOf (W := 0) (rm6_b l Z a0 hw [] b101 b101 r92 r92 p2 p2 cs92 cs92 zC T133.heap n0 Z145 f140 f141 f140 f141 f139 f135 f135 S_CS P5 XO134) hZ w_41 w_28 (by decide) (by decide)) q155a q155c (g := (mkF m 225 #[.val (.int p0), .val (.int p1), .val (.int p2), .val (.int p3), .val (.int p4), .val (.int (((p0.toUInt32 >>> ((24 : Int32) &&& 31).toUInt32).toInt32) &&& (3 : Int32))), .val (.int (0 : Int32)), .val (.int p1), .val (.int (((p1.toUInt32 >>> ((24 : Int32) &&& 31).toUInt32).toInt32) &&& (3 : Int32))), .val (.int p2), .val (.int (((p4.toUInt32 >>> ((3 : Int32) &&& 31).toUInt32).toInt32) &&& (3 : Int32))), .val (.ref r92), .val (.ref r95), .val (.ref b101), .val (.ref b120), .val (.ref b120), .val (.int (0 : Int32))] [(.ref b101), (.ref b101)])) rfl (by rw [hml]; rfl) (Steps.refl _) (argsL := [(.ref b101)]) (rest := []) (lenOf pd_5 rfl) rfl (by show 2 * 0 + _ ≤ _; exact Nat.le_of_eq rfl) (hb hby at_225) (fun _ _ => ⟨rfl, eh154, (by decide : 10 + 0 ≤ _), (by decide : 24 + 0 ≤ _)⟩)
              dsimp only [Pt.U, Pt.locs, Pt.cells, Pt.slots] at X155 l155 y155 z155 st155 hQ155
              rw [l155, y155, z155] at X155
              obtain ⟨N155, eh155, hR155⟩ := hQ155
              have NA155 := Fr.app NA154 N155
              rcases hR155 with ⟨rfl, u155, uu155⟩ | ⟨rfl, u155⟩
              · refine GoesW.back st155 ?_
                show GoesW _ _ _ _ _ _ _ (T155.setTop (mkF m 228 _ [(.int (1 : Int32))]))
                exact GoesW.ret1 X155 hS95 (by rw [eh155]; exact ZS145) hx (BodyLoose.notSynchronized Bd) Bd.returns rfl (Or.inl ⟨rfl, by simp, _, rfl⟩) (hb hby at_228) (by show Q0 Z p0 p1 p2 p3 p4 zC ca cc h0 n0 (some (.int (1 : Int32))) T155.vm T155.heap _; rw [eh155]; exact ⟨rfl, NA155⟩) (by decide) (by decide)
              · exact absurd ⟨(rfl : p2 = p2), (rfl : cs92 = cs92)⟩ u155
      · refine GoesW.step (fun _ k => XS.ifYes X133.here hx rfl (pc0 := 118) (pc' := 128) rfl (hb hby at_118) rfl ((if0 _ _).trans (feq c118_146).2) (by decide) (by decide) k) ?_
        show GoesW _ _ _ _ _ _ _ (T133.setTop (mkF m 128 _ []))
        refine GoesW.step (fun _ k => XS.iload X133.here hx rfl (hb hby at_128) rfl  k) ?_
        refine GoesW.step (fun _ k => XS.iconst X133.here hx rfl (hb hby at_130) k) ?_
        by_cases c131_156 : (((p4.toUInt32 >>> ((3 : Int32) &&& 31).toUInt32).toInt32) &&& (3 : Int32)) = (1 : Int32)
        · refine GoesW.step (fun _ k => XS.icmpNo X133.here hx rfl (hb hby at_131) rfl (teq c131_156).2 k) ?_
          show GoesW _ _ _ _ _ _ _ (T133.setTop (mkF m 134 _ []))
          refine GoesW.step (fun _ k => XS.aconstNull X133.here hx rfl (hb hby at_134) k) ?_
          refine GoesW.step (fun _ k => XS.astore X133.here hx rfl (hb hby at_135) rfl rfl (l' := #[.val (.int p0), .val (.int p1), .val (.int p2), .val (.int p3), .val (.int p4), .val (.int (((p0.toUInt32 >>> ((24 : Int32) &&& 31).toUInt32).toInt32) &&& (3 : Int32))), .val (.int (0 : Int32)), .val (.int p1), .val (.int (((p1.toUInt32 >>> ((24 : Int32) &&& 31).toUInt32).toInt32) &&& (3 : Int32))), .val (.int p2), .val (.int (((p4.toUInt32 >>> ((3 : Int32) &&& 31).toUInt32).toInt32) &&& (3 : Int32))), .val (.ref r92), .val (.ref r95), .val (.ref b101), .val (.ref b120), .val .null, .unset]) rfl k) ?_
          show GoesW _ _ _ _ _ _ _ (T133.setTop (mkF m 137 _ []))
          refine GoesW.step (fun _ k => XS.goto X133.here hx rfl (pc0 := 137) (pc' := 160) rfl (hb hby at_137) (by decide) (by decide) k) ?_
          show GoesW _ _ _ _ _ _ _ (T133.setTop (mkF m 160 _ []))
          refine GoesW.step (fun _ k => XS.iload X133.here hx rfl (hb hby at_160) rfl  k) ?_
          refine GoesW.step (fun _ k => XS.ifYes X133.here hx rfl (pc0 := 162) (pc' := 185) rfl (hb hby at_162) rfl ((if0 _ _).trans (feq c118_146).2) (by decide) (by decide) k) ?_
          show GoesW _ _ _ _ _ _ _ (T133.setTop (mkF m 185 _ []))
          refine GoesW.step (fun _ k => XS.iconst X133.here hx rfl (hb hby at_185) k) ?_
          refine GoesW.step (fun _ k => XS.istore X133.here hx rfl (hb hby at_186) rfl (l' := #[.val (.int p0), .val (.int p1), .val (.int p2), .val (.int p3), .val (.int p4), .val (.int (((p0.toUInt32 >>> ((24 : Int32) &&& 31).toUInt32).toInt32) &&& (3 : Int32))), .val (.int (0 : Int32)), .val (.int p1), .val (.int (((p1.toUInt32 >>> ((24 : Int32) &&& 31).toUInt32).toInt32) &&& (3 : Int32))), .val (.int p2), .val (.int (((p4.toUInt32 >>> ((3 : Int32) &&& 31).toUInt32).toInt32) &&& (3 : Int32))), .val (.ref r92), .val (.ref r95), .val (.ref b101), .val (.ref b120), .val .null, .val (.int (0 : Int32))]) rfl k) ?_
          show GoesW _ _ _ _ _ _ _ (T133.setTop (mkF m 188 #[.val (.int p0), .val (.int p1), .val (.int p2), .val (.int p3), .val (.int p4), .val (.int (((p0.toUInt32 >>> ((24 : Int32) &&& 31).toUInt32).toInt32) &&& (3 : Int32))), .val (.int (0 : Int32)), .val (.int p1), .val (.int (((p1.toUInt32 >>> ((24 : Int32) &&& 31).toUInt32).toInt32) &&& (3 : Int32))), .val (.int p2), .val (.int (((p4.toUInt32 >>> ((3 : Int32) &&& 31).toUInt32).toInt32) &&& (3 : Int32))), .val (.ref r92), .val (.ref r95), .val (.ref b101), .val (.ref b120), .val .null, .val (.int (0 : Int32))] []))
          refine GoesW.step (fun _ k => XS.aload X133.here hx rfl (hb hby at_188) rfl rfl k) ?_
          refine GoesW.step (fun _ k => XS.aload X133.here hx rfl (hb hby at_190) rfl rfl k) ?_
          obtain ⟨cq157, kq157, q157a, q157b, q157c⟩ := isOf hZ rfl f139
          obtain ⟨_, _, ⟨T157, L157, k157, n157⟩, -, X157, ⟨Lc157, hQ157, l157, y157, z157⟩, st157⟩ := X133.virtualBack hx (y := (⟨"com/example/topicd/topicd/message/TopicQueue", "equals", "(Ljava/lang/Object;)Z"⟩ : MethodName)) (z := (⟨"com/example/topicd/topicd/message/TopicQueue", "equals", "(Ljava/lang/Object;)Z"⟩ : MethodName)) hown (mvT hZ w_37) (mvT hZ w_38) (notFace_of_selects (args := #[]) (mvT hZ w_40)) (mvT hZ w_40) (mvT hZ w_39) (by decide) (backOf (W := 0) (rm6_n l Z a0 hw [] b101 T133.heap n0 Z145 ) hZ w_41 w_28 (by decide) (by decide)) q157a q157c (g := (mkF m 192 #[.val (.int p0), .val (.int p1), .val (.int p2), .val (.int p3), .val (.int p4), .val (.int (((p0.toUInt32 >>> ((24 : Int32) &&& 31).toUInt32).toInt32) &&& (3 : Int32))), .val (.int (0 : Int32)), .val (.int p1), .val (.int (((p1.toUInt32 >>> ((24 : Int32) &&& 31).toUInt32).toInt32) &&& (3 : Int32))), .val (.int p2), .val (.int (((p4.toUInt32 >>> ((3 : Int32) &&& 31).toUInt32).toInt32) &&& (3 : Int32))), .val (.ref r92), .val (.ref r95), .val (.ref b101), .val (.ref b120), .val .null, .val (.int (0 : Int32))] [.null, (.ref b101)])) rfl (by rw [hml]; rfl) (Steps.refl _) (argsL := [.null]) (rest := []) (lenOf pd_5 rfl) rfl (by show 2 * 0 + _ ≤ _; exact Nat.le_of_eq rfl) (hb hby at_192) (fun _ _ => ⟨rfl, rfl, (by decide : 10 + 0 ≤ _), (by decide : 24 + 0 ≤ _)⟩)
          dsimp only [Pt.U, Pt.locs, Pt.cells, Pt.slots] at X157 l157 y157 z157 st157 hQ157
          rw [l157, y157, z157] at X157
          obtain ⟨N157, eh157, hR157⟩ := hQ157
          have NA157 := Fr.app NA133 N157
          obtain rfl := hR157
          refine GoesW.back st157 ?_
          show GoesW _ _ _ _ _ _ _ (T157.setTop (mkF m 195 _ [(.int (0 : Int32))]))
          refine GoesW.step (fun _ k => XS.iload X157.here hx rfl (hb hby at_195) rfl  k) ?_
          refine GoesW.step (fun _ k => XS.icmpYes X157.here hx rfl (pc0 := 197) (pc' := 202) rfl (hb hby at_197) rfl (teq (by decide : (0 : Int32) = (0 : Int32))).1 (by decide) (by decide) k) ?_
          show GoesW _ _ _ _ _ _ _ (T157.setTop (mkF m 202 _ []))
          refine GoesW.step (fun _ k => XS.iload X157.here hx rfl (hb hby at_202) rfl  k) ?_
          refine GoesW.step (fun _ k => XS.ifYes X157.here hx rfl (pc0 := 204) (pc' := 221) rfl (hb hby at_204) rfl ((if0 _ _).trans (feq c118_146).2) (by decide) (by decide) k) ?_
          show GoesW _ _ _ _ _ _ _ (T157.setTop (mkF m 221 _ []))
          refine GoesW.step (fun _ k => XS.aload X157.here hx rfl (hb hby at_221) rfl rfl k) ?_
          refine GoesW.step (fun _ k => XS.aload X157.here hx rfl (hb hby at_223) rfl rfl k) ?_
          obtain ⟨cq158, kq158, q158a, q158b, q158c⟩ := isOf hZ eh157 f139
          obtain ⟨_, _, ⟨T158, L158, k158, n158⟩, -, X158, ⟨Lc158, hQ158, l158, y158, z158⟩, st158⟩ := X157.virtualBack hx (y := (⟨"com/example/topicd/topicd/message/TopicQueue", "equals", "(Ljava/lang/Object;)Z"⟩ : MethodName)) (z := (⟨"com/example/topicd/topicd/message/TopicQueue", "equals", "(Ljava/lang/Object;)Z"⟩ : MethodName)) hown (mvT hZ w_37) (mvT hZ w_38) (notFace_of_selects (args := #[]) (mvT hZ w_40)) (mvT hZ w_40) (mvT hZ w_39) (by decide) (backOf (W := 0) (rm6_b l Z a0 hw [] b101 b101 r92 r92 p2 p2 cs92 cs92 zC T133.heap n0 Z145 f140 f141 f140 f141 f139 f135 f135 S_CS P5 XO134) hZ w_41 w_28 (by decide) (by decide)) q158a q158c (g := (mkF m 225 #[.val (.int p0), .val (.int p1), .val (.int p2), .val (.int p3), .val (.int p4), .val (.int (((p0.toUInt32 >>> ((24 : Int32) &&& 31).toUInt32).toInt32) &&& (3 : Int32))), .val (.int (0 : Int32)), .val (.int p1), .val (.int (((p1.toUInt32 >>> ((24 : Int32) &&& 31).toUInt32).toInt32) &&& (3 : Int32))), .val (.int p2), .val (.int (((p4.toUInt32 >>> ((3 : Int32) &&& 31).toUInt32).toInt32) &&& (3 : Int32))), .val (.ref r92), .val (.ref r95), .val (.ref b101), .val (.ref b120), .val .null, .val (.int (0 : Int32))] [(.ref b101), (.ref b101)])) rfl (by rw [hml]; rfl) (Steps.refl _) (argsL := [(.ref b101)]) (rest := []) (lenOf pd_5 rfl) rfl (by show 2 * 0 + _ ≤ _; exact Nat.le_of_eq rfl) (hb hby at_225) (fun _ _ => ⟨rfl, eh157, (by decide : 10 + 0 ≤ _), (by decide : 24 + 0 ≤ _)⟩)
          dsimp only [Pt.U, Pt.locs, Pt.cells, Pt.slots] at X158 l158 y158 z158 st158 hQ158
          rw [l158, y158, z158] at X158
          obtain ⟨N158, eh158, hR158⟩ := hQ158
          have NA158 := Fr.app NA157 N158
          rcases hR158 with ⟨rfl, u158, uu158⟩ | ⟨rfl, u158⟩
          · refine GoesW.back st158 ?_
            show GoesW _ _ _ _ _ _ _ (T158.setTop (mkF m 228 _ [(.int (1 : Int32))]))
            exact GoesW.ret1 X158 hS95 (by rw [eh158]; exact ZS145) hx (BodyLoose.notSynchronized Bd) Bd.returns rfl (Or.inl ⟨rfl, by simp, _, rfl⟩) (hb hby at_228) (by show Q0 Z p0 p1 p2 p3 p4 zC ca cc h0 n0 (some (.int (1 : Int32))) T158.vm T158.heap _; rw [eh158]; exact ⟨rfl, NA158⟩) (by decide) (by decide)
          · exact absurd ⟨(rfl : p2 = p2), (rfl : cs92 = cs92)⟩ u158
        · refine GoesW.step (fun _ k => XS.icmpYes X133.here hx rfl (pc0 := 131) (pc' := 140) rfl (hb hby at_131) rfl (feq c131_156).2 (by decide) (by decide) k) ?_
          show GoesW _ _ _ _ _ _ _ (T133.setTop (mkF m 140 _ []))
          refine GoesW.step (fun _ k => XS.iload X133.here hx rfl (hb hby at_140) rfl  k) ?_
          refine GoesW.step (fun _ k => XS.iconst X133.here hx rfl (hb hby at_142) k) ?_
          by_cases c143_159 : (((p4.toUInt32 >>> ((3 : Int32) &&& 31).toUInt32).toInt32) &&& (3 : Int32)) = (2 : Int32)
          · refine GoesW.step (fun _ k => XS.icmpNo X133.here hx rfl (hb hby at_143) rfl (teq c143_159).2 k) ?_
            show GoesW _ _ _ _ _ _ _ (T133.setTop (mkF m 146 _ []))
            refine GoesW.step (fun _ k => XS.aload X133.here hx rfl (hb hby at_146) rfl rfl k) ?_
            refine GoesW.step (fun _ k => XS.astore X133.here hx rfl (hb hby at_148) rfl rfl (l' := #[.val (.int p0), .val (.int p1), .val (.int p2), .val (.int p3), .val (.int p4), .val (.int (((p0.toUInt32 >>> ((24 : Int32) &&& 31).toUInt32).toInt32) &&& (3 : Int32))), .val (.int (0 : Int32)), .val (.int p1), .val (.int (((p1.toUInt32 >>> ((24 : Int32) &&& 31).toUInt32).toInt32) &&& (3 : Int32))), .val (.int p2), .val (.int (((p4.toUInt32 >>> ((3 : Int32) &&& 31).toUInt32).toInt32) &&& (3 : Int32))), .val (.ref r92), .val (.ref r95), .val (.ref b101), .val (.ref b120), .val (.ref r95), .unset]) rfl k) ?_
            show GoesW _ _ _ _ _ _ _ (T133.setTop (mkF m 150 _ []))
            refine GoesW.step (fun _ k => XS.goto X133.here hx rfl (pc0 := 150) (pc' := 160) rfl (hb hby at_150) (by decide) (by decide) k) ?_
            show GoesW _ _ _ _ _ _ _ (T133.setTop (mkF m 160 _ []))
            refine GoesW.step (fun _ k => XS.iload X133.here hx rfl (hb hby at_160) rfl  k) ?_
            refine GoesW.step (fun _ k => XS.ifYes X133.here hx rfl (pc0 := 162) (pc' := 185) rfl (hb hby at_162) rfl ((if0 _ _).trans (feq c118_146).2) (by decide) (by decide) k) ?_
            show GoesW _ _ _ _ _ _ _ (T133.setTop (mkF m 185 #[.val (.int p0), .val (.int p1), .val (.int p2), .val (.int p3), .val (.int p4), .val (.int (((p0.toUInt32 >>> ((24 : Int32) &&& 31).toUInt32).toInt32) &&& (3 : Int32))), .val (.int (0 : Int32)), .val (.int p1), .val (.int (((p1.toUInt32 >>> ((24 : Int32) &&& 31).toUInt32).toInt32) &&& (3 : Int32))), .val (.int p2), .val (.int (((p4.toUInt32 >>> ((3 : Int32) &&& 31).toUInt32).toInt32) &&& (3 : Int32))), .val (.ref r92), .val (.ref r95), .val (.ref b101), .val (.ref b120), .val (.ref r95), .unset] []))
            refine GoesW.step (fun _ k => XS.iconst X133.here hx rfl (hb hby at_185) k) ?_
            refine GoesW.step (fun _ k => XS.istore X133.here hx rfl (hb hby at_186) rfl (l' := #[.val (.int p0), .val (.int p1), .val (.int p2), .val (.int p3), .val (.int p4), .val (.int (((p0.toUInt32 >>> ((24 : Int32) &&& 31).toUInt32).toInt32) &&& (3 : Int32))), .val (.int (0 : Int32)), .val (.int p1), .val (.int (((p1.toUInt32 >>> ((24 : Int32) &&& 31).toUInt32).toInt32) &&& (3 : Int32))), .val (.int p2), .val (.int (((p4.toUInt32 >>> ((3 : Int32) &&& 31).toUInt32).toInt32) &&& (3 : Int32))), .val (.ref r92), .val (.ref r95), .val (.ref b101), .val (.ref b120), .val (.ref r95), .val (.int (0 : Int32))]) rfl k) ?_
            show GoesW _ _ _ _ _ _ _ (T133.setTop (mkF m 188 _ []))
            refine GoesW.step (fun _ k => XS.aload X133.here hx rfl (hb hby at_188) rfl rfl k) ?_
            refine GoesW.step (fun _ k => XS.aload X133.here hx rfl (hb hby at_190) rfl rfl k) ?_
            obtain ⟨cq160, kq160, q160a, q160b, q160c⟩ := isOf hZ rfl f139
            obtain ⟨_, _, ⟨T160, L160, k160, n160⟩, -, X160, ⟨Lc160, hQ160, l160, y160, z160⟩, st160⟩ := X133.virtualBack hx (y := (⟨"com/example/topicd/topicd/message/TopicQueue", "equals", "(Ljava/lang/Object;)Z"⟩ : MethodName)) (z := (⟨"com/example/topicd/topicd/message/TopicQueue", "equals", "(Ljava/lang/Object;)Z"⟩ : MethodName)) hown (mvT hZ w_37) (mvT hZ w_38) (notFace_of_selects (args := #[]) (mvT hZ w_40)) (mvT hZ w_40) (mvT hZ w_39) (by decide) (backOf (W := 0) (rm6_s l Z a0 hw [] b101 r95 T133.heap n0 Z145 f138) hZ w_41 w_28 (by decide) (by decide)) q160a q160c (g := (mkF m 192 #[.val (.int p0), .val (.int p1), .val (.int p2), .val (.int p3), .val (.int p4), .val (.int (((p0.toUInt32 >>> ((24 : Int32) &&& 31).toUInt32).toInt32) &&& (3 : Int32))), .val (.int (0 : Int32)), .val (.int p1), .val (.int (((p1.toUInt32 >>> ((24 : Int32) &&& 31).toUInt32).toInt32) &&& (3 : Int32))), .val (.int p2), .val (.int (((p4.toUInt32 >>> ((3 : Int32) &&& 31).toUInt32).toInt32) &&& (3 : Int32))), .val (.ref r92), .val (.ref r95), .val (.ref b101), .val (.ref b120), .val (.ref r95), .val (.int (0 : Int32))] [(.ref r95), (.ref b101)])) rfl (by rw [hml]; rfl) (Steps.refl _) (argsL := [(.ref r95)]) (rest := []) (lenOf pd_5 rfl) rfl (by show 2 * 0 + _ ≤ _; exact Nat.le_of_eq rfl) (hb hby at_192) (fun _ _ => ⟨rfl, rfl, (by decide : 10 + 0 ≤ _), (by decide : 24 + 0 ≤ _)⟩)
            dsimp only [Pt.U, Pt.locs, Pt.cells, Pt.slots] at X160 l160 y160 z160 st160 hQ160
            rw [l160, y160, z160] at X160
            obtain ⟨N160, eh160, hR160⟩ := hQ160
            have NA160 := Fr.app NA133 N160
            obtain rfl := hR160
            refine GoesW.back st160 ?_
            show GoesW _ _ _ _ _ _ _ (T160.setTop (mkF m 195 _ [(.int (0 : Int32))]))
            refine GoesW.step (fun _ k => XS.iload X160.here hx rfl (hb hby at_195) rfl  k) ?_
            refine GoesW.step (fun _ k => XS.icmpYes X160.here hx rfl (pc0 := 197) (pc' := 202) rfl (hb hby at_197) rfl (teq (by decide : (0 : Int32) = (0 : Int32))).1 (by decide) (by decide) k) ?_
            show GoesW _ _ _ _ _ _ _ (T160.setTop (mkF m 202 _ []))
            refine GoesW.step (fun _ k => XS.iload X160.here hx rfl (hb hby at_202) rfl  k) ?_
            refine GoesW.step (fun _ k => XS.ifYes X160.here hx rfl (pc0 := 204) (pc' := 221) rfl (hb hby at_204) rfl ((if0 _ _).trans (feq c118_146).2) (by decide) (by decide) k) ?_
            show GoesW _ _ _ _ _ _ _ (T160.setTop (mkF m 221 _ []))
            refine GoesW.step (fun _ k => XS.aload X160.here hx rfl (hb hby at_221) rfl rfl k) ?_
            refine GoesW.step (fun _ k => XS.aload X160.here hx rfl (hb hby at_223) rfl rfl k) ?_
            obtain ⟨cq161, kq161, q161a, q161b, q161c⟩ := isOf hZ eh160 f139
            obtain ⟨_, _, ⟨T161, L161, k161, n161⟩, -, X161, ⟨Lc161, hQ161, l161, y161, z161⟩, st161⟩ := X160.virtualBack hx (y := (⟨"com/example/topicd/topicd/message/TopicQueue", "equals", "(Ljava/lang/Object;)Z"⟩ : MethodName)) (z := (⟨"com/example/topicd/topicd/message/TopicQueue", "equals", "(Ljava/lang/Object;)Z"⟩ : MethodName)) hown (mvT hZ w_37) (mvT hZ w_38) (notFace_of_selects (args := #[]) (mvT hZ w_40)) (mvT hZ w_40) (mvT hZ w_39) (by decide) (backOf (W := 0) (rm6_b l Z a0 hw [] b101 b101 r92 r92 p2 p2 cs92 cs92 zC T133.heap n0 Z145 f140 f141 f140 f141 f139 f135 f135 S_CS P5 XO134) hZ w_41 w_28 (by decide) (by decide)) q161a q161c (g := (mkF m 225 #[.val (.int p0), .val (.int p1), .val (.int p2), .val (.int p3), .val (.int p4), .val (.int (((p0.toUInt32 >>> ((24 : Int32) &&& 31).toUInt32).toInt32) &&& (3 : Int32))), .val (.int (0 : Int32)), .val (.int p1), .val (.int (((p1.toUInt32 >>> ((24 : Int32) &&& 31).toUInt32).toInt32) &&& (3 : Int32))), .val (.int p2), .val (.int (((p4.toUInt32 >>> ((3 : Int32) &&& 31).toUInt32).toInt32) &&& (3 : Int32))), .val (.ref r92), .val (.ref r95), .val (.ref b101), .val (.ref b120), .val (.ref r95), .val (.int (0 : Int32))] [(.ref b101), (.ref b101)])) rfl (by rw [hml]; rfl) (Steps.refl _) (argsL := [(.ref b101)]) (rest := []) (lenOf pd_5 rfl) rfl (by show 2 * 0 + _ ≤ _; exact Nat.le_of_eq rfl) (hb hby at_225) (fun _ _ => ⟨rfl, eh160, (by decide : 10 + 0 ≤ _), (by decide : 24 + 0 ≤ _)⟩)
            dsimp only [Pt.U, Pt.locs, Pt.cells, Pt.slots] at X161 l161 y161 z161 st161 hQ161
            rw [l161, y161, z161] at X161
            obtain ⟨N161, eh161, hR161⟩ := hQ161
            have NA161 := Fr.app NA160 N161
            rcases hR161 with ⟨rfl, u161, uu161⟩ | ⟨rfl, u161⟩
            · refine GoesW.back st161 ?_
              show GoesW _ _ _ _ _ _ _ (T161.setTop (mkF m 228 _ [(.int (1 : Int32))]))
              exact GoesW.ret1 X161 hS95 (by rw [eh161]; exact ZS145) hx (BodyLoose.notSynchronized Bd) Bd.returns rfl (Or.inl ⟨rfl, by simp, _, rfl⟩) (hb hby at_228) (by show Q0 Z p0 p1 p2 p3 p4 zC ca cc h0 n0 (some (.int (1 : Int32))) T161.vm T161.heap _; rw [eh161]; exact ⟨rfl, NA161⟩) (by decide) (by decide)
            · exact absurd ⟨(rfl : p2 = p2), (rfl : cs92 = cs92)⟩ u161
          · refine GoesW.step (fun _ k => XS.icmpYes X133.here hx rfl (pc0 := 143) (pc' := 153) rfl (hb hby at_143) rfl (feq c143_159).2 (by decide) (by decide) k) ?_
            show GoesW _ _ _ _ _ _ _ (T133.setTop (mkF m 153 _ []))
            refine GoesW.step (fun _ k => XS.iload X133.here hx rfl (hb hby at_153) rfl  k) ?_
            obtain ⟨_, _, ⟨T162, L162, k162, n162⟩, -, X162, ⟨Lc162, hQ162, l162, y162, z162⟩, st162⟩ := Jvm.LawKit.callS X133 hx (y := (⟨"java/lang/Integer", "valueOf", "(I)Ljava/lang/Integer;"⟩ : MethodName)) hown (mvT hZ w_66) (mvT hZ w_67) (mvT hZ w_68) (mvT hZ w_69) (by decide) (backOf (W := 0) (rm12 l Z a0 hw [] p2 ca cc T133.heap n0 Z145 (S_high.ext XO134.2) (S_cache.ext XO134.2) BX XO134) hZ w_69 w_68 (by decide) (by decide)) (g := (mkF m 155 #[.val (.int p0), .val (.int p1), .val (.int p2), .val (.int p3), .val (.int p4), .val (.int (((p0.toUInt32 >>> ((24 : Int32) &&& 31).toUInt32).toInt32) &&& (3 : Int32))), .val (.int (0 : Int32)), .val (.int p1), .val (.int (((p1.toUInt32 >>> ((24 : Int32) &&& 31).toUInt32).toInt32) &&& (3 : Int32))), .val (.int p2), .val (.int (((p4.toUInt32 >>> ((3 : Int32) &&& 31).toUInt32).toInt32) &&& (3 : Int32))), .val (.ref r92), .val (.ref r95), .val (.ref b101), .val (.ref b120), .unset, .unset] [(.int p2)])) rfl (by rw [hml]; rfl) (argsL := [(.int p2)]) (rest := []) (lenOf pd_10 rfl) rfl (by show 2 * 0 + _ ≤ _; exact Nat.le_of_eq rfl) (hb hby at_155) (fun _ _ => ⟨rfl, rfl, (by decide : 10 + 1 ≤ _), (by decide : 24 + 1 ≤ _)⟩)
            dsimp only [Pt.U, Pt.locs, Pt.cells, Pt.slots] at X162 l162 y162 z162 st162 hQ162
            rw [l162, y162, z162] at X162
            obtain ⟨N162, KK162, r162, rfl, ex162, v162_0⟩ := hQ162
            have NA162 := Fr.app NA133 N162
            have XO163 : Old Z n0 T162.heap := XO134.keep KK162 all0
            have f164 := f135.keep0 KK162
            have f165 := f136.keep KK162
            have f166 := f137.keep0 KK162
            have f167 := f138.keep KK162
            have f168 := f139.keep KK162
            have f169 := f140.keep KK162 nin0
            have f170 := f141.keep KK162 nin0
            have f171 := v133_0_2.keep KK162
            have f172 := v133_0_0.keep KK162 nin0
            have f173 := v133_0_1.keep KK162 nin0
            have K174 : Keep h0 T162.heap [] := K145.trans KK162 all0
            have Z174 : n0 ≤ T162.heap.size := Nat.le_trans Z145 KK162.1
            have ZS174 : T95.heap.size ≤ T162.heap.size := Nat.le_trans ZS145 KK162.1
            refine GoesW.step st162 ?_
            show GoesW _ _ _ _ _ _ _ (T162.setTop (mkF m 158 _ [(.ref r162)]))
            refine GoesW.step (fun _ k => XS.astore X162.here hx rfl (hb hby at_158) rfl rfl (l' := #[.val (.int p0), .val (.int p1), .val (.int p2), .val (.int p3), .val (.int p4), .val (.int (((p0.toUInt32 >>> ((24 : Int32) &&& 31).toUInt32).toInt32) &&& (3 : Int32))), .val (.int (0 : Int32)), .val (.int p1), .val (.int (((p1.toUInt32 >>> ((24 : Int32) &&& 31).toUInt32).toInt32) &&& (3 : Int32))), .val (.int p2), .val (.int (((p4.toUInt32 >>> ((3 : Int32) &&& 31).toUInt32).toInt32) &&& (3 : Int32))), .val (.ref r92), .val (.ref r95), .val (.ref b101), .val (.ref b120), .val (.ref r162), .unset]) rfl k) ?_
            show GoesW _ _ _ _ _ _ _ (T162.setTop (mkF m 160 _ []))
            refine GoesW.step (fun _ k => XS.iload X162.here hx rfl (hb hby at_160) rfl  k) ?_
            refine GoesW.step (fun _ k => XS.ifYes X162.here hx rfl (pc0 := 162) (pc' := 185) rfl (hb hby at_162) rfl ((if0 _ _).trans (feq c118_146).2) (by decide) (by decide) k) ?_
            show GoesW _ _ _ _ _ _ _ (T162.setTop (mkF m 185 #[.val (.int p0), .val (.int p1), .val (.int p2), .val (.int p3), .val (.int p4), .val (.int (((p0.toUInt32 >>> ((24 : Int32) &&& 31).toUInt32).toInt32) &&& (3 : Int32))), .val (.int (0 : Int32)), .val (.int p1), .val (.int (((p1.toUInt32 >>> ((24 : Int32) &&& 31).toUInt32).toInt32) &&& (3 : Int32))), .val (.int p2), .val (.int (((p4.toUInt32 >>> ((3 : Int32) &&& 31).toUInt32).toInt32) &&& (3 : Int32))), .val (.ref r92), .val (.ref r95), .val (.ref b101), .val (.ref b120), .val (.ref r162), .unset] []))
            refine GoesW.step (fun _ k => XS.iconst X162.here hx rfl (hb hby at_185) k) ?_
            refine GoesW.step (fun _ k => XS.istore X162.here hx rfl (hb hby at_186) rfl (l' := #[.val (.int p0), .val (.int p1), .val (.int p2), .val (.int p3), .val (.int p4), .val (.int (((p0.toUInt32 >>> ((24 : Int32) &&& 31).toUInt32).toInt32) &&& (3 : Int32))), .val (.int (0 : Int32)), .val (.int p1), .val (.int (((p1.toUInt32 >>> ((24 : Int32) &&& 31).toUInt32).toInt32) &&& (3 : Int32))), .val (.int p2), .val (.int (((p4.toUInt32 >>> ((3 : Int32) &&& 31).toUInt32).toInt32) &&& (3 : Int32))), .val (.ref r92), .val (.ref r95), .val (.ref b101), .val (.ref b120), .val (.ref r162), .val (.int (0 : Int32))]) rfl k) ?_
            show GoesW _ _ _ _ _ _ _ (T162.setTop (mkF m 188 _ []))
            refine GoesW.step (fun _ k => XS.aload X162.here hx rfl (hb hby at_188) rfl rfl k) ?_
            refine GoesW.step (fun _ k => XS.aload X162.here hx rfl (hb hby at_190) rfl rfl k) ?_
            obtain ⟨cq175, kq175, q175a, q175b, q175c⟩ := isOf hZ rfl f168
            obtain ⟨_, _, ⟨T175, L175, k175, n175⟩, -, X175, ⟨Lc175, hQ175, l175, y175, z175⟩, st175⟩ := X162.virtualBack hx (y := (⟨"com/example/topicd/topicd/message/TopicQueue", "equals", "(Ljava/lang/Object;)Z"⟩ : MethodName)) (z := (⟨"com/example/topicd/topicd/message/TopicQueue", "equals", "(Ljava/lang/Object;)Z"⟩ : MethodName)) hown (mvT hZ w_37) (mvT hZ w_38) (notFace_of_selects (args := #[]) (mvT hZ w_40)) (mvT hZ w_40) (mvT hZ w_39) (by decide) (backOf (W := 0) (rm6_i l Z a0 hw [] b101 r162 T162.heap n0 Z174 ex162) hZ w_41 w_28 (by decide) (by decide)) q175a q175c (g := (mkF m 192 #[.val (.int p0), .val (.int p1), .val (.int p2), .val (.int p3), .val (.int p4), .val (.int (((p0.toUInt32 >>> ((24 : Int32) &&& 31).toUInt32).toInt32) &&& (3 : Int32))), .val (.int (0 : Int32)), .val (.int p1), .val (.int (((p1.toUInt32 >>> ((24 : Int32) &&& 31).toUInt32).toInt32) &&& (3 : Int32))), .val (.int p2), .val (.int (((p4.toUInt32 >>> ((3 : Int32) &&& 31).toUInt32).toInt32) &&& (3 : Int32))), .val (.ref r92), .val (.ref r95), .val (.ref b101), .val (.ref b120), .val (.ref r162), .val (.int (0 : Int32))] [(.ref r162), (.ref b101)])) rfl (by rw [hml]; rfl) (Steps.refl _) (argsL := [(.ref r162)]) (rest := []) (lenOf pd_5 rfl) rfl (by show 2 * 0 + _ ≤ _; exact Nat.le_of_eq rfl) (hb hby at_192) (fun _ _ => ⟨rfl, rfl, (by decide : 11 + 0 ≤ _), (by decide : 25 + 0 ≤ _)⟩)
            dsimp only [Pt.U, Pt.locs, Pt.cells, Pt.slots] at X175 l175 y175 z175 st175 hQ175
            rw [l175, y175, z175] at X175
            obtain ⟨N175, eh175, hR175⟩ := hQ175
            have NA175 := Fr.app NA162 N175
            obtain rfl := hR175
            refine GoesW.back st175 ?_
            show GoesW _ _ _ _ _ _ _ (T175.setTop (mkF m 195 _ [(.int (0 : Int32))]))
            refine GoesW.step (fun _ k => XS.iload X175.here hx rfl (hb hby at_195) rfl  k) ?_
            refine GoesW.step (fun _ k => XS.icmpYes X175.here hx rfl (pc0 := 197) (pc' := 202) rfl (hb hby at_197) rfl (teq (by decide : (0 : Int32) = (0 : Int32))).1 (by decide) (by decide) k) ?_
            show GoesW _ _ _ _ _ _ _ (T175.setTop (mkF m 202 _ []))
            refine GoesW.step (fun _ k => XS.iload X175.here hx rfl (hb hby at_202) rfl  k) ?_
            refine GoesW.step (fun _ k => XS.ifYes X175.here hx rfl (pc0 := 204) (pc' := 221) rfl (hb hby at_204) rfl ((if0 _ _).trans (feq c118_146).2) (by decide) (by decide) k) ?_
            show GoesW _ _ _ _ _ _ _ (T175.setTop (mkF m 221 _ []))
            refine GoesW.step (fun _ k => XS.aload X175.here hx rfl (hb hby at_221) rfl rfl k) ?_
            refine GoesW.step (fun _ k => XS.aload X175.here hx rfl (hb hby at_223) rfl rfl k) ?_
            obtain ⟨cq176, kq176, q176a, q176b, q176c⟩ := isOf hZ eh175 f168
            obtain ⟨_, _, ⟨T176, L176, k176, n176⟩, -, X176, ⟨Lc176, hQ176, l176, y176, z176⟩, st176⟩ := X175.virtualBack hx (y := (⟨"com/example/topicd/topicd/message/TopicQueue", "equals", "(Ljava/lang/Object;)Z"⟩ : MethodName)) (z := (⟨"com/example/topicd/topicd/message/TopicQueue", "equals", "(Ljava/lang/Object;)Z"⟩ : MethodName)) hown (mvT hZ w_37) (mvT hZ w_38) (notFace_of_selects (args := #[]) (mvT hZ w_40)) (mvT hZ w_40) (mvT hZ w_39) (by decide) (backOf (W := 0) (rm6_b l Z a0 hw [] b101 b101 r92 r92 p2 p2 cs92 cs92 zC T162.heap n0 Z174 f169 f170 f169 f170 f168 f164 f164 S_CS P5 XO163) hZ w_41 w_28 (by decide) (by decide)) q176a q176c (g := (mkF m 225 #[.val (.int p0), .val (.int p1), .val (.int p2), .val (.int p3), .val (.int p4), .val (.int (((p0.toUInt32 >>> ((24 : Int32) &&& 31).toUInt32).toInt32) &&& (3 : Int32))), .val (.int (0 : Int32)), .val (.int p1), .val (.int (((p1.toUInt32 >>> ((24 : Int32) &&& 31).toUInt32).toInt32) &&& (3 : Int32))), .val (.int p2), .val (.int (((p4.toUInt32 >>> ((3 : Int32) &&& 31).toUInt32).toInt32) &&& (3 : Int32))), .val (.ref r92), .val (.ref r95), .val (.ref b101), .val (.ref b120), .val (.ref r162), .val (.int (0 : Int32))] [(.ref b101), (.ref b101)])) rfl (by rw [hml]; rfl) (Steps.refl _) (argsL := [(.ref b101)]) (rest := []) (lenOf pd_5 rfl) rfl (by show 2 * 0 + _ ≤ _; exact Nat.le_of_eq rfl) (hb hby at_225) (fun _ _ => ⟨rfl, eh175, (by decide : 11 + 0 ≤ _), (by decide : 25 + 0 ≤ _)⟩)
            dsimp only [Pt.U, Pt.locs, Pt.cells, Pt.slots] at X176 l176 y176 z176 st176 hQ176
            rw [l176, y176, z176] at X176
            obtain ⟨N176, eh176, hR176⟩ := hQ176
            have NA176 := Fr.app NA175 N176
            rcases hR176 with ⟨rfl, u176, uu176⟩ | ⟨rfl, u176⟩
            · refine GoesW.back st176 ?_
              show GoesW _ _ _ _ _ _ _ (T176.setTop (mkF m 228 _ [(.int (1 : Int32))]))
              exact GoesW.ret1 X176 hS95 (by rw [eh176]; exact ZS174) hx (BodyLoose.notSynchronized Bd) Bd.returns rfl (Or.inl ⟨rfl, by simp, _, rfl⟩) (hb hby at_228) (by show Q0 Z p0 p1 p2 p3 p4 zC ca cc h0 n0 (some (.int (1 : Int32))) T176.vm T176.heap _; rw [eh176]; exact ⟨rfl, NA176⟩) (by decide) (by decide)
            · exact absurd ⟨(rfl : p2 = p2), (rfl : cs92 = cs92)⟩ u176
  · refine GoesW.step (fun _ k => XS.ifNo X0.here hx rfl (hb hby at_12) rfl ((if0 _ _).trans (feq c12_1).1) k) ?_
    show GoesW _ _ _ _ _ _ _ (s₁.setTop (mkF m 15 _ []))
    refine GoesW.step (fun _ k => XS.iconst X0.here hx rfl (hb hby at_15) k) ?_
    refine GoesW.step (fun _ k => XS.goto X0.here hx rfl (pc0 := 16) (pc' := 20) rfl (hb hby at_16) (by decide) (by decide) k) ?_
    show GoesW _ _ _ _ _ _ _ (s₁.setTop (mkF m 20 _ [(.int (1 : Int32))]))
    refine GoesW.step (fun _ k => XS.istore X0.here hx rfl (hb hby at_20) rfl (l' := #[.val (.int p0), .val (.int p1), .val (.int p2), .val (.int p3), .val (.int p4), .val (.int (((p0.toUInt32 >>> ((24 : Int32) &&& 31).toUInt32).toInt32) &&& (3 : Int32))), .val (.int (1 : Int32)), .unset, .unset, .unset, .unset, .unset, .unset, .unset, .unset, .unset, .unset]) rfl k) ?_
    show GoesW _ _ _ _ _ _ _ (s₁.setTop (mkF m 22 #[.val (.int p0), .val (.int p1), .val (.int p2), .val (.int p3), .val (.int p4), .val (.int (((p0.toUInt32 >>> ((24 : Int32) &&& 31).toUInt32).toInt32) &&& (3 : Int32))), .val (.int (1 : Int32)), .unset, .unset, .unset, .unset, .unset, .unset, .unset, .unset, .unset, .unset] []))
    refine GoesW.step (fun _ k => XS.iload X0.here hx rfl (hb hby at_22) rfl  k) ?_
    refine GoesW.step (fun _ k => XS.ifNo X0.here hx rfl (hb hby at_24) rfl ((if0 _ _).trans (feq (by decide : ¬ ((1 : Int32) = (0 : Int32)))).1) k) ?_
    show GoesW _ _ _ _ _ _ _ (s₁.setTop (mkF m 27 _ []))
    refine GoesW.step (fun _ k => XS.iloadN X0.here hx rfl (hb hby at_27) rfl  k) ?_
    refine GoesW.step (fun _ k => XS.goto X0.here hx rfl (pc0 := 28) (pc' := 32) rfl (hb hby at_28) (by decide) (by decide) k) ?_
    show GoesW _ _ _ _ _ _ _ (s₁.setTop (mkF m 32 _ [(.int p0)]))
    refine GoesW.step (fun _ k => XS.istore X0.here hx rfl (hb hby at_32) rfl (l' := #[.val (.int p0), .val (.int p1), .val (.int p2), .val (.int p3), .val (.int p4), .val (.int (((p0.toUInt32 >>> ((24 : Int32) &&& 31).toUInt32).toInt32) &&& (3 : Int32))), .val (.int (1 : Int32)), .val (.int p0), .unset, .unset, .unset, .unset, .unset, .unset, .unset, .unset, .unset]) rfl k) ?_
    show GoesW _ _ _ _ _ _ _ (s₁.setTop (mkF m 34 _ []))
    refine GoesW.step (fun _ k => XS.iload X0.here hx rfl (hb hby at_34) rfl  k) ?_
    refine GoesW.step (fun _ k => XS.ifNo X0.here hx rfl (hb hby at_36) rfl ((if0 _ _).trans (feq (by decide : ¬ ((1 : Int32) = (0 : Int32)))).1) k) ?_
    show GoesW _ _ _ _ _ _ _ (s₁.setTop (mkF m 39 _ []))
    refine GoesW.step (fun _ k => XS.iload X0.here hx rfl (hb hby at_39) rfl  k) ?_
    refine GoesW.step (fun _ k => XS.goto X0.here hx rfl (pc0 := 41) (pc' := 50) rfl (hb hby at_41) (by decide) (by decide) k) ?_
    show GoesW _ _ _ _ _ _ _ (s₁.setTop (mkF m 50 _ [(.int (((p0.toUInt32 >>> ((24 : Int32) &&& 31).toUInt32).toInt32) &&& (3 : Int32)))]))
    refine GoesW.step (fun _ k => XS.istore X0.here hx rfl (hb hby at_50) rfl (l' := #[.val (.int p0), .val (.int p1), .val (.int p2), .val (.int p3), .val (.int p4), .val (.int (((p0.toUInt32 >>> ((24 : Int32) &&& 31).toUInt32).toInt32) &&& (3 : Int32))), .val (.int (1 : Int32)), .val (.int p0), .val (.int (((p0.toUInt32 >>> ((24 : Int32) &&& 31).toUInt32).toInt32) &&& (3 : Int32))), .unset, .unset, .unset, .unset, .unset, .unset, .unset, .unset]) rfl k) ?_
    show GoesW _ _ _ _ _ _ _ (s₁.setTop (mkF m 52 _ []))
    refine GoesW.step (fun _ k => XS.iload X0.here hx rfl (hb hby at_52) rfl  k) ?_
    refine GoesW.step (fun _ k => XS.iconst X0.here hx rfl (hb hby at_54) k) ?_
    refine GoesW.step (fun _ k => XS.iand X0.here hx rfl (hb hby at_55) rfl k) ?_
    show GoesW _ _ _ _ _ _ _ (s₁.setTop (mkF m 56 #[.val (.int p0), .val (.int p1), .val (.int p2), .val (.int p3), .val (.int p4), .val (.int (((p0.toUInt32 >>> ((24 : Int32) &&& 31).toUInt32).toInt32) &&& (3 : Int32))), .val (.int (1 : Int32)), .val (.int p0), .val (.int (((p0.toUInt32 >>> ((24 : Int32) &&& 31).toUInt32).toInt32) &&& (3 : Int32))), .unset, .unset, .unset, .unset, .unset, .unset, .unset, .unset] [(.int (p4 &&& (4 : Int32)))]))
    by_cases c56_177 : (p4 &&& (4 : Int32)) = (0 : Int32)
    · refine GoesW.step (fun _ k => XS.ifYes X0.here hx rfl (pc0 := 56) (pc' := 63) rfl (hb hby at_56) rfl ((if0 _ _).trans (teq c56_177).1) (by decide) (by decide) k) ?_
      show GoesW _ _ _ _ _ _ _ (s₁.setTop (mkF m 63 _ []))
      refine GoesW.step (fun _ k => XS.iloadN X0.here hx rfl (hb hby at_63) rfl  k) ?_
      refine GoesW.step (fun _ k => XS.istore X0.here hx rfl (hb hby at_64) rfl (l' := #[.val (.int p0), .val (.int p1), .val (.int p2), .val (.int p3), .val (.int p4), .val (.int (((p0.toUInt32 >>> ((24 : Int32) &&& 31).toUInt32).toInt32) &&& (3 : Int32))), .val (.int (1 : Int32)), .val (.int p0), .val (.int (((p0.toUInt32 >>> ((24 : Int32) &&& 31).toUInt32).toInt32) &&& (3 : Int32))), .val (.int p3), .unset, .unset, .unset, .unset, .unset, .unset, .unset]) rfl k) ?_
      show GoesW _ _ _ _ _ _ _ (s₁.setTop (mkF m 66 _ []))
      refine GoesW.step (fun _ k => XS.iload X0.here hx rfl (hb hby at_66) rfl  k) ?_
      refine GoesW.step (fun _ k => XS.iconst X0.here hx rfl (hb hby at_68) k) ?_
      refine GoesW.step (fun _ k => XS.iushr X0.here hx rfl (hb hby at_69) rfl k) ?_
      show GoesW _ _ _ _ _ _ _ (s₁.setTop (mkF m 70 _ [(.int ((p4.toUInt32 >>> ((3 : Int32) &&& 31).toUInt32).toInt32))]))
      refine GoesW.step (fun _ k => XS.iconst X0.here hx rfl (hb hby at_70) k) ?_
      refine GoesW.step (fun _ k => XS.iand X0.here hx rfl (hb hby at_71) rfl k) ?_
      show GoesW _ _ _ _ _ _ _ (s₁.setTop (mkF m 72 _ [(.int (((p4.toUInt32 >>> ((3 : Int32) &&& 31).toUInt32).toInt32) &&& (3 : Int32)))]))
      refine GoesW.step (fun _ k => XS.istore X0.here hx rfl (hb hby at_72) rfl (l' := #[.val (.int p0), .val (.int p1), .val (.int p2), .val (.int p3), .val (.int p4), .val (.int (((p0.toUInt32 >>> ((24 : Int32) &&& 31).toUInt32).toInt32) &&& (3 : Int32))), .val (.int (1 : Int32)), .val (.int p0), .val (.int (((p0.toUInt32 >>> ((24 : Int32) &&& 31).toUInt32).toInt32) &&& (3 : Int32))), .val (.int p3), .val (.int (((p4.toUInt32 >>> ((3 : Int32) &&& 31).toUInt32).toInt32) &&& (3 : Int32))), .unset, .unset, .unset, .unset, .unset, .unset]) rfl k) ?_
      show GoesW _ _ _ _ _ _ _ (s₁.setTop (mkF m 74 _ []))
      refine GoesW.step (fun _ k => XS.iloadN X0.here hx rfl (hb hby at_74) rfl  k) ?_
      refine GoesW.step (fun _ k => XS.iload X0.here hx rfl (hb hby at_75) rfl  k) ?_
      obtain ⟨_, _, ⟨T178, L178, k178, n178⟩, -, X178, hs178, hg178, ⟨Lc178, hQ178, l178, y178, z178⟩, st178⟩ := callSS X0 hx (y := (⟨"com/example/topicd/topicd/message/TopicQueueEqualsPinLaw", "str", "(II)Ljava/lang/String;"⟩ : MethodName)) hown (mvT hZ w_0) (mvT hZ w_1) (mvT hZ w_2) (mvT hZ w_3) (by decide) (own_backS (W := 0) (rm1 l Z a0 hw [] p0 (((p0.toUInt32 >>> ((24 : Int32) &&& 31).toUInt32).toInt32) &&& (3 : Int32)) zC h0 n0 Z0 S_CS P5 X00 hheld hcw) hZ w_3 w_2 (by decide) (by decide)) (g := (mkF m 77 #[.val (.int p0), .val (.int p1), .val (.int p2), .val (.int p3), .val (.int p4), .val (.int (((p0.toUInt32 >>> ((24 : Int32) &&& 31).toUInt32).toInt32) &&& (3 : Int32))), .val (.int (1 : Int32)), .val (.int p0), .val (.int (((p0.toUInt32 >>> ((24 : Int32) &&& 31).toUInt32).toInt32) &&& (3 : Int32))), .val (.int p3), .val (.int (((p4.toUInt32 >>> ((3 : Int32) &&& 31).toUInt32).toInt32) &&& (3 : Int32))), .unset, .unset, .unset, .unset, .unset, .unset] [(.int (((p0.toUInt32 >>> ((24 : Int32) &&& 31).toUInt32).toInt32) &&& (3 : Int32))), (.int p0)])) rfl (by rw [hml]; rfl) (argsL := [(.int p0), (.int (((p0.toUInt32 >>> ((24 : Int32) &&& 31).toUInt32).toInt32) &&& (3 : Int32)))]) (rest := []) (lenOf pd_0 rfl) rfl (by show 2 * 0 + _ ≤ _; exact Nat.le_of_eq rfl) (hb hby at_77) (fun _ hWc => ⟨rfl, e0, (by decide : 0 + 4 ≤ _), (by decide : 0 + 10 ≤ _), own_CH.warm (s := s) hCH hWc⟩)
      dsimp only [Pt.U, Pt.locs, Pt.cells, Pt.slots] at X178 l178 y178 z178 st178 hQ178 hs178 hg178
      rw [l178, y178, z178] at X178
      have XX178 := X178
      have hS178 := hs178
      have hZ : Z.Warmed39 (s.setVm T178.vm).vm := State.Warmed39.trans (t := s) hZ hs178.1
      have hown : (s.setVm T178.vm).vm.findClass "com/example/topicd/topicd/message/TopicQueueEqualsPinLaw" = some m.cls := (hs178.1.alike.findClass _ _).trans hown
      obtain ⟨N178, KK178, CH178, r178, cs178, rfl, g_r178, le_r178, SS178⟩ := hQ178
      have NA178 := Fr.app N0 N178
      have sz_r178 : h0.size ≤ r178 := Nat.le_trans K0.1 le_r178
      have XO179 : Old Z n0 T178.heap := X00.keep KK178 all0
      have K180 : Keep h0 T178.heap [] := K0.trans KK178 all0
      have Z180 : n0 ≤ T178.heap.size := Nat.le_trans Z0 KK178.1
      have ES178 := SS178.exa
      refine GoesW.back st178 ?_
      show GoesW _ _ _ _ _ _ _ (T178.setTop (mkF m 80 _ [(.ref r178)]))
      refine GoesW.step (fun _ k => XS.astore XX178.here hx rfl (hb hby at_80) rfl rfl (l' := #[.val (.int p0), .val (.int p1), .val (.int p2), .val (.int p3), .val (.int p4), .val (.int (((p0.toUInt32 >>> ((24 : Int32) &&& 31).toUInt32).toInt32) &&& (3 : Int32))), .val (.int (1 : Int32)), .val (.int p0), .val (.int (((p0.toUInt32 >>> ((24 : Int32) &&& 31).toUInt32).toInt32) &&& (3 : Int32))), .val (.int p3), .val (.int (((p4.toUInt32 >>> ((3 : Int32) &&& 31).toUInt32).toInt32) &&& (3 : Int32))), .val (.ref r178), .unset, .unset, .unset, .unset, .unset]) rfl k) ?_
      show GoesW _ _ _ _ _ _ _ (T178.setTop (mkF m 82 #[.val (.int p0), .val (.int p1), .val (.int p2), .val (.int p3), .val (.int p4), .val (.int (((p0.toUInt32 >>> ((24 : Int32) &&& 31).toUInt32).toInt32) &&& (3 : Int32))), .val (.int (1 : Int32)), .val (.int p0), .val (.int (((p0.toUInt32 >>> ((24 : Int32) &&& 31).toUInt32).toInt32) &&& (3 : Int32))), .val (.int p3), .val (.int (((p4.toUInt32 >>> ((3 : Int32) &&& 31).toUInt32).toInt32) &&& (3 : Int32))), .val (.ref r178), .unset, .unset, .unset, .unset, .unset] []))
      refine GoesW.step (fun _ k => XS.iload XX178.here hx rfl (hb hby at_82) rfl  k) ?_
      refine GoesW.step (fun _ k => XS.iload XX178.here hx rfl (hb hby at_84) rfl  k) ?_
      obtain ⟨_, _, ⟨T181, L181, k181, n181⟩, -, X181, hs181, hg181, ⟨Lc181, hQ181, l181, y181, z181⟩, st181⟩ := callSS XX178 hx (y := (⟨"com/example/topicd/topicd/message/TopicQueueEqualsPinLaw", "str", "(II)Ljava/lang/String;"⟩ : MethodName)) hown (mvT hZ w_0) (mvT hZ w_1) (mvT hZ w_2) (mvT hZ w_3) (by decide) (own_backS (W := 0) (rm1 l Z a0 hw [] p0 (((p0.toUInt32 >>> ((24 : Int32) &&& 31).toUInt32).toInt32) &&& (3 : Int32)) zC T178.heap n0 Z180 S_CS P5 XO179 hheld hcw) hZ w_3 w_2 (by decide) (by decide)) (g := (mkF m 86 #[.val (.int p0), .val (.int p1), .val (.int p2), .val (.int p3), .val (.int p4), .val (.int (((p0.toUInt32 >>> ((24 : Int32) &&& 31).toUInt32).toInt32) &&& (3 : Int32))), .val (.int (1 : Int32)), .val (.int p0), .val (.int (((p0.toUInt32 >>> ((24 : Int32) &&& 31).toUInt32).toInt32) &&& (3 : Int32))), .val (.int p3), .val (.int (((p4.toUInt32 >>> ((3 : Int32) &&& 31).toUInt32).toInt32) &&& (3 : Int32))), .val (.ref r178), .unset, .unset, .unset, .unset, .unset] [(.int (((p0.toUInt32 >>> ((24 : Int32) &&& 31).toUInt32).toInt32) &&& (3 : Int32))), (.int p0)])) rfl (by rw [hml]; rfl) (argsL := [(.int p0), (.int (((p0.toUInt32 >>> ((24 : Int32) &&& 31).toUInt32).toInt32) &&& (3 : Int32)))]) (rest := []) (lenOf pd_0 rfl) rfl (by show 2 * 0 + _ ≤ _; exact Nat.le_of_eq rfl) (hb hby at_86) (fun _ hWc => ⟨rfl, rfl, (by decide : 4 + 4 ≤ _), (by decide : 10 + 10 ≤ _), own_CH.warm (s := (s.setVm T178.vm)) CH178 hWc⟩)
      dsimp only [Pt.U, Pt.locs, Pt.cells, Pt.slots] at X181 l181 y181 z181 st181 hQ181 hs181 hg181
      rw [l181, y181, z181] at X181
      obtain ⟨XX181, hS181⟩ := Stand.againW X181 hS178 hs181 (Nat.le_trans (Nat.le_refl _) hg181)
      have hZ : Z.Warmed39 (s.setVm T181.vm).vm := State.Warmed39.trans (t := (s.setVm T178.vm)) hZ hs181.1
      have hown : (s.setVm T181.vm).vm.findClass "com/example/topicd/topicd/message/TopicQueueEqualsPinLaw" = some m.cls := (hs181.1.alike.findClass _ _).trans hown
      obtain ⟨N181, KK181, CH181, r181, cs181, rfl, g_r181, le_r181, SS181⟩ := hQ181
      have NA181 := Fr.app NA178 N181
      have ne182 : r178 ≠ r181 := Nat.ne_of_lt (Nat.lt_of_lt_of_le SS178.lt le_r181)
      have sz_r181 : h0.size ≤ r181 := Nat.le_trans K180.1 le_r181
      have XO183 : Old Z n0 T181.heap := XO179.keep KK181 all0
      have f184 := SS178.keep0 KK181
      have f185 := ES178.keep KK181
      have K186 : Keep h0 T181.heap [] := K180.trans KK181 all0
      have Z186 : n0 ≤ T181.heap.size := Nat.le_trans Z180 KK181.1
      have ES181 := SS181.exa
      refine GoesW.back st181 ?_
      show GoesW _ _ _ _ _ _ _ (T181.setTop (mkF m 89 _ [(.ref r181)]))
      refine GoesW.step (fun _ k => XS.astore XX181.here hx rfl (hb hby at_89) rfl rfl (l' := #[.val (.int p0), .val (.int p1), .val (.int p2), .val (.int p3), .val (.int p4), .val (.int (((p0.toUInt32 >>> ((24 : Int32) &&& 31).toUInt32).toInt32) &&& (3 : Int32))), .val (.int (1 : Int32)), .val (.int p0), .val (.int (((p0.toUInt32 >>> ((24 : Int32) &&& 31).toUInt32).toInt32) &&& (3 : Int32))), .val (.int p3), .val (.int (((p4.toUInt32 >>> ((3 : Int32) &&& 31).toUInt32).toInt32) &&& (3 : Int32))), .val (.ref r178), .val (.ref r181), .unset, .unset, .unset, .unset]) rfl k) ?_
      show GoesW _ _ _ _ _ _ _ (T181.setTop (mkF m 91 _ []))
      obtain ⟨T187, h187, X187, e187, E187, A187, D187, -, st187⟩ := newO XX181 hx hZ hown w_26 w_27 w_28 rfl (g := (mkF m 91 #[.val (.int p0), .val (.int p1), .val (.int p2), .val (.int p3), .val (.int p4), .val (.int (((p0.toUInt32 >>> ((24 : Int32) &&& 31).toUInt32).toInt32) &&& (3 : Int32))), .val (.int (1 : Int32)), .val (.int p0), .val (.int (((p0.toUInt32 >>> ((24 : Int32) &&& 31).toUInt32).toInt32) &&& (3 : Int32))), .val (.int p3), .val (.int (((p4.toUInt32 >>> ((3 : Int32) &&& 31).toUInt32).toInt32) &&& (3 : Int32))), .val (.ref r178), .val (.ref r181), .unset, .unset, .unset, .unset] [])) rfl (hb hby at_91) (by decide) (by decide)
      obtain ⟨b187, g187⟩ : ∃ z, z = T181.heap.size := ⟨_, rfl⟩
      rw [← g187] at A187 D187 st187
      refine GoesW.step st187 ?_
      have g_b187 : n0 ≤ b187 := Nat.le_trans Z186 (Nat.le_of_eq g187.symm)
      have sz_b187 : h0.size ≤ b187 := Nat.le_trans K186.1 (Nat.le_of_eq g187.symm)
      have ne188 : r178 ≠ b187 := Nat.ne_of_lt (Nat.lt_of_lt_of_le f184.lt (Nat.le_of_eq g187.symm))
      have ne189 : r181 ≠ b187 := Nat.ne_of_lt (Nat.lt_of_lt_of_le SS181.lt (Nat.le_of_eq g187.symm))
      have XO190 : Old Z n0 h187 := XO183.ext E187
      have f191 := f184.ext E187
      have f192 := f185.ext E187
      have f193 := SS181.ext E187
      have f194 := ES181.ext E187
      have K195 : Keep h0 h187 [] := K186.ext E187
      have Z195 : n0 ≤ h187.size := Nat.le_trans Z186 E187.1
      have ZS195 : T181.heap.size ≤ h187.size := Nat.le_trans (Nat.le_refl _) E187.1
      have E_b187 := A187
      have F_topic_b187 : Fld Z h187 b187 "com/example/topicd/topicd/message/TopicQueue" "topic" "Ljava/lang/String;" .null := D187 (Or.inr w_34) (ty := (.object "java/lang/String")) (by decide)
      have F_queueId_b187 : Fld Z h187 b187 "com/example/topicd/topicd/message/TopicQueue" "queueId" "I" (.int (0 : Int32)) := D187 (Or.inr w_36) (ty := .int) (by decide)
      show GoesW _ _ _ _ _ _ _ (T187.setTop (mkF m 94 _ [(.ref b187)]))
      refine GoesW.step (fun _ k => XS.dup X187.here hx rfl (hb hby at_94) rfl rfl k) ?_
      refine GoesW.step (fun _ k => XS.aload X187.here hx rfl (hb hby at_95) rfl rfl k) ?_
      refine GoesW.step (fun _ k => XS.iloadN X187.here hx rfl (hb hby at_97) rfl  k) ?_
      obtain ⟨_, _, ⟨T196, L196, k196, n196⟩, -, X196, ⟨Lc196, hQ196, l196, y196, z196⟩, st196⟩ := X187.specialBack hx (y := (⟨"com/example/topicd/topicd/message/TopicQueue", "<init>", "(Ljava/lang/String;I)V"⟩ : MethodName)) rfl hown (mvT hZ w_29) (mvT hZ w_30) (mvT hZ w_31) (by decide) (backOf (W := 1) (rm5 l Z a0 hw [] b187 r178 p2 h187 n0 Z195 F_topic_b187 F_queueId_b187 E_b187 g_b187) hZ w_31 w_28 (by decide) (by decide)) (g := (mkF m 98 #[.val (.int p0), .val (.int p1), .val (.int p2), .val (.int p3), .val (.int p4), .val (.int (((p0.toUInt32 >>> ((24 : Int32) &&& 31).toUInt32).toInt32) &&& (3 : Int32))), .val (.int (1 : Int32)), .val (.int p0), .val (.int (((p0.toUInt32 >>> ((24 : Int32) &&& 31).toUInt32).toInt32) &&& (3 : Int32))), .val (.int p3), .val (.int (((p4.toUInt32 >>> ((3 : Int32) &&& 31).toUInt32).toInt32) &&& (3 : Int32))), .val (.ref r178), .val (.ref r181), .unset, .unset, .unset, .unset] [(.int p2), (.ref r178), (.ref b187), (.ref b187)])) rfl (by rw [hml]; rfl) (Steps.refl _) (a := b187) (argsL := [(.ref r178), (.int p2)]) (rest := [(.ref b187)]) (lenOf pd_4 rfl) rfl (by show 2 * 0 + _ ≤ _; exact Nat.le_of_eq rfl) (hb hby at_98) (fun _ _ => ⟨rfl, e187, (by decide : 9 + 0 ≤ _), (by decide : 22 + 0 ≤ _)⟩)
      dsimp only [Pt.U, Pt.locs, Pt.cells, Pt.slots] at X196 l196 y196 z196 st196 hQ196
      rw [l196, y196, z196] at X196
      obtain ⟨N196, KK196, hR196⟩ := hQ196
      have NA196 := Fr.app NA181 N196
      have XO197 : Old Z n0 T196.heap := XO190.keep KK196 (allS g_b187 all0)
      have f198 := f191.keepT KK196 E_b187 w_27 (by decide)
      have f199 := f192.keep KK196
      have f200 := f193.keepT KK196 E_b187 w_27 (by decide)
      have f201 := f194.keep KK196
      have f202 := E_b187.keep KK196
      have K205 : Keep h0 T196.heap [] := K195.trans KK196 (allS (Or.inr sz_b187) all0)
      have Z205 : n0 ≤ T196.heap.size := Nat.le_trans Z195 KK196.1
      have ZS205 : T181.heap.size ≤ T196.heap.size := Nat.le_trans ZS195 KK196.1
      obtain ⟨rfl, v196_0_0, v196_0_1, v196_0_2⟩ := hR196
      refine GoesW.back st196 ?_
      show GoesW _ _ _ _ _ _ _ (T196.setTop (mkF m 101 _ [(.ref b187)]))
      refine GoesW.step (fun _ k => XS.astore X196.here hx rfl (hb hby at_101) rfl rfl (l' := #[.val (.int p0), .val (.int p1), .val (.int p2), .val (.int p3), .val (.int p4), .val (.int (((p0.toUInt32 >>> ((24 : Int32) &&& 31).toUInt32).toInt32) &&& (3 : Int32))), .val (.int (1 : Int32)), .val (.int p0), .val (.int (((p0.toUInt32 >>> ((24 : Int32) &&& 31).toUInt32).toInt32) &&& (3 : Int32))), .val (.int p3), .val (.int (((p4.toUInt32 >>> ((3 : Int32) &&& 31).toUInt32).toInt32) &&& (3 : Int32))), .val (.ref r178), .val (.ref r181), .val (.ref b187), .unset, .unset, .unset]) rfl k) ?_
      show GoesW _ _ _ _ _ _ _ (T196.setTop (mkF m 103 _ []))
      obtain ⟨T206, h206, X206, e206, E206, A206, D206, -, st206⟩ := newO X196 hx hZ hown w_26 w_27 w_28 rfl (g := (mkF m 103 #[.val (.int p0), .val (.int p1), .val (.int p2), .val (.int p3), .val (.int p4), .val (.int (((p0.toUInt32 >>> ((24 : Int32) &&& 31).toUInt32).toInt32) &&& (3 : Int32))), .val (.int (1 : Int32)), .val (.int p0), .val (.int (((p0.toUInt32 >>> ((24 : Int32) &&& 31).toUInt32).toInt32) &&& (3 : Int32))), .val (.int p3), .val (.int (((p4.toUInt32 >>> ((3 : Int32) &&& 31).toUInt32).toInt32) &&& (3 : Int32))), .val (.ref r178), .val (.ref r181), .val (.ref b187), .unset, .unset, .unset] [])) rfl (hb hby at_103) (by decide) (by decide)
      obtain ⟨b206, g206⟩ : ∃ z, z = T196.heap.size := ⟨_, rfl⟩
      rw [← g206] at A206 D206 st206
      refine GoesW.step st206 ?_
      have g_b206 : n0 ≤ b206 := Nat.le_trans Z205 (Nat.le_of_eq g206.symm)
      have sz_b206 : h0.size ≤ b206 := Nat.le_trans K205.1 (Nat.le_of_eq g206.symm)
      have ne207 : r178 ≠ b206 := Nat.ne_of_lt (Nat.lt_of_lt_of_le f198.lt (Nat.le_of_eq g206.symm))
      have ne208 : r181 ≠ b206 := Nat.ne_of_lt (Nat.lt_of_lt_of_le f200.lt (Nat.le_of_eq g206.symm))
      have ne209 : b187 ≠ b206 := Nat.ne_of_lt (Nat.lt_of_lt_of_le v196_0_2.lt (Nat.le_of_eq g206.symm))
      have XO210 : Old Z n0 h206 := XO197.ext E206
      have f211 := f198.ext E206
      have f212 := f199.ext E206
      have f213 := f200.ext E206
      have f214 := f201.ext E206
      have f215 := v196_0_2.ext E206
      have f216 := v196_0_0.ext E206
      have f217 := v196_0_1.ext E206
      have K218 : Keep h0 h206 [] := K205.ext E206
      have Z218 : n0 ≤ h206.size := Nat.le_trans Z205 E206.1
      have ZS218 : T181.heap.size ≤ h206.size := Nat.le_trans ZS205 E206.1
      have E_b206 := A206
      have F_topic_b206 : Fld Z h206 b206 "com/example/topicd/topicd/message/TopicQueue" "topic" "Ljava/lang/String;" .null := D206 (Or.inr w_34) (ty := (.object "java/lang/String")) (by decide)
      have F_queueId_b206 : Fld Z h206 b206 "com/example/topicd/topicd/message/TopicQueue" "queueId" "I" (.int (0 : Int32)) := D206 (Or.inr w_36) (ty := .int) (by decide)
      show GoesW _ _ _ _ _ _ _ (T206.setTop (mkF m 106 _ [(.ref b206)]))
      refine GoesW.step (fun _ k => XS.dup X206.here hx rfl (hb hby at_106) rfl rfl k) ?_
      refine GoesW.step (fun _ k => XS.aload X206.here hx rfl (hb hby at_107) rfl rfl k) ?_
      refine GoesW.step (fun _ k => XS.iload X206.here hx rfl (hb hby at_109) rfl  k) ?_
      obtain ⟨_, _, ⟨T219, L219, k219, n219⟩, -, X219, ⟨Lc219, hQ219, l219, y219, z219⟩, st219⟩ := X206.specialBack hx (y := (⟨"com/example/topicd/topicd/message/TopicQueue", "<init>", "(Ljava/lang/String;I)V"⟩ : MethodName)) rfl hown (mvT hZ w_29) (mvT hZ w_30) (mvT hZ w_31) (by decide) (backOf (W := 1) (rm5 l Z a0 hw [] b206 r181 p3 h206 n0 Z218 F_topic_b206 F_queueId_b206 E_b206 g_b206) hZ w_31 w_28 (by decide) (by decide)) (g := (mkF m 111 #[.val (.int p0), .val (.int p1), .val (.int p2), .val (.int p3), .val (.int p4), .val (.int (((p0.toUInt32 >>> ((24 : Int32) &&& 31).toUInt32).toInt32) &&& (3 : Int32))), .val (.int (1 : Int32)), .val (.int p0), .val (.int (((p0.toUInt32 >>> ((24 : Int32) &&& 31).toUInt32).toInt32) &&& (3 : Int32))), .val (.int p3), .val (.int (((p4.toUInt32 >>> ((3 : Int32) &&& 31).toUInt32).toInt32) &&& (3 : Int32))), .val (.ref r178), .val (.ref r181), .val (.ref b187), .unset, .unset, .unset] [(.int p3), (.ref r181), (.ref b206), (.ref b206)])) rfl (by rw [hml]; rfl) (Steps.refl _) (a := b206) (argsL := [(.ref r181), (.int p3)]) (rest := [(.ref b206)]) (lenOf pd_4 rfl) rfl (by show 2 * 0 + _ ≤ _; exact Nat.le_of_eq rfl) (hb hby at_111) (fun _ _ => ⟨rfl, e206, (by decide : 10 + 0 ≤ _), (by decide : 24 + 0 ≤ _)⟩)
      dsimp only [Pt.U, Pt.locs, Pt.cells, Pt.slots] at X219 l219 y219 z219 st219 hQ219
      rw [l219, y219, z219] at X219
      obtain ⟨N219, KK219, hR219⟩ := hQ219
      have NA219 := Fr.app NA196 N219
      have XO220 : Old Z n0 T219.heap := XO210.keep KK219 (allS g_b206 all0)
      have f221 := f211.keepT KK219 E_b206 w_27 (by decide)
      have f222 := f212.keep KK219
      have f223 := f213.keepT KK219 E_b206 w_27 (by decide)
      have f224 := f214.keep KK219
      have f225 := f215.keep KK219
      have f226 := f216.keep KK219 (ninS ne209 nin0)
      have f227 := f217.keep KK219 (ninS ne209 nin0)
      have f228 := E_b206.keep KK219
      have K231 : Keep h0 T219.heap [] := K218.trans KK219 (allS (Or.inr sz_b206) all0)
      have Z231 : n0 ≤ T219.heap.size := Nat.le_trans Z218 KK219.1
      have ZS231 : T181.heap.size ≤ T219.heap.size := Nat.le_trans ZS218 KK219.1
      obtain ⟨rfl, v219_0_0, v219_0_1, v219_0_2⟩ := hR219
      refine GoesW.back st219 ?_
      show GoesW _ _ _ _ _ _ _ (T219.setTop (mkF m 114 #[.val (.int p0), .val (.int p1), .val (.int p2), .val (.int p3), .val (.int p4), .val (.int (((p0.toUInt32 >>> ((24 : Int32) &&& 31).toUInt32).toInt32) &&& (3 : Int32))), .val (.int (1 : Int32)), .val (.int p0), .val (.int (((p0.toUInt32 >>> ((24 : Int32) &&& 31).toUInt32).toInt32) &&& (3 : Int32))), .val (.int p3), .val (.int (((p4.toUInt32 >>> ((3 : Int32) &&& 31).toUInt32).toInt32) &&& (3 : Int32))), .val (.ref r178), .val (.ref r181), .val (.ref b187), .unset, .unset, .unset] [(.ref b206)]))
      refine GoesW.step (fun _ k => XS.astore X219.here hx rfl (hb hby at_114) rfl rfl (l' := #[.val (.int p0), .val (.int p1), .val (.int p2), .val (.int p3), .val (.int p4), .val (.int (((p0.toUInt32 >>> ((24 : Int32) &&& 31).toUInt32).toInt32) &&& (3 : Int32))), .val (.int (1 : Int32)), .val (.int p0), .val (.int (((p0.toUInt32 >>> ((24 : Int32) &&& 31).toUInt32).toInt32) &&& (3 : Int32))), .val (.int p3), .val (.int (((p4.toUInt32 >>> ((3 : Int32) &&& 31).toUInt32).toInt32) &&& (3 : Int32))), .val (.ref r178), .val (.ref r181), .val (.ref b187), .val (.ref b206), .unset, .unset]) rfl k) ?_
      show GoesW _ _ _ _ _ _ _ (T219.setTop (mkF m 116 _ []))
      refine GoesW.step (fun _ k => XS.iload X219.here hx rfl (hb hby at_116) rfl  k) ?_
      by_cases c118_232 : (((p4.toUInt32 >>> ((3 : Int32) &&& 31).toUInt32).toInt32) &&& (3 : Int32)) = (0 : Int32)
      · refine GoesW.step (fun _ k => XS.ifNo X219.here hx rfl (hb hby at_118) rfl ((if0 _ _).trans (teq c118_232).2) k) ?_
        show GoesW _ _ _ _ _ _ _ (T219.setTop (mkF m 121 _ []))
        refine GoesW.step (fun _ k => XS.aload X219.here hx rfl (hb hby at_121) rfl rfl k) ?_
        refine GoesW.step (fun _ k => XS.astore X219.here hx rfl (hb hby at_123) rfl rfl (l' := #[.val (.int p0), .val (.int p1), .val (.int p2), .val (.int p3), .val (.int p4), .val (.int (((p0.toUInt32 >>> ((24 : Int32) &&& 31).toUInt32).toInt32) &&& (3 : Int32))), .val (.int (1 : Int32)), .val (.int p0), .val (.int (((p0.toUInt32 >>> ((24 : Int32) &&& 31).toUInt32).toInt32) &&& (3 : Int32))), .val (.int p3), .val (.int (((p4.toUInt32 >>> ((3 : Int32) &&& 31).toUInt32).toInt32) &&& (3 : Int32))), .val (.ref r178), .val (.ref r181), .val (.ref b187), .val (.ref b206), .val (.ref b206), .unset]) rfl k) ?_
        show GoesW _ _ _ _ _ _ _ (T219.setTop (mkF m 125 _ []))
        refine GoesW.step (fun _ k => XS.goto X219.here hx rfl (pc0 := 125) (pc' := 160) rfl (hb hby at_125) (by decide) (by decide) k) ?_
        show GoesW _ _ _ _ _ _ _ (T219.setTop (mkF m 160 _ []))
        refine GoesW.step (fun _ k => XS.iload X219.here hx rfl (hb hby at_160) rfl  k) ?_
        refine GoesW.step (fun _ k => XS.ifNo X219.here hx rfl (hb hby at_162) rfl ((if0 _ _).trans (teq c118_232).2) k) ?_
        show GoesW _ _ _ _ _ _ _ (T219.setTop (mkF m 165 _ []))
        refine GoesW.step (fun _ k => XS.iloadN X219.here hx rfl (hb hby at_165) rfl  k) ?_
        refine GoesW.step (fun _ k => XS.iload X219.here hx rfl (hb hby at_166) rfl  k) ?_
        by_cases c168_233 : p2 = p3
        · refine GoesW.step (fun _ k => XS.icmpNo X219.here hx rfl (hb hby at_168) rfl (teq c168_233).2 k) ?_
          show GoesW _ _ _ _ _ _ _ (T219.setTop (mkF m 171 _ []))
          refine GoesW.step (fun _ k => XS.aload X219.here hx rfl (hb hby at_171) rfl rfl k) ?_
          refine GoesW.step (fun _ k => XS.aload X219.here hx rfl (hb hby at_173) rfl rfl k) ?_
          obtain ⟨et235, ek235, en235, ev235, e1_235, e2_235, e3_235, e4_235, e5_235, e6_235, e7_235⟩ := id f221
          obtain ⟨et236, ek236, en236, ev236, e1_236, e2_236, e3_236, e4_236, e5_236, e6_236, e7_236⟩ := id f223
          obtain ⟨cq234, kq234, q234a, q234b, q234c⟩ := isOf hZ rfl f222
          obtain ⟨_, _, ⟨T234, L234, k234, n234⟩, -, X234, ⟨Lc234, hQ234, l234, y234, z234⟩, st234⟩ := X219.virtualBack hx (y := (⟨"java/lang/String", "equals", "(Ljava/lang/Object;)Z"⟩ : MethodName)) (z := (⟨"java/lang/String", "equals", "(Ljava/lang/Object;)Z"⟩ : MethodName)) hown (mvT hZ w_49) (mvT hZ w_45) (notFace_of_selects (args := #[]) (mvT hZ w_47)) (mvT hZ w_47) (mvT hZ w_46) (by decide) (StrChars.Road.eqW (W := 0) hZ hwe (kI := 4) w_5 e1_235 e2_235 e3_235 e4_235 e5_235 e6_235 e7_235 e1_236 e2_236 e3_236 e4_236 e5_236 e6_236 e7_236 (S_CS.ext XO220.2) P5 (by decide) (by decide)) q234a q234c (g := (mkF m 175 #[.val (.int p0), .val (.int p1), .val (.int p2), .val (.int p3), .val (.int p4), .val (.int (((p0.toUInt32 >>> ((24 : Int32) &&& 31).toUInt32).toInt32) &&& (3 : Int32))), .val (.int (1 : Int32)), .val (.int p0), .val (.int (((p0.toUInt32 >>> ((24 : Int32) &&& 31).toUInt32).toInt32) &&& (3 : Int32))), .val (.int p3), .val (.int (((p4.toUInt32 >>> ((3 : Int32) &&& 31).toUInt32).toInt32) &&& (3 : Int32))), .val (.ref r178), .val (.ref r181), .val (.ref b187), .val (.ref b206), .val (.ref b206), .unset] [(.ref r181), (.ref r178)])) rfl (by rw [hml]; rfl) (Steps.refl _) (argsL := [(.ref r181)]) (rest := []) (lenOf pd_5 rfl) rfl (by show 2 * 0 + _ ≤ _; exact Nat.le_of_eq rfl) (hb hby at_175) (fun _ _ => ⟨rfl, rfl, (by decide : 10 + 0 ≤ _), (by decide : 24 + 0 ≤ _)⟩)
          dsimp only [Pt.U, Pt.locs, Pt.cells, Pt.slots] at X234 l234 y234 z234 st234 hQ234
          rw [l234, y234, z234] at X234
          obtain ⟨hR234, rfl, eh234⟩ := hQ234
          have NA234 := Fr.app NA219 (Fr.nil n0)
          rcases hR234 with ⟨rfl, u234⟩ | ⟨rfl, u234⟩
          · refine GoesW.back st234 ?_
            show GoesW _ _ _ _ _ _ _ (T234.setTop (mkF m 178 #[.val (.int p0), .val (.int p1), .val (.int p2), .val (.int p3), .val (.int p4), .val (.int (((p0.toUInt32 >>> ((24 : Int32) &&& 31).toUInt32).toInt32) &&& (3 : Int32))), .val (.int (1 : Int32)), .val (.int p0), .val (.int (((p0.toUInt32 >>> ((24 : Int32) &&& 31).toUInt32).toInt32) &&& (3 : Int32))), .val (.int p3), .val (.int (((p4.toUInt32 >>> ((3 : Int32) &&& 31).toUInt32).toInt32) &&& (3 : Int32))), .val (.ref r178), .val (.ref r181), .val (.ref b187), .val (.ref b206), .val (.ref b206), .unset] [(.int (1 : Int32))]))
            refine GoesW.step (fun _ k => XS.ifNo X234.here hx rfl (hb hby at_178) rfl ((if0 _ _).trans (feq (by decide : ¬ ((1 : Int32) = (0 : Int32)))).1) k) ?_
            show GoesW _ _ _ _ _ _ _ (T234.setTop (mkF m 181 _ []))
            refine GoesW.step (fun _ k => XS.iconst X234.here hx rfl (hb hby at_181) k) ?_
            refine GoesW.step (fun _ k => XS.goto X234.here hx rfl (pc0 := 182) (pc' := 186) rfl (hb hby at_182) (by decide) (by decide) k) ?_
            show GoesW _ _ _ _ _ _ _ (T234.setTop (mkF m 186 _ [(.int (1 : Int32))]))
            refine GoesW.step (fun _ k => XS.istore X234.here hx rfl (hb hby at_186) rfl (l' := #[.val (.int p0), .val (.int p1), .val (.int p2), .val (.int p3), .val (.int p4), .val (.int (((p0.toUInt32 >>> ((24 : Int32) &&& 31).toUInt32).toInt32) &&& (3 : Int32))), .val (.int (1 : Int32)), .val (.int p0), .val (.int (((p0.toUInt32 >>> ((24 : Int32) &&& 31).toUInt32).toInt32) &&& (3 : Int32))), .val (.int p3), .val (.int (((p4.toUInt32 >>> ((3 : Int32) &&& 31).toUInt32).toInt32) &&& (3 : Int32))), .val (.ref r178), .val (.ref r181), .val (.ref b187), .val (.ref b206), .val (.ref b206), .val (.int (1 : Int32))]) rfl k) ?_
            show GoesW _ _ _ _ _ _ _ (T234.setTop (mkF m 188 _ []))
            refine GoesW.step (fun _ k => XS.aload X234.here hx rfl (hb hby at_188) rfl rfl k) ?_
            refine GoesW.step (fun _ k => XS.aload X234.here hx rfl (hb hby at_190) rfl rfl k) ?_
            obtain ⟨cq237, kq237, q237a, q237b, q237c⟩ := isOf hZ eh234 f225
            obtain ⟨_, _, ⟨T237, L237, k237, n237⟩, -, X237, ⟨Lc237, hQ237, l237, y237, z237⟩, st237⟩ := X234.virtualBack hx (y := (⟨"com/example/topicd/topicd/message/TopicQueue", "equals", "(Ljava/lang/Object;)Z"⟩ : MethodName)) (z := (⟨"com/example/topicd/topicd/message/TopicQueue", "equals", "(Ljava/lang/Object;)Z"⟩ : MethodName)) hown (mvT hZ w_37) (mvT hZ w_38) (notFace_of_selects (args := #[]) (mvT hZ w_40)) (mvT hZ w_40) (mvT hZ w_39) (by decide) (backOf (W := 0) (rm6_b l Z a0 hw [] b187 b206 r178 r181 p2 p3 cs178 cs181 zC T219.heap n0 Z231 f226 f227 v219_0_0 v219_0_1 v219_0_2 f221 f223 S_CS P5 XO220) hZ w_41 w_28 (by decide) (by decide)) q237a q237c (g := (mkF m 192 #[.val (.int p0), .val (.int p1), .val (.int p2), .val (.int p3), .val (.int p4), .val (.int (((p0.toUInt32 >>> ((24 : Int32) &&& 31).toUInt32).toInt32) &&& (3 : Int32))), .val (.int (1 : Int32)), .val (.int p0), .val (.int (((p0.toUInt32 >>> ((24 : Int32) &&& 31).toUInt32).toInt32) &&& (3 : Int32))), .val (.int p3), .val (.int (((p4.toUInt32 >>> ((3 : Int32) &&& 31).toUInt32).toInt32) &&& (3 : Int32))), .val (.ref r178), .val (.ref r181), .val (.ref b187), .val (.ref b206), .val (.ref b206), .val (.int (1 : Int32))] [(.ref b206), (.ref b187)])) rfl (by rw [hml]; rfl) (Steps.refl _) (argsL := [(.ref b206)]) (rest := []) (lenOf pd_5 rfl) rfl (by show 2 * 0 + _ ≤ _; exact Nat.le_of_eq rfl) (hb hby at_192) (fun _ _ => ⟨rfl, eh234, (by decide : 10 + 0 ≤ _), (by decide : 24 + 0 ≤ _)⟩)
            dsimp only [Pt.U, Pt.locs, Pt.cells, Pt.slots] at X237 l237 y237 z237 st237 hQ237
            rw [l237, y237, z237] at X237
            obtain ⟨N237, eh237, hR237⟩ := hQ237
            have NA237 := Fr.app NA234 N237
            rcases hR237 with ⟨rfl, u237, uu237⟩ | ⟨rfl, u237⟩
            · refine GoesW.back st237 ?_
              show GoesW _ _ _ _ _ _ _ (T237.setTop (mkF m 195 _ [(.int (1 : Int32))]))
              refine GoesW.step (fun _ k => XS.iload X237.here hx rfl (hb hby at_195) rfl  k) ?_
              refine GoesW.step (fun _ k => XS.icmpYes X237.here hx rfl (pc0 := 197) (pc' := 202) rfl (hb hby at_197) rfl (teq (by decide : (1 : Int32) = (1 : Int32))).1 (by decide) (by decide) k) ?_
              show GoesW _ _ _ _ _ _ _ (T237.setTop (mkF m 202 _ []))
              refine GoesW.step (fun _ k => XS.iload X237.here hx rfl (hb hby at_202) rfl  k) ?_
              refine GoesW.step (fun _ k => XS.ifNo X237.here hx rfl (hb hby at_204) rfl ((if0 _ _).trans (teq c118_232).2) k) ?_
              show GoesW _ _ _ _ _ _ _ (T237.setTop (mkF m 207 _ []))
              refine GoesW.step (fun _ k => XS.aload X237.here hx rfl (hb hby at_207) rfl rfl k) ?_
              refine GoesW.step (fun _ k => XS.aload X237.here hx rfl (hb hby at_209) rfl rfl k) ?_
              obtain ⟨cq238, kq238, q238a, q238b, q238c⟩ := isOf hZ eh237 v219_0_2
              obtain ⟨_, _, ⟨T238, L238, k238, n238⟩, -, X238, ⟨Lc238, hQ238, l238, y238, z238⟩, st238⟩ := X237.virtualBack hx (y := (⟨"com/example/topicd/topicd/message/TopicQueue", "equals", "(Ljava/lang/Object;)Z"⟩ : MethodName)) (z := (⟨"com/example/topicd/topicd/message/TopicQueue", "equals", "(Ljava/lang/Object;)Z"⟩ : MethodName)) hown (mvT hZ w_37) (mvT hZ w_38) (notFace_of_selects (args := #[]) (mvT hZ w_40)) (mvT hZ w_40) (mvT hZ w_39) (by decide) (backOf (W := 0) (rm6_b l Z a0 hw [] b206 b187 r181 r178 p3 p2 cs181 cs178 zC T219.heap n0 Z231 v219_0_0 v219_0_1 f226 f227 f225 f223 f221 S_CS P5 XO220) hZ w_41 w_28 (by decide) (by decide)) q238a q238c (g := (mkF m 211 #[.val (.int p0), .val (.int p1), .val (.int p2), .val (.int p3), .val (.int p4), .val (.int (((p0.toUInt32 >>> ((24 : Int32) &&& 31).toUInt32).toInt32) &&& (3 : Int32))), .val (.int (1 : Int32)), .val (.int p0), .val (.int (((p0.toUInt32 >>> ((24 : Int32) &&& 31).toUInt32).toInt32) &&& (3 : Int32))), .val (.int p3), .val (.int (((p4.toUInt32 >>> ((3 : Int32) &&& 31).toUInt32).toInt32) &&& (3 : Int32))), .val (.ref r178), .val (.ref r181), .val (.ref b187), .val (.ref b206), .val (.ref b206), .val (.int (1 : Int32))] [(.ref b187), (.ref b206)])) rfl (by rw [hml]; rfl) (Steps.refl _) (argsL := [(.ref b187)]) (rest := []) (lenOf pd_5 rfl) rfl (by show 2 * 0 + _ ≤ _; exact Nat.le_of_eq rfl) (hb hby at_211) (fun _ _ => ⟨rfl, eh237, (by decide : 10 + 0 ≤ _), (by decide : 24 + 0 ≤ _)⟩)
              dsimp only [Pt.U, Pt.locs, Pt.cells, Pt.slots] at X238 l238 y238 z238 st238 hQ238
              rw [l238, y238, z238] at X238
              obtain ⟨N238, eh238, hR238⟩ := hQ238
              have NA238 := Fr.app NA237 N238
              rcases hR238 with ⟨rfl, u238, uu238⟩ | ⟨rfl, u238⟩
              · refine GoesW.back st238 ?_
                show GoesW _ _ _ _ _ _ _ (T238.setTop (mkF m 214 #[.val (.int p0), .val (.int p1), .val (.int p2), .val (.int p3), .val (.int p4), .val (.int (((p0.toUInt32 >>> ((24 : Int32) &&& 31).toUInt32).toInt32) &&& (3 : Int32))), .val (.int (1 : Int32)), .val (.int p0), .val (.int (((p0.toUInt32 >>> ((24 : Int32) &&& 31).toUInt32).toInt32) &&& (3 : Int32))), .val (.int p3), .val (.int (((p4.toUInt32 >>> ((3 : Int32) &&& 31).toUInt32).toInt32) &&& (3 : Int32))), .val (.ref r178), .val (.ref r181), .val (.ref b187), .val (.ref b206), .val (.ref b206), .val (.int (1 : Int32))] [(.int (1 : Int32))]))
                refine GoesW.step (fun _ k => XS.iload X238.here hx rfl (hb hby at_214) rfl  k) ?_
                refine GoesW.step (fun _ k => XS.icmpYes X238.here hx rfl (pc0 := 216) (pc' := 221) rfl (hb hby at_216) rfl (teq (by decide : (1 : Int32) = (1 : Int32))).1 (by decide) (by decide) k) ?_
                show GoesW _ _ _ _ _ _ _ (T238.setTop (mkF m 221 _ []))
                refine GoesW.step (fun _ k => XS.aload X238.here hx rfl (hb hby at_221) rfl rfl k) ?_
                refine GoesW.step (fun _ k => XS.aload X238.here hx rfl (hb hby at_223) rfl rfl k) ?_
                obtain ⟨cq239, kq239, q239a, q239b, q239c⟩ := isOf hZ eh238 f225
                obtain ⟨_, _, ⟨T239, L239, k239, n239⟩, -, X239, ⟨Lc239, hQ239, l239, y239, z239⟩, st239⟩ := X238.virtualBack hx (y := (⟨"com/example/topicd/topicd/message/TopicQueue", "equals", "(Ljava/lang/Object;)Z"⟩ : MethodName)) (z := (⟨"com/example/topicd/topicd/message/TopicQueue", "equals", "(Ljava/lang/Object;)Z"⟩ : MethodName)) hown (mvT hZ w_37) (mvT hZ w_38) (notFace_of_selects (args := #[]) (mvT hZ w_40)) (mvT hZ w_40) (mvT hZ w_39) (by decide) (backOf (W := 0) (rm6_b l Z a0 hw [] b187 b187 r178 r178 p2 p2 cs178 cs178 zC T219.heap n0 Z231 f226 f227 f226 f227 f225 f221 f221 S_CS P5 XO220) hZ w_41 w_28 (by decide) (by decide)) q239a q239c (g := (mkF m 225 #[.val (.int p0), .val (.int p1), .val (.int p2), .val (.int p3), .val (.int p4), .val (.int (((p0.toUInt32 >>> ((24 : Int32) &&& 31).toUInt32).toInt32) &&& (3 : Int32))), .val (.int (1 : Int32)), .val (.int p0), .val (.int (((p0.toUInt32 >>> ((24 : Int32) &&& 31).toUInt32).toInt32) &&& (3 : Int32))), .val (.int p3), .val (.int (((p4.toUInt32 >>> ((3 : Int32) &&& 31).toUInt32).toInt32) &&& (3 : Int32))), .val (.ref r178), .val (.ref r181), .val (.ref b187), .val (.ref b206), .val (.ref b206), .val (.int (1 : Int32))] [(.ref b187), (.ref b187)])) rfl (by rw [hml]; rfl) (Steps.refl _) (argsL := [(.ref b187)]) (rest := []) (lenOf pd_5 rfl) rfl (by show 2 * 0 + _ ≤ _; exact Nat.le_of_eq rfl) (hb hby at_225) (fun _ _ => ⟨rfl, eh238, (by decide : 10 + 0 ≤ _), (by decide : 24 + 0 ≤ _)⟩)
                dsimp only [Pt.U, Pt.locs, Pt.cells, Pt.slots] at X239 l239 y239 z239 st239 hQ239
                rw [l239, y239, z239] at X239
                obtain ⟨N239, eh239, hR239⟩ := hQ239
                have NA239 := Fr.app NA238 N239
                rcases hR239 with ⟨rfl, u239, uu239⟩ | ⟨rfl, u239⟩
                · refine GoesW.back st239 ?_
                  show GoesW _ _ _ _ _ _ _ (T239.setTop (mkF m 228 _ [(.int (1 : Int32))]))
                  exact GoesW.ret1 X239 hS181 (by rw [eh239]; exact ZS231) hx (BodyLoose.notSynchronized Bd) Bd.returns rfl (Or.inl ⟨rfl, by simp, _, rfl⟩) (hb hby at_228) (by show Q0 Z p0 p1 p2 p3 p4 zC ca cc h0 n0 (some (.int (1 : Int32))) T239.vm T239.heap _; rw [eh239]; exact ⟨rfl, NA239⟩) (by decide) (by decide)
                · exact absurd ⟨(rfl : p2 = p2), (rfl : cs178 = cs178)⟩ u239
              · exact absurd ⟨c168_233, u234⟩ u238
            · exact absurd ⟨(Eq.symm c168_233), (Eq.symm u234)⟩ u237
          · refine GoesW.back st234 ?_
            show GoesW _ _ _ _ _ _ _ (T234.setTop (mkF m 178 #[.val (.int p0), .val (.int p1), .val (.int p2), .val (.int p3), .val (.int p4), .val (.int (((p0.toUInt32 >>> ((24 : Int32) &&& 31).toUInt32).toInt32) &&& (3 : Int32))), .val (.int (1 : Int32)), .val (.int p0), .val (.int (((p0.toUInt32 >>> ((24 : Int32) &&& 31).toUInt32).toInt32) &&& (3 : Int32))), .val (.int p3), .val (.int (((p4.toUInt32 >>> ((3 : Int32) &&& 31).toUInt32).toInt32) &&& (3 : Int32))), .val (.ref r178), .val (.ref r181), .val (.ref b187), .val (.ref b206), .val (.ref b206), .unset] [(.int (0 : Int32))]))
            refine GoesW.step (fun _ k => XS.ifYes X234.here hx rfl (pc0 := 178) (pc' := 185) rfl (hb hby at_178) rfl ((if0 _ _).trans (teq (by decide : (0 : Int32) = (0 : Int32))).1) (by decide) (by decide) k) ?_
            show GoesW _ _ _ _ _ _ _ (T234.setTop (mkF m 185 _ []))
            refine GoesW.step (fun _ k => XS.iconst X234.here hx rfl (hb hby at_185) k) ?_
            refine GoesW.step (fun _ k => XS.istore X234.here hx rfl (hb hby at_186) rfl (l' := #[.val (.int p0), .val (.int p1), .val (.int p2), .val (.int p3), .val (.int p4), .val (.int (((p0.toUInt32 >>> ((24 : Int32) &&& 31).toUInt32).toInt32) &&& (3 : Int32))), .val (.int (1 : Int32)), .val (.int p0), .val (.int (((p0.toUInt32 >>> ((24 : Int32) &&& 31).toUInt32).toInt32) &&& (3 : Int32))), .val (.int p3), .val (.int (((p4.toUInt32 >>> ((3 : Int32) &&& 31).toUInt32).toInt32) &&& (3 : Int32))), .val (.ref r178), .val (.ref r181), .val (.ref b187), .val (.ref b206), .val (.ref b206), .val (.int (0 : Int32))]) rfl k) ?_
            show GoesW _ _ _ _ _ _ _ (T234.setTop (mkF m 188 _ []))
            refine GoesW.step (fun _ k => XS.aload X234.here hx rfl (hb hby at_188) rfl rfl k) ?_
            refine GoesW.step (fun _ k => XS.aload X234.here hx rfl (hb hby at_190) rfl rfl k) ?_
            obtain ⟨cq240, kq240, q240a, q240b, q240c⟩ := isOf hZ eh234 f225
            obtain ⟨_, _, ⟨T240, L240, k240, n240⟩, -, X240, ⟨Lc240, hQ240, l240, y240, z240⟩, st240⟩ := X234.virtualBack hx (y := (⟨"com/example/topicd/topicd/message/TopicQueue", "equals", "(Ljava/lang/Object;)Z"⟩ : MethodName)) (z := (⟨"com/example/topicd/topicd/message/TopicQueue", "equals", "(Ljava/lang/Object;)Z"⟩ : MethodName)) hown (mvT hZ w_37) (mvT hZ w_38) (notFace_of_selects (args := #[]) (mvT hZ w_40)) (mvT hZ w_40) (mvT hZ w_39) (by decide) (backOf (W := 0) (rm6_b l Z a0 hw [] b187 b206 r178 r181 p2 p3 cs178 cs181 zC T219.heap n0 Z231 f226 f227 v219_0_0 v219_0_1 v219_0_2 f221 f223 S_CS P5 XO220) hZ w_41 w_28 (by decide) (by decide)) q240a q240c (g := (mkF m 192 #[.val (.int p0), .val (.int p1), .val (.int p2), .val (.int p3), .val (.int p4), .val (.int (((p0.toUInt32 >>> ((24 : Int32) &&& 31).toUInt32).toInt32) &&& (3 : Int32))), .val (.int (1 : Int32)), .val (.int p0), .val (.int (((p0.toUInt32 >>> ((24 : Int32) &&& 31).toUInt32).toInt32) &&& (3 : Int32))), .val (.int p3), .val (.int (((p4.toUInt32 >>> ((3 : Int32) &&& 31).toUInt32).toInt32) &&& (3 : Int32))), .val (.ref r178), .val (.ref r181), .val (.ref b187), .val (.ref b206), .val (.ref b206), .val (.int (0 : Int32))] [(.ref b206), (.ref b187)])) rfl (by rw [hml]; rfl) (Steps.refl _) (argsL := [(.ref b206)]) (rest := []) (lenOf pd_5 rfl) rfl (by show 2 * 0 + _ ≤ _; exact Nat.le_of_eq rfl) (hb hby at_192) (fun _ _ => ⟨rfl, eh234, (by decide : 10 + 0 ≤ _), (by decide : 24 + 0 ≤ _)⟩)
            dsimp only [Pt.U, Pt.locs, Pt.cells, Pt.slots] at X240 l240 y240 z240 st240 hQ240
            rw [l240, y240, z240] at X240
            obtain ⟨N240, eh240, hR240⟩ := hQ240
            have NA240 := Fr.app NA234 N240
            rcases hR240 with ⟨rfl, u240, uu240⟩ | ⟨rfl, u240⟩
            · exact absurd uu240 (Ne.symm u234)
            · refine GoesW.back st240 ?_
              show GoesW _ _ _ _ _ _ _ (T240.setTop (mkF m 195 _ [(.int (0 : Int32))]))
              refine GoesW.step (fun _ k => XS.iload X240.here hx rfl (hb hby at_195) rfl  k) ?_
              refine GoesW.step (fun _ k => XS.icmpYes X240.here hx rfl (pc0 := 197) (pc' := 202) rfl (hb hby at_197) rfl (teq (by decide : (0 : Int32) = (0 : Int32))).1 (by decide) (by decide) k) ?_
              show GoesW _ _ _ _ _ _ _ (T240.setTop (mkF m 202 _ []))
              refine GoesW.step (fun _ k => XS.iload X240.here hx rfl (hb hby at_202) rfl  k) ?_
              refine GoesW.step (fun _ k => XS.ifNo X240.here hx rfl (hb hby at_204) rfl ((if0 _ _).trans (teq c118_232).2) k) ?_
              show GoesW _ _ _ _ _ _ _ (T240.setTop (mkF m 207 _ []))
              refine GoesW.step (fun _ k => XS.aload X240.here hx rfl (hb hby at_207) rfl rfl k) ?_
              refine GoesW.step (fun _ k => XS.aload X240.here hx rfl (hb hby at_209) rfl rfl k) ?_
              obtain ⟨cq241, kq241, q241a, q241b, q241c⟩ := isOf hZ eh240 v219_0_2
              obtain ⟨_, _, ⟨T241, L241, k241, n241⟩, -, X241, ⟨Lc241, hQ241, l241, y241, z241⟩, st241⟩ := X240.virtualBack hx (y := (⟨"com/example/topicd/topicd/message/TopicQueue", "equals", "(Ljava/lang/Object;)Z"⟩ : MethodName)) (z := (⟨"com/example/topicd/topicd/message/TopicQueue", "equals", "(Ljava/lang/Object;)Z"⟩ : MethodName)) hown (mvT hZ w_37) (mvT hZ w_38) (notFace_of_selects (args := #[]) (mvT hZ w_40)) (mvT hZ w_40) (mvT hZ w_39) (by decide) (backOf (W := 0) (rm6_b l Z a0 hw [] b206 b187 r181 r178 p3 p2 cs181 cs178 zC T219.heap n0 Z231 v219_0_0 v219_0_1 f226 f227 f225 f223 f221 S_CS P5 XO220) hZ w_41 w_28 (by decide) (by decide)) q241a q241c (g := (mkF m 211 #[.val (.int p0), .val (.int p1), .val (.int p2), .val (.int p3), .val (.int p4), .val (.int (((p0.toUInt32 >>> ((24 : Int32) &&& 31).toUInt32).toInt32) &&& (3 : Int32))), .val (.int (1 : Int32)), .val (.int p0), .val (.int (((p0.toUInt32 >>> ((24 : Int32) &&& 31).toUInt32).toInt32) &&& (3 : Int32))), .val (.int p3), .val (.int (((p4.toUInt32 >>> ((3 : Int32) &&& 31).toUInt32).toInt32) &&& (3 : Int32))), .val (.ref r178), .val (.ref r181), .val (.ref b187), .val (.ref b206), .val (.ref b206), .val (.int (0 : Int32))] [(.ref b187), (.ref b206)])) rfl (by rw [hml]; rfl) (Steps.refl _) (argsL := [(.ref b187)]) (rest := []) (lenOf pd_5 rfl) rfl (by show 2 * 0 + _ ≤ _; exact Nat.le_of_eq rfl) (hb hby at_211) (fun _ _ => ⟨rfl, eh240, (by decide : 10 + 0 ≤ _), (by decide : 24 + 0 ≤ _)⟩)
              dsimp only [Pt.U, Pt.locs, Pt.cells, Pt.slots] at X241 l241 y241 z241 st241 hQ241
              rw [l241, y241, z241] at X241
              obtain ⟨N241, eh241, hR241⟩ := hQ241
              have NA241 := Fr.app NA240 N241
              rcases hR241 with ⟨rfl, u241, uu241⟩ | ⟨rfl, u241⟩
              · exact absurd uu241 u234
              · refine GoesW.back st241 ?_
                show GoesW _ _ _ _ _ _ _ (T241.setTop (mkF m 214 _ [(.int (0 : Int32))]))
                refine GoesW.step (fun _ k => XS.iload X241.here hx rfl (hb hby at_214) rfl  k) ?_
                refine GoesW.step (fun _ k => XS.icmpYes X241.here hx rfl (pc0 := 216) (pc' := 221) rfl (hb hby at_216) rfl (teq (by decide : (0 : Int32) = (0 : Int32))).1 (by decide) (by decide) k) ?_
                show GoesW _ _ _ _ _ _ _ (T241.setTop (mkF m 221 #[.val (.int p0), .val (.int p1), .val (.int p2), .val (.int p3), .val (.int p4), .val (.int (((p0.toUInt32 >>> ((24 : Int32) &&& 31).toUInt32).toInt32) &&& (3 : Int32))), .val (.int (1 : Int32)), .val (.int p0), .val (.int (((p0.toUInt32 >>> ((24 : Int32) &&& 31).toUInt32).toInt32) &&& (3 : Int32))), .val (.int p3), .val (.int (((p4.toUInt32 >>> ((3 : Int32) &&& 31).toUInt32).toInt32) &&& (3 : Int32))), .val (.ref r178), .val (.ref r181), .val (.ref b187), .val (.ref b206), .val (.ref b206), .val (.int (0 : Int32))] []))
                refine GoesW.step (fun _ k => XS.aload X241.here hx rfl (hb hby at_221) rfl rfl k) ?_
                refine GoesW.step (fun _ k => XS.aload X241.here hx rfl (hb hby at_223) rfl rfl k) ?_
                obtain ⟨cq242, kq242, q242a, q242b, q242c⟩ := isOf hZ eh241 f225
                obtain ⟨_, _, ⟨T242, L242, k242, n242⟩, -, X242, ⟨Lc242, hQ242, l242, y242, z242⟩, st242⟩ := X241.virtualBack hx (y := (⟨"com/example/topicd/topicd/message/TopicQueue", "equals", "(Ljava/lang/Object;)Z"⟩ : MethodName)) (z := (⟨"com/example/topicd/topicd/message/TopicQueue", "equals", "(Ljava/lang/Object;)Z"⟩ : MethodName)) hown (mvT hZ w_37) (mvT hZ w_38) (notFace_of_selects (args := #[]) (mvT hZ w_40)) (mvT hZ w_40) (mvT hZ w_39) (by decide) (backOf (W := 0) (rm6_b l Z a0 hw [] b187 b187 r178 r178 p2 p2 cs178 cs178 zC T219.heap n0 Z231 f226 f227 f226 f227 f225 f221 f221 S_CS P5 XO220) hZ w_41 w_28 (by decide) (by decide)) q242a q242c (g := (mkF m 225 #[.val (.int p0), .val (.int p1), .val (.int p2), .val (.int p3), .val (.int p4), .val (.int (((p0.toUInt32 >>> ((24 : Int32) &&& 31).toUInt32).toInt32) &&& (3 : Int32))), .val (.int (1 : Int32)), .val (.int p0), .val (.int (((p0.toUInt32 >>> ((24 : Int32) &&& 31).toUInt32).toInt32) &&& (3 : Int32))), .val (.int p3), .val (.int (((p4.toUInt32 >>> ((3 : Int32) &&& 31).toUInt32).toInt32) &&& (3 : Int32))), .val (.ref r178), .val (.ref r181), .val (.ref b187), .val (.ref b206), .val (.ref b206), .val (.int (0 : Int32))] [(.ref b187), (.ref b187)])) rfl (by rw [hml]; rfl) (Steps.refl _) (argsL := [(.ref b187)]) (rest := []) (lenOf pd_5 rfl) rfl (by show 2 * 0 + _ ≤ _; exact Nat.le_of_eq rfl) (hb hby at_225) (fun _ _ => ⟨rfl, eh241, (by decide : 10 + 0 ≤ _), (by decide : 24 + 0 ≤ _)⟩)
                dsimp only [Pt.U, Pt.locs, Pt.cells, Pt.slots] at X242 l242 y242 z242 st242 hQ242
                rw [l242, y242, z242] at X242
                obtain ⟨N242, eh242, hR242⟩ := hQ242
                have NA242 := Fr.app NA241 N242
                rcases hR242 with ⟨rfl, u242, uu242⟩ | ⟨rfl, u242⟩
                · refine GoesW.back st242 ?_
                  show GoesW _ _ _ _ _ _ _ (T242.setTop (mkF m 228 _ [(.int (1 : Int32))]))
                  exact GoesW.ret1 X242 hS181 (by rw [eh242]; exact ZS231) hx (BodyLoose.notSynchronized Bd) Bd.returns rfl (Or.inl ⟨rfl, by simp, _, rfl⟩) (hb hby at_228) (by show Q0 Z p0 p1 p2 p3 p4 zC ca cc h0 n0 (some (.int (1 : Int32))) T242.vm T242.heap _; rw [eh242]; exact ⟨rfl, NA242⟩) (by decide) (by decide)
                · exact absurd ⟨(rfl : p2 = p2), (rfl : cs178 = cs178)⟩ u242
        · refine GoesW.step (fun _ k => XS.icmpYes X219.here hx rfl (pc0 := 168) (pc' := 185) rfl (hb hby at_168) rfl (feq c168_233).2 (by decide) (by decide) k) ?_
          show GoesW _ _ _ _ _ _ _ (T219.setTop (mkF m 185 _ []))
          refine GoesW.step (fun _ k => XS.iconst X219.here hx rfl (hb hby at_185) k) ?_
          refine GoesW.step (fun _ k => XS.istore X219.here hx rfl (hb hby at_186) rfl (l' := #[.val (.int p0), .val (.int p1), .val (.int p2), .val (.int p3), .val (.int p4), .val (.int (((p0.toUInt32 >>> ((24 : Int32) &&& 31).toUInt32).toInt32) &&& (3 : Int32))), .val (.int (1 : Int32)), .val (.int p0), .val (.int (((p0.toUInt32 >>> ((24 : Int32) &&& 31).toUInt32).toInt32) &&& (3 : Int32))), .val (.int p3), .val (.int (((p4.toUInt32 >>> ((3 : Int32) &&& 31).toUInt32).toInt32) &&& (3 : Int32))), .val (.ref r178), .val (.ref r181), .val (.ref b187), .val (.ref b206), .val (.ref b206), .val (.int (0 : Int32))]) rfl k) ?_
          show GoesW _ _ _ _ _ _ _ (T219.setTop (mkF m 188 #[.val (.int p0), .val (.int p1), .val (.int p2), .val (.int p3), .val (.int p4), .val (.int (((p0.toUInt32 >>> ((24 : Int32) &&& 31).toUInt32).toInt32) &&& (3 : Int32))), .val (.int (1 : Int32)), .val (.int p0), .val (.int (((p0.toUInt32 >>> ((24 : Int32) &&& 31).toUInt32).toInt32) &&& (3 : Int32))), .val (.int p3), .val (.int (((p4.toUInt32 >>> ((3 : Int32) &&& 31).toUInt32).toInt32) &&& (3 : Int32))), .val (.ref r178), .val (.ref r181), .val (.ref b187), .val (.ref b206), .val (.ref b206), .val (.int (0 : Int32))] []))
          refine GoesW.step (fun _ k => XS.aload X219.here hx rfl (hb hby at_188) rfl rfl k) ?_
          refine GoesW.step (fun _ k => XS.aload X219.here hx rfl (hb hby at_190) rfl rfl k) ?_
          obtain ⟨cq243, kq243, q243a, q243b, q243c⟩ := isOf hZ rfl f225
          obtain ⟨_, _, ⟨T243, L243, k243, n243⟩, -, X243, ⟨Lc243, hQ243, l243, y243, z243⟩, st243⟩ := X219.virtualBack hx (y := (⟨"com/example/topicd/topicd/message/TopicQueue", "equals", "(Ljava/lang/Object;)Z"⟩ : MethodName)) (z := (⟨"com/example/topicd/topicd/message/TopicQueue", "equals", "(Ljava/lang/Object;)Z"⟩ : MethodName)) hown (mvT hZ w_37) (mvT hZ w_38) (notFace_of_selects (args := #[]) (mvT hZ w_40)) (mvT hZ w_40) (mvT hZ w_39) (by decide) (backOf (W := 0) (rm6_b l Z a0 hw [] b187 b206 r178 r181 p2 p3 cs178 cs181 zC T219.heap n0 Z231 f226 f227 v219_0_0 v219_0_1 v219_0_2 f221 f223 S_CS P5 XO220) hZ w_41 w_28 (by decide) (by decide)) q243a q243c (g := (mkF m 192 #[.val (.int p0), .val (.int p1), .val (.int p2), .val (.int p3), .val (.int p4), .val (.int (((p0.toUInt32 >>> ((24 : Int32) &&& 31).toUInt32).toInt32) &&& (3 : Int32))), .val (.int (1 : Int32)), .val (.int p0), .val (.int (((p0.toUInt32 >>> ((24 : Int32) &&& 31).toUInt32).toInt32) &&& (3 : Int32))), .val (.int p3), .val (.int (((p4.toUInt32 >>> ((3 : Int32) &&& 31).toUInt32).toInt32) &&& (3 : Int32))), .val (.ref r178), .val (.ref r181), .val (.ref b187), .val (.ref b206), .val (.ref b206), .val (.int (0 : Int32))] [(.ref b206), (.ref b187)])) rfl (by rw [hml]; rfl) (Steps.refl _) (argsL := [(.ref b206)]) (rest := []) (lenOf pd_5 rfl) rfl (by show 2 * 0 + _ ≤ _; exact Nat.le_of_eq rfl) (hb hby at_192) (fun _ _ => ⟨rfl, rfl, (by decide : 10 + 0 ≤ _), (by decide : 24 + 0 ≤ _)⟩)
          dsimp only [Pt.U, Pt.locs, Pt.cells, Pt.slots] at X243 l243 y243 z243 st243 hQ243
          rw [l243, y243, z243] at X243
          obtain ⟨N243, eh243, hR243⟩ := hQ243
          have NA243 := Fr.app NA219 N243
          rcases hR243 with ⟨rfl, u243, uu243⟩ | ⟨rfl, u243⟩
          · exact absurd u243 (Ne.symm c168_233)
          · refine GoesW.back st243 ?_
            show GoesW _ _ _ _ _ _ _ (T243.setTop (mkF m 195 _ [(.int (0 : Int32))]))
            refine GoesW.step (fun _ k => XS.iload X243.here hx rfl (hb hby at_195) rfl  k) ?_
            refine GoesW.step (fun _ k => XS.icmpYes X243.here hx rfl (pc0 := 197) (pc' := 202) rfl (hb hby at_197) rfl (teq (by decide : (0 : Int32) = (0 : Int32))).1 (by decide) (by decide) k) ?_
            show GoesW _ _ _ _ _ _ _ (T243.setTop (mkF m 202 _ []))
            refine GoesW.step (fun _ k => XS.iload X243.here hx rfl (hb hby at_202) rfl  k) ?_
            refine GoesW.step (fun _ k => XS.ifNo X243.here hx rfl (hb hby at_204) rfl ((if0 _ _).trans (teq c118_232).2) k) ?_
            show GoesW _ _ _ _ _ _ _ (T243.setTop (mkF m 207 _ []))
            refine GoesW.step (fun _ k => XS.aload X243.here hx rfl (hb hby at_207) rfl rfl k) ?_
            refine GoesW.step (fun _ k => XS.aload X243.here hx rfl (hb hby at_209) rfl rfl k) ?_
            obtain ⟨cq244, kq244, q244a, q244b, q244c⟩ := isOf hZ eh243 v219_0_2
            obtain ⟨_, _, ⟨T244, L244, k244, n244⟩, -, X244, ⟨Lc244, hQ244, l244, y244, z244⟩, st244⟩ := X243.virtualBack hx (y := (⟨"com/example/topicd/topicd/message/TopicQueue", "equals", "(Ljava/lang/Object;)Z"⟩ : MethodName)) (z := (⟨"com/example/topicd/topicd/message/TopicQueue", "equals", "(Ljava/lang/Object;)Z"⟩ : MethodName)) hown (mvT hZ w_37) (mvT hZ w_38) (notFace_of_selects (args := #[]) (mvT hZ w_40)) (mvT hZ w_40) (mvT hZ w_39) (by decide) (backOf (W := 0) (rm6_b l Z a0 hw [] b206 b187 r181 r178 p3 p2 cs181 cs178 zC T219.heap n0 Z231 v219_0_0 v219_0_1 f226 f227 f225 f223 f221 S_CS P5 XO220) hZ w_41 w_28 (by decide) (by decide)) q244a q244c (g := (mkF m 211 #[.val (.int p0), .val (.int p1), .val (.int p2), .val (.int p3), .val (.int p4), .val (.int (((p0.toUInt32 >>> ((24 : Int32) &&& 31).toUInt32).toInt32) &&& (3 : Int32))), .val (.int (1 : Int32)), .val (.int p0), .val (.int (((p0.toUInt32 >>> ((24 : Int32) &&& 31).toUInt32).toInt32) &&& (3 : Int32))), .val (.int p3), .val (.int (((p4.toUInt32 >>> ((3 : Int32) &&& 31).toUInt32).toInt32) &&& (3 : Int32))), .val (.ref r178), .val (.ref r181), .val (.ref b187), .val (.ref b206), .val (.ref b206), .val (.int (0 : Int32))] [(.ref b187), (.ref b206)])) rfl (by rw [hml]; rfl) (Steps.refl _) (argsL := [(.ref b187)]) (rest := []) (lenOf pd_5 rfl) rfl (by show 2 * 0 + _ ≤ _; exact Nat.le_of_eq rfl) (hb hby at_211) (fun _ _ => ⟨rfl, eh243, (by decide : 10 + 0 ≤ _), (by decide : 24 + 0 ≤ _)⟩)
            dsimp only [Pt.U, Pt.locs, Pt.cells, Pt.slots] at X244 l244 y244 z244 st244 hQ244
            rw [l244, y244, z244] at X244
            obtain ⟨N244, eh244, hR244⟩ := hQ244
            have NA244 := Fr.app NA243 N244
            rcases hR244 with ⟨rfl, u244, uu244⟩ | ⟨rfl, u244⟩
            · exact absurd u244 c168_233
            · refine GoesW.back st244 ?_
              show GoesW _ _ _ _ _ _ _ (T244.setTop (mkF m 214 _ [(.int (0 : Int32))]))
              refine GoesW.step (fun _ k => XS.iload X244.here hx rfl (hb hby at_214) rfl  k) ?_
              refine GoesW.step (fun _ k => XS.icmpYes X244.here hx rfl (pc0 := 216) (pc' := 221) rfl (hb hby at_216) rfl (teq (by decide : (0 : Int32) = (0 : Int32))).1 (by decide) (by decide) k) ?_
              show GoesW _ _ _ _ _ _ _ (T244.setTop (mkF m 221 _ []))
              refine GoesW.step (fun _ k => XS.aload X244.here hx rfl (hb hby at_221) rfl rfl k) ?_
              refine GoesW.step (fun _ k => XS.aload X244.here hx rfl (hb hby at_223) rfl rfl k) ?_
              obtain ⟨cq245, kq245, q245a, q245b, q245c⟩ := isOf hZ eh244 f225
              obtain ⟨_, _, ⟨T245, L245, k245, n245⟩, -, X245, ⟨Lc245, hQ245, l245, y245, z245⟩, st245⟩ := X244.virtualBack hx (y := (⟨"com/example/topicd/topicd/message/TopicQueue", "equals", "(Ljava/lang/Object;)Z"⟩ : MethodName)) (z := (⟨"com/example/topicd/topicd/message/TopicQueue", "equals", "(Ljava/lang/Object;)Z"⟩ : MethodName)) hown (mvT hZ w_37) (mvT hZ w_38) (notFace_of_selects (args := #[]) (mvT hZ w_40)) (mvT hZ w_40) (mvT hZ w_39) (by decide) (backOf (W := 0) (rm6_b l Z a0 hw [] b187 b187 r178 r178 p2 p2 cs178 cs178 zC T219.heap n0 Z231 f226 f227 f226 f227 f225 f221 f221 S_CS P5 XO220) hZ w_41 w_28 (by decide) (by decide)) q245a q245c (g := (mkF m 225 #[.val (.int p0), .val (.int p1), .val (.int p2), .val (.int p3), .val (.int p4), .val (.int (((p0.toUInt32 >>> ((24 : Int32) &&& 31).toUInt32).toInt32) &&& (3 : Int32))), .val (.int (1 : Int32)), .val (.int p0), .val (.int (((p0.toUInt32 >>> ((24 : Int32) &&& 31).toUInt32).toInt32) &&& (3 : Int32))), .val (.int p3), .val (.int (((p4.toUInt32 >>> ((3 : Int32) &&& 31).toUInt32).toInt32) &&& (3 : Int32))), .val (.ref r178), .val (.ref r181), .val (.ref b187), .val (.ref b206), .val (.ref b206), .val (.int (0 : Int32))] [(.ref b187), (.ref b187)])) rfl (by rw [hml]; rfl) (Steps.refl _) (argsL := [(.ref b187)]) (rest := []) (lenOf pd_5 rfl) rfl (by show 2 * 0 + _ ≤ _; exact Nat.le_of_eq rfl) (hb hby at_225) (fun _ _ => ⟨rfl, eh244, (by decide : 10 + 0 ≤ _), (by decide : 24 + 0 ≤ _)⟩)
              dsimp only [Pt.U, Pt.locs, Pt.cells, Pt.slots] at X245 l245 y245 z245 st245 hQ245
              rw [l245, y245, z245] at X245
              obtain ⟨N245, eh245, hR245⟩ := hQ245
              have NA245 := Fr.app NA244 N245
              rcases hR245 with ⟨rfl, u245, uu245⟩ | ⟨rfl, u245⟩
              · refine GoesW.back st245 ?_
                show GoesW _ _ _ _ _ _ _ (T245.setTop (mkF m 228 _ [(.int (1 : Int32))]))
                exact GoesW.ret1 X245 hS181 (by rw [eh245]; exact ZS231) hx (BodyLoose.notSynchronized Bd) Bd.returns rfl (Or.inl ⟨rfl, by simp, _, rfl⟩) (hb hby at_228) (by show Q0 Z p0 p1 p2 p3 p4 zC ca cc h0 n0 (some (.int (1 : Int32))) T245.vm T245.heap _; rw [eh245]; exact ⟨rfl, NA245⟩) (by decide) (by decide)
              · exact absurd ⟨(rfl : p2 = p2), (rfl : cs178 = cs178)⟩ u245
      · refine GoesW.step (fun _ k => XS.ifYes X219.here hx rfl (pc0 := 118) (pc' := 128) rfl (hb hby at_118) rfl ((if0 _ _).trans (feq c118_232).2) (by decide) (by decide) k) ?_
        show GoesW _ _ _ _ _ _ _ (T219.setTop (mkF m 128 _ []))
        refine GoesW.step (fun _ k => XS.iload X219.here hx rfl (hb hby at_128) rfl  k) ?_
        refine GoesW.step (fun _ k => XS.iconst X219.here hx rfl (hb hby at_130) k) ?_
        by_cases c131_246 : (((p4.toUInt32 >>> ((3 : Int32) &&& 31).toUInt32).toInt32) &&& (3 : Int32)) = (1 : Int32)
        · refine GoesW.step (fun _ k => XS.icmpNo X219.here hx rfl (hb hby at_131) rfl (teq c131_246).2 k) ?_
          show GoesW _ _ _ _ _ _ _ (T219.setTop (mkF m 134 _ []))
          refine GoesW.step (fun _ k => XS.aconstNull X219.here hx rfl (hb hby at_134) k) ?_
          refine GoesW.step (fun _ k => XS.astore X219.here hx rfl (hb hby at_135) rfl rfl (l' := #[.val (.int p0), .val (.int p1), .val (.int p2), .val (.int p3), .val (.int p4), .val (.int (((p0.toUInt32 >>> ((24 : Int32) &&& 31).toUInt32).toInt32) &&& (3 : Int32))), .val (.int (1 : Int32)), .val (.int p0), .val (.int (((p0.toUInt32 >>> ((24 : Int32) &&& 31).toUInt32).toInt32) &&& (3 : Int32))), .val (.int p3), .val (.int (((p4.toUInt32 >>> ((3 : Int32) &&& 31).toUInt32).toInt32) &&& (3 : Int32))), .val (.ref r178), .val (.ref r181), .val (.ref b187), .val (.ref b206), .val .null, .unset]) rfl k) ?_
          show GoesW _ _ _ _ _ _ _ (T219.setTop (mkF m 137 _ []))
          refine GoesW.step (fun _ k => XS.goto X219.here hx rfl (pc0 := 137) (pc' := 160) rfl (hb hby at_137) (by decide) (by decide) k) ?_
          show GoesW _ _ _ _ _ _ _ (T219.setTop (mkF m 160 _ []))
          refine GoesW.step (fun _ k => XS.iload X219.here hx rfl (hb hby at_160) rfl  k) ?_
          refine GoesW.step (fun _ k => XS.ifYes X219.here hx rfl (pc0 := 162) (pc' := 185) rfl (hb hby at_162) rfl ((if0 _ _).trans (feq c118_232).2) (by decide) (by decide) k) ?_
          show GoesW _ _ _ _ _ _ _ (T219.setTop (mkF m 185 _ []))
          refine GoesW.step (fun _ k => XS.iconst X219.here hx rfl (hb hby at_185) k) ?_
          refine GoesW.step (fun _ k => XS.istore X219.here hx rfl (hb hby at_186) rfl (l' := #[.val (.int p0), .val (.int p1), .val (.int p2), .val (.int p3), .val (.int p4), .val (.int (((p0.toUInt32 >>> ((24 : Int32) &&& 31).toUInt32).toInt32) &&& (3 : Int32))), .val (.int (1 : Int32)), .val (.int p0), .val (.int (((p0.toUInt32 >>> ((24 : Int32) &&& 31).toUInt32).toInt32) &&& (3 : Int32))), .val (.int p3), .val (.int (((p4.toUInt32 >>> ((3 : Int32) &&& 31).toUInt32).toInt32) &&& (3 : Int32))), .val (.ref r178), .val (.ref r181), .val (.ref b187), .val (.ref b206), .val .null, .val (.int (0 : Int32))]) rfl k) ?_
          show GoesW _ _ _ _ _ _ _ (T219.setTop (mkF m 188 #[.val (.int p0), .val (.int p1), .val (.int p2), .val (.int p3), .val (.int p4), .val (.int (((p0.toUInt32 >>> ((24 : Int32) &&& 31).toUInt32).toInt32) &&& (3 : Int32))), .val (.int (1 : Int32)), .val (.int p0), .val (.int (((p0.toUInt32 >>> ((24 : Int32) &&& 31).toUInt32).toInt32) &&& (3 : Int32))), .val (.int p3), .val (.int (((p4.toUInt32 >>> ((3 : Int32) &&& 31).toUInt32).toInt32) &&& (3 : Int32))), .val (.ref r178), .val (.ref r181), .val (.ref b187), .val (.ref b206), .val .null, .val (.int (0 : Int32))] []))
          refine GoesW.step (fun _ k => XS.aload X219.here hx rfl (hb hby at_188) rfl rfl k) ?_
          refine GoesW.step (fun _ k => XS.aload X219.here hx rfl (hb hby at_190) rfl rfl k) ?_
          obtain ⟨cq247, kq247, q247a, q247b, q247c⟩ := isOf hZ rfl f225
          obtain ⟨_, _, ⟨T247, L247, k247, n247⟩, -, X247, ⟨Lc247, hQ247, l247, y247, z247⟩, st247⟩ := X219.virtualBack hx (y := (⟨"com/example/topicd/topicd/message/TopicQueue", "equals", "(Ljava/lang/Object;)Z"⟩ : MethodName)) (z := (⟨"com/example/topicd/topicd/message/TopicQueue", "equals", "(Ljava/lang/Object;)Z"⟩ : MethodName)) hown (mvT hZ w_37) (mvT hZ w_38) (notFace_of_selects (args := #[]) (mvT hZ w_40)) (mvT hZ w_40) (mvT hZ w_39) (by decide) (backOf (W := 0) (rm6_n l Z a0 hw [] b187 T219.heap n0 Z231 ) hZ w_41 w_28 (by decide) (by decide)) q247a q247c (g := (mkF m 192 #[.val (.int p0), .val (.int p1), .val (.int p2), .val (.int p3), .val (.int p4), .val (.int (((p0.toUInt32 >>> ((24 : Int32) &&& 31).toUInt32).toInt32) &&& (3 : Int32))), .val (.int (1 : Int32)), .val (.int p0), .val (.int (((p0.toUInt32 >>> ((24 : Int32) &&& 31).toUInt32).toInt32) &&& (3 : Int32))), .val (.int p3), .val (.int (((p4.toUInt32 >>> ((3 : Int32) &&& 31).toUInt32).toInt32) &&& (3 : Int32))), .val (.ref r178), .val (.ref r181), .val (.ref b187), .val (.ref b206), .val .null, .val (.int (0 : Int32))] [.null, (.ref b187)])) rfl (by rw [hml]; rfl) (Steps.refl _) (argsL := [.null]) (rest := []) (lenOf pd_5 rfl) rfl (by show 2 * 0 + _ ≤ _; exact Nat.le_of_eq rfl) (hb hby at_192) (fun _ _ => ⟨rfl, rfl, (by decide : 10 + 0 ≤ _), (by decide : 24 + 0 ≤ _)⟩)
          dsimp only [Pt.U, Pt.locs, Pt.cells, Pt.slots] at X247 l247 y247 z247 st247 hQ247
          rw [l247, y247, z247] at X247
          obtain ⟨N247, eh247, hR247⟩ := hQ247
          have NA247 := Fr.app NA219 N247
          obtain rfl := hR247
          refine GoesW.back st247 ?_
          show GoesW _ _ _ _ _ _ _ (T247.setTop (mkF m 195 _ [(.int (0 : Int32))]))
          refine GoesW.step (fun _ k => XS.iload X247.here hx rfl (hb hby at_195) rfl  k) ?_
          refine GoesW.step (fun _ k => XS.icmpYes X247.here hx rfl (pc0 := 197) (pc' := 202) rfl (hb hby at_197) rfl (teq (by decide : (0 : Int32) = (0 : Int32))).1 (by decide) (by decide) k) ?_
          show GoesW _ _ _ _ _ _ _ (T247.setTop (mkF m 202 _ []))
          refine GoesW.step (fun _ k => XS.iload X247.here hx rfl (hb hby at_202) rfl  k) ?_
          refine GoesW.step (fun _ k => XS.ifYes X247.here hx rfl (pc0 := 204) (pc' := 221) rfl (hb hby at_204) rfl ((if0 _ _).trans (feq c118_232).2) (by decide) (by decide) k) ?_
          show GoesW _ _ _ _ _ _ _ (T247.setTop (mkF m 221 _ []))
          refine GoesW.step (fun _ k => XS.aload X247.here hx rfl (hb hby at_221) rfl rfl k) ?_
          refine GoesW.step (fun _ k => XS.aload X247.here hx rfl (hb hby at_223) rfl rfl k) ?_
          obtain ⟨cq248, kq248, q248a, q248b, q248c⟩ := isOf hZ eh247 f225
          obtain ⟨_, _, ⟨T248, L248, k248, n248⟩, -, X248, ⟨Lc248, hQ248, l248, y248, z248⟩, st248⟩ := X247.virtualBack hx (y := (⟨"com/example/topicd/topicd/message/TopicQueue", "equals", "(Ljava/lang/Object;)Z"⟩ : MethodName)) (z := (⟨"com/example/topicd/topicd/message/TopicQueue", "equals", "(Ljava/lang/Object;)Z"⟩ : MethodName)) hown (mvT hZ w_37) (mvT hZ w_38) (notFace_of_selects (args := #[]) (mvT hZ w_40)) (mvT hZ w_40) (mvT hZ w_39) (by decide) (backOf (W := 0) (rm6_b l Z a0 hw [] b187 b187 r178 r178 p2 p2 cs178 cs178 zC T219.heap n0 Z231 f226 f227 f226 f227 f225 f221 f221 S_CS P5 XO220) hZ w_41 w_28 (by decide) (by decide)) q248a q248c (g := (mkF m 225 #[.val (.int p0), .val (.int p1), .val (.int p2), .val (.int p3), .val (.int p4), .val (.int (((p0.toUInt32 >>> ((24 : Int32) &&& 31).toUInt32).toInt32) &&& (3 : Int32))), .val (.int (1 : Int32)), .val (.int p0), .val (.int (((p0.toUInt32 >>> ((24 : Int32) &&& 31).toUInt32).toInt32) &&& (3 : Int32))), .val (.int p3), .val (.int (((p4.toUInt32 >>> ((3 : Int32) &&& 31).toUInt32).toInt32) &&& (3 : Int32))), .val (.ref r178), .val (.ref r181), .val (.ref b187), .val (.ref b206), .val .null, .val (.int (0 : Int32))] [(.ref b187), (.ref b187)])) rfl (by rw [hml]; rfl) (Steps.refl _) (argsL := [(.ref b187)]) (rest := []) (lenOf pd_5 rfl) rfl (by show 2 * 0 + _ ≤ _; exact Nat.le_of_eq rfl) (hb hby at_225) (fun _ _ => ⟨rfl, eh247, (by decide : 10 + 0 ≤ _), (by decide : 24 + 0 ≤ _)⟩)
          dsimp only [Pt.U, Pt.locs, Pt.cells, Pt.slots] at X248 l248 y248 z248 st248 hQ248
          rw [l248, y248, z248] at X248
          obtain ⟨N248, eh248, hR248⟩ := hQ248
          have NA248 := Fr.app NA247 N248
          rcases hR248 with ⟨rfl, u248, uu248⟩ | ⟨rfl, u248⟩
          · refine GoesW.back st248 ?_
            show GoesW _ _ _ _ _ _ _ (T248.setTop (mkF m 228 _ [(.int (1 : Int32))]))
            exact GoesW.ret1 X248 hS181 (by rw [eh248]; exact ZS231) hx (BodyLoose.notSynchronized Bd) Bd.returns rfl (Or.inl ⟨rfl, by simp, _, rfl⟩) (hb hby at_228) (by show Q0 Z p0 p1 p2 p3 p4 zC ca cc h0 n0 (some (.int (1 : Int32))) T248.vm T248.heap _; rw [eh248]; exact ⟨rfl, NA248⟩) (by decide) (by decide)
          · exact absurd ⟨(rfl : p2 = p2), (rfl : cs178 = cs178)⟩ u248
        · refine GoesW.step (fun _ k => XS.icmpYes X219.here hx rfl (pc0 := 131) (pc' := 140) rfl (hb hby at_131) rfl (feq c131_246).2 (by decide) (by decide) k) ?_
          show GoesW _ _ _ _ _ _ _ (T219.setTop (mkF m 140 _ []))
          refine GoesW.step (fun _ k => XS.iload X219.here hx rfl (hb hby at_140) rfl  k) ?_
          refine GoesW.step (fun _ k => XS.iconst X219.here hx rfl (hb hby at_142) k) ?_
          by_cases c143_249 : (((p4.toUInt32 >>> ((3 : Int32) &&& 31).toUInt32).toInt32) &&& (3 : Int32)) = (2 : Int32)
          · refine GoesW.step (fun _ k => XS.icmpNo X219.here hx rfl (hb hby at_143) rfl (teq c143_249).2 k) ?_
            show GoesW _ _ _ _ _ _ _ (T219.setTop (mkF m 146 _ []))
            refine GoesW.step (fun _ k => XS.aload X219.here hx rfl (hb hby at_146) rfl rfl k) ?_
            refine GoesW.step (fun _ k => XS.astore X219.here hx rfl (hb hby at_148) rfl rfl (l' := #[.val (.int p0), .val (.int p1), .val (.int p2), .val (.int p3), .val (.int p4), .val (.int (((p0.toUInt32 >>> ((24 : Int32) &&& 31).toUInt32).toInt32) &&& (3 : Int32))), .val (.int (1 : Int32)), .val (.int p0), .val (.int (((p0.toUInt32 >>> ((24 : Int32) &&& 31).toUInt32).toInt32) &&& (3 : Int32))), .val (.int p3), .val (.int (((p4.toUInt32 >>> ((3 : Int32) &&& 31).toUInt32).toInt32) &&& (3 : Int32))), .val (.ref r178), .val (.ref r181), .val (.ref b187), .val (.ref b206), .val (.ref r181), .unset]) rfl k) ?_
            show GoesW _ _ _ _ _ _ _ (T219.setTop (mkF m 150 _ []))
            refine GoesW.step (fun _ k => XS.goto X219.here hx rfl (pc0 := 150) (pc' := 160) rfl (hb hby at_150) (by decide) (by decide) k) ?_
            show GoesW _ _ _ _ _ _ _ (T219.setTop (mkF m 160 _ []))
            refine GoesW.step (fun _ k => XS.iload X219.here hx rfl (hb hby at_160) rfl  k) ?_
            refine GoesW.step (fun _ k => XS.ifYes X219.here hx rfl (pc0 := 162) (pc' := 185) rfl (hb hby at_162) rfl ((if0 _ _).trans (feq c118_232).2) (by decide) (by decide) k) ?_
            show GoesW _ _ _ _ _ _ _ (T219.setTop (mkF m 185 #[.val (.int p0), .val (.int p1), .val (.int p2), .val (.int p3), .val (.int p4), .val (.int (((p0.toUInt32 >>> ((24 : Int32) &&& 31).toUInt32).toInt32) &&& (3 : Int32))), .val (.int (1 : Int32)), .val (.int p0), .val (.int (((p0.toUInt32 >>> ((24 : Int32) &&& 31).toUInt32).toInt32) &&& (3 : Int32))), .val (.int p3), .val (.int (((p4.toUInt32 >>> ((3 : Int32) &&& 31).toUInt32).toInt32) &&& (3 : Int32))), .val (.ref r178), .val (.ref r181), .val (.ref b187), .val (.ref b206), .val (.ref r181), .unset] []))
            refine GoesW.step (fun _ k => XS.iconst X219.here hx rfl (hb hby at_185) k) ?_
            refine GoesW.step (fun _ k => XS.istore X219.here hx rfl (hb hby at_186) rfl (l' := #[.val (.int p0), .val (.int p1), .val (.int p2), .val (.int p3), .val (.int p4), .val (.int (((p0.toUInt32 >>> ((24 : Int32) &&& 31).toUInt32).toInt32) &&& (3 : Int32))), .val (.int (1 : Int32)), .val (.int p0), .val (.int (((p0.toUInt32 >>> ((24 : Int32) &&& 31).toUInt32).toInt32) &&& (3 : Int32))), .val (.int p3), .val (.int (((p4.toUInt32 >>> ((3 : Int32) &&& 31).toUInt32).toInt32) &&& (3 : Int32))), .val (.ref r178), .val (.ref r181), .val (.ref b187), .val (.ref b206), .val (.ref r181), .val (.int (0 : Int32))]) rfl k) ?_
            show GoesW _ _ _ _ _ _ _ (T219.setTop (mkF m 188 _ []))
            refine GoesW.step (fun _ k => XS.aload X219.here hx rfl (hb hby at_188) rfl rfl k) ?_
            refine GoesW.step (fun _ k => XS.aload X219.here hx rfl (hb hby at_190) rfl rfl k) ?_
            obtain ⟨cq250, kq250, q250a, q250b, q250c⟩ := isOf hZ rfl f225
            obtain ⟨_, _, ⟨T250, L250, k250, n250⟩, -, X250, ⟨Lc250, hQ250, l250, y250, z250⟩, st250⟩ := X219.virtualBack hx (y := (⟨"com/example/topicd/topicd/message/TopicQueue", "equals", "(Ljava/lang/Object;)Z"⟩ : MethodName)) (z := (⟨"com/example/topicd/topicd/message/TopicQueue", "equals", "(Ljava/lang/Object;)Z"⟩ : MethodName)) hown (mvT hZ w_37) (mvT hZ w_38) (notFace_of_selects (args := #[]) (mvT hZ w_40)) (mvT hZ w_40) (mvT hZ w_39) (by decide) (backOf (W := 0) (rm6_s l Z a0 hw [] b187 r181 T219.heap n0 Z231 f224) hZ w_41 w_28 (by decide) (by decide)) q250a q250c (g := (mkF m 192 #[.val (.int p0), .val (.int p1), .val (.int p2), .val (.int p3), .val (.int p4), .val (.int (((p0.toUInt32 >>> ((24 : Int32) &&& 31).toUInt32).toInt32) &&& (3 : Int32))), .val (.int (1 : Int32)), .val (.int p0), .val (.int (((p0.toUInt32 >>> ((24 : Int32) &&& 31).toUInt32).toInt32) &&& (3 : Int32))), .val (.int p3), .val (.int (((p4.toUInt32 >>> ((3 : Int32) &&& 31).toUInt32).toInt32) &&& (3 : Int32))), .val (.ref r178), .val (.ref r181), .val (.ref b187), .val (.ref b206), .val (.ref r181), .val (.int (0 : Int32))] [(.ref r181), (.ref b187)])) rfl (by rw [hml]; rfl) (Steps.refl _) (argsL := [(.ref r181)]) (rest := []) (lenOf pd_5 rfl) rfl (by show 2 * 0 + _ ≤ _; exact Nat.le_of_eq rfl) (hb hby at_192) (fun _ _ => ⟨rfl, rfl, (by decide : 10 + 0 ≤ _), (by decide : 24 + 0 ≤ _)⟩)
            dsimp only [Pt.U, Pt.locs, Pt.cells, Pt.slots] at X250 l250 y250 z250 st250 hQ250
            rw [l250, y250, z250] at X250
            obtain ⟨N250, eh250, hR250⟩ := hQ250
            have NA250 := Fr.app NA219 N250
            obtain rfl := hR250
            refine GoesW.back st250 ?_
            show GoesW _ _ _ _ _ _ _ (T250.setTop (mkF m 195 _ [(.int (0 : Int32))]))
            refine GoesW.step (fun _ k => XS.iload X250.here hx rfl (hb hby at_195) rfl  k) ?_
            refine GoesW.step (fun _ k => XS.icmpYes X250.here hx rfl (pc0 := 197) (pc' := 202) rfl (hb hby at_197) rfl (teq (by decide : (0 : Int32) = (0 : Int32))).1 (by decide) (by decide) k) ?_
            show GoesW _ _ _ _ _ _ _ (T250.setTop (mkF m 202 _ []))
            refine GoesW.step (fun _ k => XS.iload X250.here hx rfl (hb hby at_202) rfl  k) ?_
            refine GoesW.step (fun _ k => XS.ifYes X250.here hx rfl (pc0 := 204) (pc' := 221) rfl (hb hby at_204) rfl ((if0 _ _).trans (feq c118_232).2) (by decide) (by decide) k) ?_
            show GoesW _ _ _ _ _ _ _ (T250.setTop (mkF m 221 _ []))
            refine GoesW.step (fun _ k => XS.aload X250.here hx rfl (hb hby at_221) rfl rfl k) ?_
            refine GoesW.step (fun _ k => XS.aload X250.here hx rfl (hb hby at_223) rfl rfl k) ?_
            obtain ⟨cq251, kq251, q251a, q251b, q251c⟩ := isOf hZ eh250 f225
            obtain ⟨_, _, ⟨T251, L251, k251, n251⟩, -, X251, ⟨Lc251, hQ251, l251, y251, z251⟩, st251⟩ := X250.virtualBack hx (y := (⟨"com/example/topicd/topicd/message/TopicQueue", "equals", "(Ljava/lang/Object;)Z"⟩ : MethodName)) (z := (⟨"com/example/topicd/topicd/message/TopicQueue", "equals", "(Ljava/lang/Object;)Z"⟩ : MethodName)) hown (mvT hZ w_37) (mvT hZ w_38) (notFace_of_selects (args := #[]) (mvT hZ w_40)) (mvT hZ w_40) (mvT hZ w_39) (by decide) (backOf (W := 0) (rm6_b l Z a0 hw [] b187 b187 r178 r178 p2 p2 cs178 cs178 zC T219.heap n0 Z231 f226 f227 f226 f227 f225 f221 f221 S_CS P5 XO220) hZ w_41 w_28 (by decide) (by decide)) q251a q251c (g := (mkF m 225 #[.val (.int p0), .val (.int p1), .val (.int p2), .val (.int p3), .val (.int p4), .val (.int (((p0.toUInt32 >>> ((24 : Int32) &&& 31).toUInt32).toInt32) &&& (3 : Int32))), .val (.int (1 : Int32)), .val (.int p0), .val (.int (((p0.toUInt32 >>> ((24 : Int32) &&& 31).toUInt32).toInt32) &&& (3 : Int32))), .val (.int p3), .val (.int (((p4.toUInt32 >>> ((3 : Int32) &&& 31).toUInt32).toInt32) &&& (3 : Int32))), .val (.ref r178), .val (.ref r181), .val (.ref b187), .val (.ref b206), .val (.ref r181), .val (.int (0 : Int32))] [(.ref b187), (.ref b187)])) rfl (by rw [hml]; rfl) (Steps.refl _) (argsL := [(.ref b187)]) (rest := []) (lenOf pd_5 rfl) rfl (by show 2 * 0 + _ ≤ _; exact Nat.le_of_eq rfl) (hb hby at_225) (fun _ _ => ⟨rfl, eh250, (by decide : 10 + 0 ≤ _), (by decide : 24 + 0 ≤ _)⟩)
            dsimp only [Pt.U, Pt.locs, Pt.cells, Pt.slots] at X251 l251 y251 z251 st251 hQ251
            rw [l251, y251, z251] at X251
            obtain ⟨N251, eh251, hR251⟩ := hQ251
            have NA251 := Fr.app NA250 N251
            rcases hR251 with ⟨rfl, u251, uu251⟩ | ⟨rfl, u251⟩
            · refine GoesW.back st251 ?_
              show GoesW _ _ _ _ _ _ _ (T251.setTop (mkF m 228 _ [(.int (1 : Int32))]))
              exact GoesW.ret1 X251 hS181 (by rw [eh251]; exact ZS231) hx (BodyLoose.notSynchronized Bd) Bd.returns rfl (Or.inl ⟨rfl, by simp, _, rfl⟩) (hb hby at_228) (by show Q0 Z p0 p1 p2 p3 p4 zC ca cc h0 n0 (some (.int (1 : Int32))) T251.vm T251.heap _; rw [eh251]; exact ⟨rfl, NA251⟩) (by decide) (by decide)
            · exact absurd ⟨(rfl : p2 = p2), (rfl : cs178 = cs178)⟩ u251
          · refine GoesW.step (fun _ k => XS.icmpYes X219.here hx rfl (pc0 := 143) (pc' := 153) rfl (hb hby at_143) rfl (feq c143_249).2 (by decide) (by decide) k) ?_
            show GoesW _ _ _ _ _ _ _ (T219.setTop (mkF m 153 _ []))
            refine GoesW.step (fun _ k => XS.iload X219.here hx rfl (hb hby at_153) rfl  k) ?_
            obtain ⟨_, _, ⟨T252, L252, k252, n252⟩, -, X252, ⟨Lc252, hQ252, l252, y252, z252⟩, st252⟩ := Jvm.LawKit.callS X219 hx (y := (⟨"java/lang/Integer", "valueOf", "(I)Ljava/lang/Integer;"⟩ : MethodName)) hown (mvT hZ w_66) (mvT hZ w_67) (mvT hZ w_68) (mvT hZ w_69) (by decide) (backOf (W := 0) (rm12 l Z a0 hw [] p3 ca cc T219.heap n0 Z231 (S_high.ext XO220.2) (S_cache.ext XO220.2) BX XO220) hZ w_69 w_68 (by decide) (by decide)) (g := (mkF m 155 #[.val (.int p0), .val (.int p1), .val (.int p2), .val (.int p3), .val (.int p4), .val (.int (((p0.toUInt32 >>> ((24 : Int32) &&& 31).toUInt32).toInt32) &&& (3 : Int32))), .val (.int (1 : Int32)), .val (.int p0), .val (.int (((p0.toUInt32 >>> ((24 : Int32) &&& 31).toUInt32).toInt32) &&& (3 : Int32))), .val (.int p3), .val (.int (((p4.toUInt32 >>> ((3 : Int32) &&& 31).toUInt32).toInt32) &&& (3 : Int32))), .val (.ref r178), .val (.ref r181), .val (.ref b187), .val (.ref b206), .unset, .unset] [(.int p3)])) rfl (by rw [hml]; rfl) (argsL := [(.int p3)]) (rest := []) (lenOf pd_10 rfl) rfl (by show 2 * 0 + _ ≤ _; exact Nat.le_of_eq rfl) (hb hby at_155) (fun _ _ => ⟨rfl, rfl, (by decide : 10 + 1 ≤ _), (by decide : 24 + 1 ≤ _)⟩)
            dsimp only [Pt.U, Pt.locs, Pt.cells, Pt.slots] at X252 l252 y252 z252 st252 hQ252
            rw [l252, y252, z252] at X252
            obtain ⟨N252, KK252, r252, rfl, ex252, v252_0⟩ := hQ252
            have NA252 := Fr.app NA219 N252
            have XO253 : Old Z n0 T252.heap := XO220.keep KK252 all0
            have f254 := f221.keep0 KK252
            have f255 := f222.keep KK252
            have f256 := f223.keep0 KK252
            have f257 := f224.keep KK252
            have f258 := f225.keep KK252
            have f259 := f226.keep KK252 nin0
            have f260 := f227.keep KK252 nin0
            have f261 := v219_0_2.keep KK252
            have f262 := v219_0_0.keep KK252 nin0
            have f263 := v219_0_1.keep KK252 nin0
            have K264 : Keep h0 T252.heap [] := K231.trans KK252 all0
            have Z264 : n0 ≤ T252.heap.size := Nat.le_trans Z231 KK252.1
            have ZS264 : T181.heap.size ≤ T252.heap.size := Nat.le_trans ZS231 KK252.1
            refine GoesW.step st252 ?_
            show GoesW _ _ _ _ _ _ _ (T252.setTop (mkF m 158 _ [(.ref r252)]))
            refine GoesW.step (fun _ k => XS.astore X252.here hx rfl (hb hby at_158) rfl rfl (l' := #[.val (.int p0), .val (.int p1), .val (.int p2), .val (.int p3), .val (.int p4), .val (.int (((p0.toUInt32 >>> ((24 : Int32) &&& 31).toUInt32).toInt32) &&& (3 : Int32))), .val (.int (1 : Int32)), .val (.int p0), .val (.int (((p0.toUInt32 >>> ((24 : Int32) &&& 31).toUInt32).toInt32) &&& (3 : Int32))), .val (.int p3), .val (.int (((p4.toUInt32 >>> ((3 : Int32) &&& 31).toUInt32).toInt32) &&& (3 : Int32))), .val (.ref r178), .val (.ref r181), .val (.ref b187), .val (.ref b206), .val (.ref r252), .unset]) rfl k) ?_
            show GoesW _ _ _ _ _ _ _ (T252.setTop (mkF m 160 _ []))
            refine GoesW.step (fun _ k => XS.iload X252.here hx rfl (hb hby at_160) rfl  k) ?_
            refine GoesW.step (fun _ k => XS.ifYes X252.here hx rfl (pc0 := 162) (pc' := 185) rfl (hb hby at_162) rfl ((if0 _ _).trans (feq c118_232).2) (by decide) (by decide) k) ?_
            show GoesW _ _ _ _ _ _ _ (T252.setTop (mkF m 185 #[.val (.int p0), .val (.int p1), .val (.int p2), .val (.int p3), .val (.int p4), .val (.int (((p0.toUInt32 >>> ((24 : Int32) &&& 31).toUInt32).toInt32) &&& (3 : Int32))), .val (.int (1 : Int32)), .val (.int p0), .val (.int (((p0.toUInt32 >>> ((24 : Int32) &&& 31).toUInt32).toInt32) &&& (3 : Int32))), .val (.int p3), .val (.int (((p4.toUInt32 >>> ((3 : Int32) &&& 31).toUInt32).toInt32) &&& (3 : Int32))), .val (.ref r178), .val (.ref r181), .val (.ref b187), .val (.ref b206), .val (.ref r252), .unset] []))
            refine GoesW.step (fun _ k => XS.iconst X252.here hx rfl (hb hby at_185) k) ?_
            refine GoesW.step (fun _ k => XS.istore X252.here hx rfl (hb hby at_186) rfl (l' := #[.val (.int p0), .val (.int p1), .val (.int p2), .val (.int p3), .val (.int p4), .val (.int (((p0.toUInt32 >>> ((24 : Int32) &&& 31).toUInt32).toInt32) &&& (3 : Int32))), .val (.int (1 : Int32)), .val (.int p0), .val (.int (((p0.toUInt32 >>> ((24 : Int32) &&& 31).toUInt32).toInt32) &&& (3 : Int32))), .val (.int p3), .val (.int (((p4.toUInt32 >>> ((3 : Int32) &&& 31).toUInt32).toInt32) &&& (3 : Int32))), .val (.ref r178), .val (.ref r181), .val (.ref b187), .val (.ref b206), .val (.ref r252), .val (.int (0 : Int32))]) rfl k) ?_
            show GoesW _ _ _ _ _ _ _ (T252.setTop (mkF m 188 _ []))
            refine GoesW.step (fun _ k => XS.aload X252.here hx rfl (hb hby at_188) rfl rfl k) ?_
            refine GoesW.step (fun _ k => XS.aload X252.here hx rfl (hb hby at_190) rfl rfl k) ?_
            obtain ⟨cq265, kq265, q265a, q265b, q265c⟩ := isOf hZ rfl f258
            obtain ⟨_, _, ⟨T265, L265, k265, n265⟩, -, X265, ⟨Lc265, hQ265, l265, y265, z265⟩, st265⟩ := X252.virtualBack hx (y := (⟨"com/example/topicd/topicd/message/TopicQueue", "equals", "(Ljava/lang/Object;)Z"⟩ : MethodName)) (z := (⟨"com/example/topicd/topicd/message/TopicQueue", "equals", "(Ljava/lang/Object;)Z"⟩ : MethodName)) hown (mvT hZ w_37) (mvT hZ w_38) (notFace_of_selects (args := #[]) (mvT hZ w_40)) (mvT hZ w_40) (mvT hZ w_39) (by decide) (backOf (W := 0) (rm6_i l Z a0 hw [] b187 r252 T252.heap n0 Z264 ex252) hZ w_41 w_28 (by decide) (by decide)) q265a q265c (g := (mkF m 192 #[.val (.int p0), .val (.int p1), .val (.int p2), .val (.int p3), .val (.int p4), .val (.int (((p0.toUInt32 >>> ((24 : Int32) &&& 31).toUInt32).toInt32) &&& (3 : Int32))), .val (.int (1 : Int32)), .val (.int p0), .val (.int (((p0.toUInt32 >>> ((24 : Int32) &&& 31).toUInt32).toInt32) &&& (3 : Int32))), .val (.int p3), .val (.int (((p4.toUInt32 >>> ((3 : Int32) &&& 31).toUInt32).toInt32) &&& (3 : Int32))), .val (.ref r178), .val (.ref r181), .val (.ref b187), .val (.ref b206), .val (.ref r252), .val (.int (0 : Int32))] [(.ref r252), (.ref b187)])) rfl (by rw [hml]; rfl) (Steps.refl _) (argsL := [(.ref r252)]) (rest := []) (lenOf pd_5 rfl) rfl (by show 2 * 0 + _ ≤ _; exact Nat.le_of_eq rfl) (hb hby at_192) (fun _ _ => ⟨rfl, rfl, (by decide : 11 + 0 ≤ _), (by decide : 25 + 0 ≤ _)⟩)
            dsimp only [Pt.U, Pt.locs, Pt.cells, Pt.slots] at X265 l265 y265 z265 st265 hQ265
            rw [l265, y265, z265] at X265
            obtain ⟨N265, eh265, hR265⟩ := hQ265
            have NA265 := Fr.app NA252 N265
            obtain rfl := hR265
            refine GoesW.back st265 ?_
            show GoesW _ _ _ _ _ _ _ (T265.setTop (mkF m 195 _ [(.int (0 : Int32))]))
            refine GoesW.step (fun _ k => XS.iload X265.here hx rfl (hb hby at_195) rfl  k) ?_
            refine GoesW.step (fun _ k => XS.icmpYes X265.here hx rfl (pc0 := 197) (pc' := 202) rfl (hb hby at_197) rfl (teq (by decide : (0 : Int32) = (0 : Int32))).1 (by decide) (by decide) k) ?_
            show GoesW _ _ _ _ _ _ _ (T265.setTop (mkF m 202 _ []))
            refine GoesW.step (fun _ k => XS.iload X265.here hx rfl (hb hby at_202) rfl  k) ?_
            refine GoesW.step (fun _ k => XS.ifYes X265.here hx rfl (pc0 := 204) (pc' := 221) rfl (hb hby at_204) rfl ((if0 _ _).trans (feq c118_232).2) (by decide) (by decide) k) ?_
            show GoesW _ _ _ _ _ _ _ (T265.setTop (mkF m 221 _ []))
            refine GoesW.step (fun _ k => XS.aload X265.here hx rfl (hb hby at_221) rfl rfl k) ?_
            refine GoesW.step (fun _ k => XS.aload X265.here hx rfl (hb hby at_223) rfl rfl k) ?_
            obtain ⟨cq266, kq266, q266a, q266b, q266c⟩ := isOf hZ eh265 f258
            obtain ⟨_, _, ⟨T266, L266, k266, n266⟩, -, X266, ⟨Lc266, hQ266, l266, y266, z266⟩, st266⟩ := X265.virtualBack hx (y := (⟨"com/example/topicd/topicd/message/TopicQueue", "equals", "(Ljava/lang/Object;)Z"⟩ : MethodName)) (z := (⟨"com/example/topicd/topicd/message/TopicQueue", "equals", "(Ljava/lang/Object;)Z"⟩ : MethodName)) hown (mvT hZ w_37) (mvT hZ w_38) (notFace_of_selects (args := #[]) (mvT hZ w_40)) (mvT hZ w_40) (mvT hZ w_39) (by decide) (backOf (W := 0) (rm6_b l Z a0 hw [] b187 b187 r178 r178 p2 p2 cs178 cs178 zC T252.heap n0 Z264 f259 f260 f259 f260 f258 f254 f254 S_CS P5 XO253) hZ w_41 w_28 (by decide) (by decide)) q266a q266c (g := (mkF m 225 #[.val (.int p0), .val (.int p1), .val (.int p2), .val (.int p3), .val (.int p4), .val (.int (((p0.toUInt32 >>> ((24 : Int32) &&& 31).toUInt32).toInt32) &&& (3 : Int32))), .val (.int (1 : Int32)), .val (.int p0), .val (.int (((p0.toUInt32 >>> ((24 : Int32) &&& 31).toUInt32).toInt32) &&& (3 : Int32))), .val (.int p3), .val (.int (((p4.toUInt32 >>> ((3 : Int32) &&& 31).toUInt32).toInt32) &&& (3 : Int32))), .val (.ref r178), .val (.ref r181), .val (.ref b187), .val (.ref b206), .val (.ref r252), .val (.int (0 : Int32))] [(.ref b187), (.ref b187)])) rfl (by rw [hml]; rfl) (Steps.refl _) (argsL := [(.ref b187)]) (rest := []) (lenOf pd_5 rfl) rfl (by show 2 * 0 + _ ≤ _; exact Nat.le_of_eq rfl) (hb hby at_225) (fun _ _ => ⟨rfl, eh265, (by decide : 11 + 0 ≤ _), (by decide : 25 + 0 ≤ _)⟩)
            dsimp only [Pt.U, Pt.locs, Pt.cells, Pt.slots] at X266 l266 y266 z266 st266 hQ266
            rw [l266, y266, z266] at X266
            obtain ⟨N266, eh266, hR266⟩ := hQ266
            have NA266 := Fr.app NA265 N266
            rcases hR266 with ⟨rfl, u266, uu266⟩ | ⟨rfl, u266⟩
            · refine GoesW.back st266 ?_
              show GoesW _ _ _ _ _ _ _ (T266.setTop (mkF m 228 _ [(.int (1 : Int32))]))
              exact GoesW.ret1 X266 hS181 (by rw [eh266]; exact ZS264) hx (BodyLoose.notSynchronized Bd) Bd.returns rfl (Or.inl ⟨rfl, by simp, _, rfl⟩) (hb hby at_228) (by show Q0 Z p0 p1 p2 p3 p4 zC ca cc h0 n0 (some (.int (1 : Int32))) T266.vm T266.heap _; rw [eh266]; exact ⟨rfl, NA266⟩) (by decide) (by decide)
            · exact absurd ⟨(rfl : p2 = p2), (rfl : cs178 = cs178)⟩ u266
    · refine GoesW.step (fun _ k => XS.ifNo X0.here hx rfl (hb hby at_56) rfl ((if0 _ _).trans (feq c56_177).1) k) ?_
      show GoesW _ _ _ _ _ _ _ (s₁.setTop (mkF m 59 _ []))
      refine GoesW.step (fun _ k => XS.iloadN X0.here hx rfl (hb hby at_59) rfl  k) ?_
      refine GoesW.step (fun _ k => XS.goto X0.here hx rfl (pc0 := 60) (pc' := 64) rfl (hb hby at_60) (by decide) (by decide) k) ?_
      show GoesW _ _ _ _ _ _ _ (s₁.setTop (mkF m 64 _ [(.int p2)]))
      refine GoesW.step (fun _ k => XS.istore X0.here hx rfl (hb hby at_64) rfl (l' := #[.val (.int p0), .val (.int p1), .val (.int p2), .val (.int p3), .val (.int p4), .val (.int (((p0.toUInt32 >>> ((24 : Int32) &&& 31).toUInt32).toInt32) &&& (3 : Int32))), .val (.int (1 : Int32)), .val (.int p0), .val (.int (((p0.toUInt32 >>> ((24 : Int32) &&& 31).toUInt32).toInt32) &&& (3 : Int32))), .val (.int p2), .unset, .unset, .unset, .unset, .unset, .unset, .unset]) rfl k) ?_
      show GoesW _ _ _ _ _ _ _ (s₁.setTop (mkF m 66 _ []))
      refine GoesW.step (fun _ k => XS.iload X0.here hx rfl (hb hby at_66) rfl  k) ?_
      refine GoesW.step (fun _ k => XS.iconst X0.here hx rfl (hb hby at_68) k) ?_
      refine GoesW.step (fun _ k => XS.iushr X0.here hx rfl (hb hby at_69) rfl k) ?_
      show GoesW _ _ _ _ _ _ _ (s₁.setTop (mkF m 70 _ [(.int ((p4.toUInt32 >>> ((3 : Int32) &&& 31).toUInt32).toInt32))]))
      refine GoesW.step (fun _ k => XS.iconst X0.here hx rfl (hb hby at_70) k) ?_
      refine GoesW.step (fun _ k => XS.iand X0.here hx rfl (hb hby at_71) rfl k) ?_
      show GoesW _ _ _ _ _ _ _ (s₁.setTop (mkF m 72 _ [(.int (((p4.toUInt32 >>> ((3 : Int32) &&& 31).toUInt32).toInt32) &&& (3 : Int32)))]))
      refine GoesW.step (fun _ k => XS.istore X0.here hx rfl (hb hby at_72) rfl (l' := #[.val (.int p0), .val (.int p1), .val (.int p2), .val (.int p3), .val (.int p4), .val (.int (((p0.toUInt32 >>> ((24 : Int32) &&& 31).toUInt32).toInt32) &&& (3 : Int32))), .val (.int (1 : Int32)), .val (.int p0), .val (.int (((p0.toUInt32 >>> ((24 : Int32) &&& 31).toUInt32).toInt32) &&& (3 : Int32))), .val (.int p2), .val (.int (((p4.toUInt32 >>> ((3 : Int32) &&& 31).toUInt32).toInt32) &&& (3 : Int32))), .unset, .unset, .unset, .unset, .unset, .unset]) rfl k) ?_
      show GoesW _ _ _ _ _ _ _ (s₁.setTop (mkF m 74 _ []))
      refine GoesW.step (fun _ k => XS.iloadN X0.here hx rfl (hb hby at_74) rfl  k) ?_
      refine GoesW.step (fun _ k => XS.iload X0.here hx rfl (hb hby at_75) rfl  k) ?_
      obtain ⟨_, _, ⟨T267, L267, k267, n267⟩, -, X267, hs267, hg267, ⟨Lc267, hQ267, l267, y267, z267⟩, st267⟩ := callSS X0 hx (y := (⟨"com/example/topicd/topicd/message/TopicQueueEqualsPinLaw", "str", "(II)Ljava/lang/String;"⟩ : MethodName)) hown (mvT hZ w_0) (mvT hZ w_1) (mvT hZ w_2) (mvT hZ w_3) (by decide) (own_backS (W := 0) (rm1 l Z a0 hw [] p0 (((p0.toUInt32 >>> ((24 : Int32) &&& 31).toUInt32).toInt32) &&& (3 : Int32)) zC h0 n0 Z0 S_CS P5 X00 hheld hcw) hZ w_3 w_2 (by decide) (by decide)) (g := (mkF m 77 #[.val (.int p0), .val (.int p1), .val (.int p2), .val (.int p3), .val (.int p4), .val (.int (((p0.toUInt32 >>> ((24 : Int32) &&& 31).toUInt32).toInt32) &&& (3 : Int32))), .val (.int (1 : Int32)), .val (.int p0), .val (.int (((p0.toUInt32 >>> ((24 : Int32) &&& 31).toUInt32).toInt32) &&& (3 : Int32))), .val (.int p2), .val (.int (((p4.toUInt32 >>> ((3 : Int32) &&& 31).toUInt32).toInt32) &&& (3 : Int32))), .unset, .unset, .unset, .unset, .unset, .unset] [(.int (((p0.toUInt32 >>> ((24 : Int32) &&& 31).toUInt32).toInt32) &&& (3 : Int32))), (.int p0)])) rfl (by rw [hml]; rfl) (argsL := [(.int p0), (.int (((p0.toUInt32 >>> ((24 : Int32) &&& 31).toUInt32).toInt32) &&& (3 : Int32)))]) (rest := []) (lenOf pd_0 rfl) rfl (by show 2 * 0 + _ ≤ _; exact Nat.le_of_eq rfl) (hb hby at_77) (fun _ hWc => ⟨rfl, e0, (by decide : 0 + 4 ≤ _), (by decide : 0 + 10 ≤ _), own_CH.warm (s := s) hCH hWc⟩)
      dsimp only [Pt.U, Pt.locs, Pt.cells, Pt.slots] at X267 l267 y267 z267 st267 hQ267 hs267 hg267
      rw [l267, y267, z267] at X267
      have XX267 := X267
      have hS267 := hs267
      have hZ : Z.Warmed39 (s.setVm T267.vm).vm := State.Warmed39.trans (t := s) hZ hs267.1
      have hown : (s.setVm T267.vm).vm.findClass "com/example/topicd/topicd/message/TopicQueueEqualsPinLaw" = some m.cls := (hs267.1.alike.findClass _ _).trans hown
      obtain ⟨N267, KK267, CH267, r267, cs267, rfl, g_r267, le_r267, SS267⟩ := hQ267
      have NA267 := Fr.app N0 N267
      have sz_r267 : h0.size ≤ r267 := Nat.le_trans K0.1 le_r267
      have XO268 : Old Z n0 T267.heap := X00.keep KK267 all0
      have K269 : Keep h0 T267.heap [] := K0.trans KK267 all0
      have Z269 : n0 ≤ T267.heap.size := Nat.le_trans Z0 KK267.1
      have ES267 := SS267.exa
      refine GoesW.back st267 ?_
      show GoesW _ _ _ _ _ _ _ (T267.setTop (mkF m 80 #[.val (.int p0), .val (.int p1), .val (.int p2), .val (.int p3), .val (.int p4), .val (.int (((p0.toUInt32 >>> ((24 : Int32) &&& 31).toUInt32).toInt32) &&& (3 : Int32))), .val (.int (1 : Int32)), .val (.int p0), .val (.int (((p0.toUInt32 >>> ((24 : Int32) &&& 31).toUInt32).toInt32) &&& (3 : Int32))), .val (.int p2), .val (.int (((p4.toUInt32 >>> ((3 : Int32) &&& 31).toUInt32).toInt32) &&& (3 : Int32))), .unset, .unset, .unset, .unset, .unset, .unset] [(.ref r267)]))
      refine GoesW.step (fun _ k => XS.astore XX267.here hx rfl (hb hby at_80) rfl rfl (l' := #[.val (.int p0), .val (.int p1), .val (.int p2), .val (.int p3), .val (.int p4), .val (.int (((p0.toUInt32 >>> ((24 : Int32) &&& 31).toUInt32).toInt32) &&& (3 : Int32))), .val (.int (1 : Int32)), .val (.int p0), .val (.int (((p0.toUInt32 >>> ((24 : Int32) &&& 31).toUInt32).toInt32) &&& (3 : Int32))), .val (.int p2), .val (.int (((p4.toUInt32 >>> ((3 : Int32) &&& 31).toUInt32).toInt32) &&& (3 : Int32))), .val (.ref r267), .unset, .unset, .unset, .unset, .unset]) rfl k) ?_
      show GoesW _ _ _ _ _ _ _ (T267.setTop (mkF m 82 _ []))
      refine GoesW.step (fun _ k => XS.iload XX267.here hx rfl (hb hby at_82) rfl  k) ?_
      refine GoesW.step (fun _ k => XS.iload XX267.here hx rfl (hb hby at_84) rfl  k) ?_
      obtain ⟨_, _, ⟨T270, L270, k270, n270⟩, -, X270, hs270, hg270, ⟨Lc270, hQ270, l270, y270, z270⟩, st270⟩ := callSS XX267 hx (y := (⟨"com/example/topicd/topicd/message/TopicQueueEqualsPinLaw", "str", "(II)Ljava/lang/String;"⟩ : MethodName)) hown (mvT hZ w_0) (mvT hZ w_1) (mvT hZ w_2) (mvT hZ w_3) (by decide) (own_backS (W := 0) (rm1 l Z a0 hw [] p0 (((p0.toUInt32 >>> ((24 : Int32) &&& 31).toUInt32).toInt32) &&& (3 : Int32)) zC T267.heap n0 Z269 S_CS P5 XO268 hheld hcw) hZ w_3 w_2 (by decide) (by decide)) (g := (mkF m 86 #[.val (.int p0), .val (.int p1), .val (.int p2), .val (.int p3), .val (.int p4), .val (.int (((p0.toUInt32 >>> ((24 : Int32) &&& 31).toUInt32).toInt32) &&& (3 : Int32))), .val (.int (1 : Int32)), .val (.int p0), .val (.int (((p0.toUInt32 >>> ((24 : Int32) &&& 31).toUInt32).toInt32) &&& (3 : Int32))), .val (.int p2), .val (.int (((p4.toUInt32 >>> ((3 : Int32) &&& 31).toUInt32).toInt32) &&& (3 : Int32))), .val (.ref r267), .unset, .unset, .unset, .unset, .unset] [(.int (((p0.toUInt32 >>> ((24 : Int32) &&& 31).toUInt32).toInt32) &&& (3 : Int32))), (.int p0)])) rfl (by rw [hml]; rfl) (argsL := [(.int p0), (.int (((p0.toUInt32 >>> ((24 : Int32) &&& 31).toUInt32).toInt32) &&& (3 : Int32)))]) (rest := []) (lenOf pd_0 rfl) rfl (by show 2 * 0 + _ ≤ _; exact Nat.le_of_eq rfl) (hb hby at_86) (fun _ hWc => ⟨rfl, rfl, (by decide : 4 + 4 ≤ _), (by decide : 10 + 10 ≤ _), own_CH.warm (s := (s.setVm T267.vm)) CH267 hWc⟩)
      dsimp only [Pt.U, Pt.locs, Pt.cells, Pt.slots] at X270 l270 y270 z270 st270 hQ270 hs270 hg270
      rw [l270, y270, z270] at X270
      obtain ⟨XX270, hS270⟩ := Stand.againW X270 hS267 hs270 (Nat.le_trans (Nat.le_refl _) hg270)
      have hZ : Z.Warmed39 (s.setVm T270.vm).vm := State.Warmed39.trans (t := (s.setVm T267.vm)) hZ hs270.1
      have hown : (s.setVm T270.vm).vm.findClass "com/example/topicd/topicd/message/TopicQueueEqualsPinLaw" = some m.cls := (hs270.1.alike.findClass _ _).trans hown
      obtain ⟨N270, KK270, CH270, r270, cs270, rfl, g_r270, le_r270, SS270⟩ := hQ270
      have NA270 := Fr.app NA267 N270
      have ne271 : r267 ≠ r270 := Nat.ne_of_lt (Nat.lt_of_lt_of_le SS267.lt le_r270)
      have sz_r270 : h0.size ≤ r270 := Nat.le_trans K269.1 le_r270
      have XO272 : Old Z n0 T270.heap := XO268.keep KK270 all0
      have f273 := SS267.keep0 KK270
      have f274 := ES267.keep KK270
      have K275 : Keep h0 T270.heap [] := K269.trans KK270 all0
      have Z275 : n0 ≤ T270.heap.size := Nat.le_trans Z269 KK270.1
      have ES270 := SS270.exa
      refine GoesW.back st270 ?_
      show GoesW _ _ _ _ _ _ _ (T270.setTop (mkF m 89 _ [(.ref r270)]))
      refine GoesW.step (fun _ k => XS.astore XX270.here hx rfl (hb hby at_89) rfl rfl (l' := #[.val (.int p0), .val (.int p1), .val (.int p2), .val (.int p3), .val (.int p4), .val (.int (((p0.toUInt32 >>> ((24 : Int32) &&& 31).toUInt32).toInt32) &&& (3 : Int32))), .val (.int (1 : Int32)), .val (.int p0), .val (.int (((p0.toUInt32 >>> ((24 : Int32) &&& 31).toUInt32).toInt32) &&& (3 : Int32))), .val (.int p2), .val (.int (((p4.toUInt32 >>> ((3 : Int32) &&& 31).toUInt32).toInt32) &&& (3 : Int32))), .val (.ref r267), .val (.ref r270), .unset, .unset, .unset, .unset]) rfl k) ?_
      show GoesW _ _ _ _ _ _ _ (T270.setTop (mkF m 91 _ []))
      obtain ⟨T276, h276, X276, e276, E276, A276, D276, -, st276⟩ := newO XX270 hx hZ hown w_26 w_27 w_28 rfl (g := (mkF m 91 #[.val (.int p0), .val (.int p1), .val (.int p2), .val (.int p3), .val (.int p4), .val (.int (((p0.toUInt32 >>> ((24 : Int32) &&& 31).toUInt32).toInt32) &&& (3 : Int32))), .val (.int (1 : Int32)), .val (.int p0), .val (.int (((p0.toUInt32 >>> ((24 : Int32) &&& 31).toUInt32).toInt32) &&& (3 : Int32))), .val (.int p2), .val (.int (((p4.toUInt32 >>> ((3 : Int32) &&& 31).toUInt32).toInt32) &&& (3 : Int32))), .val (.ref r267), .val (.ref r270), .unset, .unset, .unset, .unset] [])) rfl (hb hby at_91) (by decide) (by decide)
      obtain ⟨b276, g276⟩ : ∃ z, z = T270.heap.size := ⟨_, rfl⟩
      rw [← g276] at A276 D276 st276
      refine GoesW.step st276 ?_
      have g_b276 : n0 ≤ b276 := Nat.le_trans Z275 (Nat.le_of_eq g276.symm)
      have sz_b276 : h0.size ≤ b276 := Nat.le_trans K275.1 (Nat.le_of_eq g276.symm)
      have ne277 : r267 ≠ b276 := Nat.ne_of_lt (Nat.lt_of_lt_of_le f273.lt (Nat.le_of_eq g276.symm))
      have ne278 : r270 ≠ b276 := Nat.ne_of_lt (Nat.lt_of_lt_of_le SS270.lt (Nat.le_of_eq g276.symm))
      have XO279 : Old Z n0 h276 := XO272.ext E276
      have f280 := f273.ext E276
      have f281 := f274.ext E276
      have f282 := SS270.ext E276
      have f283 := ES270.ext E276
      have K284 : Keep h0 h276 [] := K275.ext E276
      have Z284 : n0 ≤ h276.size := Nat.le_trans Z275 E276.1
      have ZS284 : T270.heap.size ≤ h276.size := Nat.le_trans (Nat.le_refl _) E276.1
      have E_b276 := A276
      have F_topic_b276 : Fld Z h276 b276 "com/example/topicd/topicd/message/TopicQueue" "topic" "Ljava/lang/String;" .null := D276 (Or.inr w_34) (ty := (.object "java/lang/String")) (by decide)
      have F_queueId_b276 : Fld Z h276 b276 "com/example/topicd/topicd/message/TopicQueue" "queueId" "I" (.int (0 : Int32)) := D276 (Or.inr w_36) (ty := .int) (by decide)
      show GoesW _ _ _ _ _ _ _ (T276.setTop (mkF m 94 _ [(.ref b276)]))
      refine GoesW.step (fun _ k => XS.dup X276.here hx rfl (hb hby at_94) rfl rfl k) ?_
      refine GoesW.step (fun _ k => XS.aload X276.here hx rfl (hb hby at_95) rfl rfl k) ?_
      refine GoesW.step (fun _ k => XS.iloadN X276.here hx rfl (hb hby at_97) rfl  k) ?_
      obtain ⟨_, _, ⟨T285, L285, k285, n285⟩, -, X285, ⟨Lc285, hQ285, l285, y285, z285⟩, st285⟩ := X276.specialBack hx (y := (⟨"com/example/topicd/topicd/message/TopicQueue", "<init>", "(Ljava/lang/String;I)V"⟩ : MethodName)) rfl hown (mvT hZ w_29) (mvT hZ w_30) (mvT hZ w_31) (by decide) (backOf (W := 1) (rm5 l Z a0 hw [] b276 r267 p2 h276 n0 Z284 F_topic_b276 F_queueId_b276 E_b276 g_b276) hZ w_31 w_28 (by decide) (by decide)) (g := (mkF m 98 #[.val (.int p0), .val (.int p1), .val (.int p2), .val (.int p3), .val (.int p4), .val (.int (((p0.toUInt32 >>> ((24 : Int32) &&& 31).toUInt32).toInt32) &&& (3 : Int32))), .val (.int (1 : Int32)), .val (.int p0), .val (.int (((p0.toUInt32 >>> ((24 : Int32) &&& 31).toUInt32).toInt32) &&& (3 : Int32))), .val (.int p2), .val (.int (((p4.toUInt32 >>> ((3 : Int32) &&& 31).toUInt32).toInt32) &&& (3 : Int32))), .val (.ref r267), .val (.ref r270), .unset, .unset, .unset, .unset] [(.int p2), (.ref r267), (.ref b276), (.ref b276)])) rfl (by rw [hml]; rfl) (Steps.refl _) (a := b276) (argsL := [(.ref r267), (.int p2)]) (rest := [(.ref b276)]) (lenOf pd_4 rfl) rfl (by show 2 * 0 + _ ≤ _; exact Nat.le_of_eq rfl) (hb hby at_98) (fun _ _ => ⟨rfl, e276, (by decide : 9 + 0 ≤ _), (by decide : 22 + 0 ≤ _)⟩)
      dsimp only [Pt.U, Pt.locs, Pt.cells, Pt.slots] at X285 l285 y285 z285 st285 hQ285
      rw [l285, y285, z285] at X285
      obtain ⟨N285, KK285, hR285⟩ := hQ285
      have NA285 := Fr.app NA270 N285
      have XO286 : Old Z n0 T285.heap := XO279.keep KK285 (allS g_b276 all0)
      have f287 := f280.keepT KK285 E_b276 w_27 (by decide)
      have f288 := f281.keep KK285
      have f289 := f282.keepT KK285 E_b276 w_27 (by decide)
      have f290 := f283.keep KK285
      have f291 := E_b276.keep KK285
      have K294 : Keep h0 T285.heap [] := K284.trans KK285 (allS (Or.inr sz_b276) all0)
      have Z294 : n0 ≤ T285.heap.size := Nat.le_trans Z284 KK285.1
      have ZS294 : T270.heap.size ≤ T285.heap.size := Nat.le_trans ZS284 KK285.1
      obtain ⟨rfl, v285_0_0, v285_0_1, v285_0_2⟩ := hR285
      refine GoesW.back st285 ?_
      show GoesW _ _ _ _ _ _ _ (T285.setTop (mkF m 101 _ [(.ref b276)]))
      refine GoesW.step (fun _ k => XS.astore X285.here hx rfl (hb hby at_101) rfl rfl (l' := #[.val (.int p0), .val (.int p1), .val (.int p2), .val (.int p3), .val (.int p4), .val (.int (((p0.toUInt32 >>> ((24 : Int32) &&& 31).toUInt32).toInt32) &&& (3 : Int32))), .val (.int (1 : Int32)), .val (.int p0), .val (.int (((p0.toUInt32 >>> ((24 : Int32) &&& 31).toUInt32).toInt32) &&& (3 : Int32))), .val (.int p2), .val (.int (((p4.toUInt32 >>> ((3 : Int32) &&& 31).toUInt32).toInt32) &&& (3 : Int32))), .val (.ref r267), .val (.ref r270), .val (.ref b276), .unset, .unset, .unset]) rfl k) ?_
      show GoesW _ _ _ _ _ _ _ (T285.setTop (mkF m 103 _ []))
      obtain ⟨T295, h295, X295, e295, E295, A295, D295, -, st295⟩ := newO X285 hx hZ hown w_26 w_27 w_28 rfl (g := (mkF m 103 #[.val (.int p0), .val (.int p1), .val (.int p2), .val (.int p3), .val (.int p4), .val (.int (((p0.toUInt32 >>> ((24 : Int32) &&& 31).toUInt32).toInt32) &&& (3 : Int32))), .val (.int (1 : Int32)), .val (.int p0), .val (.int (((p0.toUInt32 >>> ((24 : Int32) &&& 31).toUInt32).toInt32) &&& (3 : Int32))), .val (.int p2), .val (.int (((p4.toUInt32 >>> ((3 : Int32) &&& 31).toUInt32).toInt32) &&& (3 : Int32))), .val (.ref r267), .val (.ref r270), .val (.ref b276), .unset, .unset, .unset] [])) rfl (hb hby at_103) (by decide) (by decide)
      obtain ⟨b295, g295⟩ : ∃ z, z = T285.heap.size := ⟨_, rfl⟩
      rw [← g295] at A295 D295 st295
      refine GoesW.step st295 ?_
      have g_b295 : n0 ≤ b295 := Nat.le_trans Z294 (Nat.le_of_eq g295.symm)
      have sz_b295 : h0.size ≤ b295 := Nat.le_trans K294.1 (Nat.le_of_eq g295.symm)
      have ne296 : r267 ≠ b295 := Nat.ne_of_lt (Nat.lt_of_lt_of_le f287.lt (Nat.le_of_eq g295.symm))
      have ne297 : r270 ≠ b295 := Nat.ne_of_lt (Nat.lt_of_lt_of_le f289.lt (Nat.le_of_eq g295.symm))
      have ne298 : b276 ≠ b295 := Nat.ne_of_lt (Nat.lt_of_lt_of_le v285_0_2.lt (Nat.le_of_eq g295.symm))
      have XO299 : Old Z n0 h295 := XO286.ext E295
      have f300 := f287.ext E295
      have f301 := f288.ext E295
      have f302 := f289.ext E295
      have f303 := f290.ext E295
      have f304 := v285_0_2.ext E295
      have f305 := v285_0_0.ext E295
      have f306 := v285_0_1.ext E295
      have K307 : Keep h0 h295 [] := K294.ext E295
      have Z307 : n0 ≤ h295.size := Nat.le_trans Z294 E295.1
      have ZS307 : T270.heap.size ≤ h295.size := Nat.le_trans ZS294 E295.1
      have E_b295 := A295
      have F_topic_b295 : Fld Z h295 b295 "com/example/topicd/topicd/message/TopicQueue" "topic" "Ljava/lang/String;" .null := D295 (Or.inr w_34) (ty := (.object "java/lang/String")) (by decide)
      have F_queueId_b295 : Fld Z h295 b295 "com/example/topicd/topicd/message/TopicQueue" "queueId" "I" (.int (0 : Int32)) := D295 (Or.inr w_36) (ty := .int) (by decide)
      show GoesW _ _ _ _ _ _ _ (T295.setTop (mkF m 106 #[.val (.int p0), .val (.int p1), .val (.int p2), .val (.int p3), .val (.int p4), .val (.int (((p0.toUInt32 >>> ((24 : Int32) &&& 31).toUInt32).toInt32) &&& (3 : Int32))), .val (.int (1 : Int32)), .val (.int p0), .val (.int (((p0.toUInt32 >>> ((24 : Int32) &&& 31).toUInt32).toInt32) &&& (3 : Int32))), .val (.int p2), .val (.int (((p4.toUInt32 >>> ((3 : Int32) &&& 31).toUInt32).toInt32) &&& (3 : Int32))), .val (.ref r267), .val (.ref r270), .val (.ref b276), .unset, .unset, .unset] [(.ref b295)]))
      refine GoesW.step (fun _ k => XS.dup X295.here hx rfl (hb hby at_106) rfl rfl k) ?_
      refine GoesW.step (fun _ k => XS.aload X295.here hx rfl (hb hby at_107) rfl rfl k) ?_
      refine GoesW.step (fun _ k => XS.iload X295.here hx rfl (hb hby at_109) rfl  k) ?_
      obtain ⟨_, _, ⟨T308, L308, k308, n308⟩, -, X308, ⟨Lc308, hQ308, l308, y308, z308⟩, st308⟩ := X295.specialBack hx (y := (⟨"com/example/topicd/topicd/message/TopicQueue", "<init>", "(Ljava/lang/String;I)V"⟩ : MethodName)) rfl hown (mvT hZ w_29) (mvT hZ w_30) (mvT hZ w_31) (by decide) (backOf (W := 1) (rm5 l Z a0 hw [] b295 r270 p2 h295 n0 Z307 F_topic_b295 F_queueId_b295 E_b295 g_b295) hZ w_31 w_28 (by decide) (by decide)) (g := (mkF m 111 #[.val (.int p0), .val (.int p1), .val (.int p2), .val (.int p3), .val (.int p4), .val (.int (((p0.toUInt32 >>> ((24 : Int32) &&& 31).toUInt32).toInt32) &&& (3 : Int32))), .val (.int (1 : Int32)), .val (.int p0), .val (.int (((p0.toUInt32 >>> ((24 : Int32) &&& 31).toUInt32).toInt32) &&& (3 : Int32))), .val (.int p2), .val (.int (((p4.toUInt32 >>> ((3 : Int32) &&& 31).toUInt32).toInt32) &&& (3 : Int32))), .val (.ref r267), .val (.ref r270), .val (.ref b276), .unset, .unset, .unset] [(.int p2), (.ref r270), (.ref b295), (.ref b295)])) rfl (by rw [hml]; rfl) (Steps.refl _) (a := b295) (argsL := [(.ref r270), (.int p2)]) (rest := [(.ref b295)]) (lenOf pd_4 rfl) rfl (by show 2 * 0 + _ ≤ _; exact Nat.le_of_eq rfl) (hb hby at_111) (fun _ _ => ⟨rfl, e295, (by decide : 10 + 0 ≤ _), (by decide : 24 + 0 ≤ _)⟩)
      dsimp only [Pt.U, Pt.locs, Pt.cells, Pt.slots] at X308 l308 y308 z308 st308 hQ308
      rw [l308, y308, z308] at X308
      obtain ⟨N308, KK308, hR308⟩ := hQ308
      have NA308 := Fr.app NA285 N308
      have XO309 : Old Z n0 T308.heap := XO299.keep KK308 (allS g_b295 all0)
      have f310 := f300.keepT KK308 E_b295 w_27 (by decide)
      have f311 := f301.keep KK308
      have f312 := f302.keepT KK308 E_b295 w_27 (by decide)
      have f313 := f303.keep KK308
      have f314 := f304.keep KK308
      have f315 := f305.keep KK308 (ninS ne298 nin0)
      have f316 := f306.keep KK308 (ninS ne298 nin0)
      have f317 := E_b295.keep KK308
      have K320 : Keep h0 T308.heap [] := K307.trans KK308 (allS (Or.inr sz_b295) all0)
      have Z320 : n0 ≤ T308.heap.size := Nat.le_trans Z307 KK308.1
      have ZS320 : T270.heap.size ≤ T308.heap.size := Nat.le_trans ZS307 KK308.1
      obtain ⟨rfl, v308_0_0, v308_0_1, v308_0_2⟩ := hR308
      refine GoesW.back st308 ?_
      show GoesW _ _ _ _ _ _ _ (T308.setTop (mkF m 114 _ [(.ref b295)]))
      refine GoesW.step (fun _ k => XS.astore X308.here hx rfl (hb hby at_114) rfl rfl (l' := #[.val (.int p0), .val (.int p1), .val (.int p2), .val (.int p3), .val (.int p4), .val (.int (((p0.toUInt32 >>> ((24 : Int32) &&& 31).toUInt32).toInt32) &&& (3 : Int32))), .val (.int (1 : Int32)), .val (.int p0), .val (.int (((p0.toUInt32 >>> ((24 : Int32) &&& 31).toUInt32).toInt32) &&& (3 : Int32))), .val (.int p2), .val (.int (((p4.toUInt32 >>> ((3 : Int32) &&& 31).toUInt32).toInt32) &&& (3 : Int32))), .val (.ref r267), .val (.ref r270), .val (.ref b276), .val (.ref b295), .unset, .unset]) rfl k) ?_
      show GoesW _ _ _ _ _ _ _ (T308.setTop (mkF m 116 _ []))
      refine GoesW.step (fun _ k => XS.iload X308.here hx rfl (hb hby at_116) rfl  k) ?_
      by_cases c118_321 : (((p4.toUInt32 >>> ((3 : Int32) &&& 31).toUInt32).toInt32) &&& (3 : Int32)) = (0 : Int32)
      · refine GoesW.step (fun _ k => XS.ifNo X308.here hx rfl (hb hby at_118) rfl ((if0 _ _).trans (teq c118_321).2) k) ?_
        show GoesW _ _ _ _ _ _ _ (T308.setTop (mkF m 121 _ []))
        refine GoesW.step (fun _ k => XS.aload X308.here hx rfl (hb hby at_121) rfl rfl k) ?_
        refine GoesW.step (fun _ k => XS.astore X308.here hx rfl (hb hby at_123) rfl rfl (l' := #[.val (.int p0), .val (.int p1), .val (.int p2), .val (.int p3), .val (.int p4), .val (.int (((p0.toUInt32 >>> ((24 : Int32) &&& 31).toUInt32).toInt32) &&& (3 : Int32))), .val (.int (1 : Int32)), .val (.int p0), .val (.int (((p0.toUInt32 >>> ((24 : Int32) &&& 31).toUInt32).toInt32) &&& (3 : Int32))), .val (.int p2), .val (.int (((p4.toUInt32 >>> ((3 : Int32) &&& 31).toUInt32).toInt32) &&& (3 : Int32))), .val (.ref r267), .val (.ref r270), .val (.ref b276), .val (.ref b295), .val (.ref b295), .unset]) rfl k) ?_
        show GoesW _ _ _ _ _ _ _ (T308.setTop (mkF m 125 _ []))
        refine GoesW.step (fun _ k => XS.goto X308.here hx rfl (pc0 := 125) (pc' := 160) rfl (hb hby at_125) (by decide) (by decide) k) ?_
        show GoesW _ _ _ _ _ _ _ (T308.setTop (mkF m 160 _ []))
        refine GoesW.step (fun _ k => XS.iload X308.here hx rfl (hb hby at_160) rfl  k) ?_
        refine GoesW.step (fun _ k => XS.ifNo X308.here hx rfl (hb hby at_162) rfl ((if0 _ _).trans (teq c118_321).2) k) ?_
        show GoesW _ _ _ _ _ _ _ (T308.setTop (mkF m 165 _ []))
        refine GoesW.step (fun _ k => XS.iloadN X308.here hx rfl (hb hby at_165) rfl  k) ?_
        refine GoesW.step (fun _ k => XS.iload X308.here hx rfl (hb hby at_166) rfl  k) ?_
        refine GoesW.step (fun _ k => XS.icmpNo X308.here hx rfl (hb hby at_168) rfl (teq (rfl : p2 = p2)).2 k) ?_
        show GoesW _ _ _ _ _ _ _ (T308.setTop (mkF m 171 #[.val (.int p0), .val (.int p1), .val (.int p2), .val (.int p3), .val (.int p4), .val (.int (((p0.toUInt32 >>> ((24 : Int32) &&& 31).toUInt32).toInt32) &&& (3 : Int32))), .val (.int (1 : Int32)), .val (.int p0), .val (.int (((p0.toUInt32 >>> ((24 : Int32) &&& 31).toUInt32).toInt32) &&& (3 : Int32))), .val (.int p2), .val (.int (((p4.toUInt32 >>> ((3 : Int32) &&& 31).toUInt32).toInt32) &&& (3 : Int32))), .val (.ref r267), .val (.ref r270), .val (.ref b276), .val (.ref b295), .val (.ref b295), .unset] []))
        refine GoesW.step (fun _ k => XS.aload X308.here hx rfl (hb hby at_171) rfl rfl k) ?_
        refine GoesW.step (fun _ k => XS.aload X308.here hx rfl (hb hby at_173) rfl rfl k) ?_
        obtain ⟨et323, ek323, en323, ev323, e1_323, e2_323, e3_323, e4_323, e5_323, e6_323, e7_323⟩ := id f310
        obtain ⟨et324, ek324, en324, ev324, e1_324, e2_324, e3_324, e4_324, e5_324, e6_324, e7_324⟩ := id f312
        obtain ⟨cq322, kq322, q322a, q322b, q322c⟩ := isOf hZ rfl f311
        obtain ⟨_, _, ⟨T322, L322, k322, n322⟩, -, X322, ⟨Lc322, hQ322, l322, y322, z322⟩, st322⟩ := X308.virtualBack hx (y := (⟨"java/lang/String", "equals", "(Ljava/lang/Object;)Z"⟩ : MethodName)) (z := (⟨"java/lang/String", "equals", "(Ljava/lang/Object;)Z"⟩ : MethodName)) hown (mvT hZ w_49) (mvT hZ w_45) (notFace_of_selects (args := #[]) (mvT hZ w_47)) (mvT hZ w_47) (mvT hZ w_46) (by decide) (StrChars.Road.eqW (W := 0) hZ hwe (kI := 4) w_5 e1_323 e2_323 e3_323 e4_323 e5_323 e6_323 e7_323 e1_324 e2_324 e3_324 e4_324 e5_324 e6_324 e7_324 (S_CS.ext XO309.2) P5 (by decide) (by decide)) q322a q322c (g := (mkF m 175 #[.val (.int p0), .val (.int p1), .val (.int p2), .val (.int p3), .val (.int p4), .val (.int (((p0.toUInt32 >>> ((24 : Int32) &&& 31).toUInt32).toInt32) &&& (3 : Int32))), .val (.int (1 : Int32)), .val (.int p0), .val (.int (((p0.toUInt32 >>> ((24 : Int32) &&& 31).toUInt32).toInt32) &&& (3 : Int32))), .val (.int p2), .val (.int (((p4.toUInt32 >>> ((3 : Int32) &&& 31).toUInt32).toInt32) &&& (3 : Int32))), .val (.ref r267), .val (.ref r270), .val (.ref b276), .val (.ref b295), .val (.ref b295), .unset] [(.ref r270), (.ref r267)])) rfl (by rw [hml]; rfl) (Steps.refl _) (argsL := [(.ref r270)]) (rest := []) (lenOf pd_5 rfl) rfl (by show 2 * 0 + _ ≤ _; exact Nat.le_of_eq rfl) (hb hby at_175) (fun _ _ => ⟨rfl, rfl, (by decide : 10 + 0 ≤ _), (by decide : 24 + 0 ≤ _)⟩)
        dsimp only [Pt.U, Pt.locs, Pt.cells, Pt.slots] at X322 l322 y322 z322 st322 hQ322
        rw [l322, y322, z322] at X322
        obtain ⟨hR322, rfl, eh322⟩ := hQ322
        have NA322 := Fr.app NA308 (Fr.nil n0)
        rcases hR322 with ⟨rfl, u322⟩ | ⟨rfl, u322⟩
        · refine GoesW.back st322 ?_
          show GoesW _ _ _ _ _ _ _ (T322.setTop (mkF m 178 _ [(.int (1 : Int32))]))
          refine GoesW.step (fun _ k => XS.ifNo X322.here hx rfl (hb hby at_178) rfl ((if0 _ _).trans (feq (by decide : ¬ ((1 : Int32) = (0 : Int32)))).1) k) ?_
          show GoesW _ _ _ _ _ _ _ (T322.setTop (mkF m 181 _ []))
          refine GoesW.step (fun _ k => XS.iconst X322.here hx rfl (hb hby at_181) k) ?_
          refine GoesW.step (fun _ k => XS.goto X322.here hx rfl (pc0 := 182) (pc' := 186) rfl (hb hby at_182) (by decide) (by decide) k) ?_
          show GoesW _ _ _ _ _ _ _ (T322.setTop (mkF m 186 _ [(.int (1 : Int32))]))
          refine GoesW.step (fun _ k => XS.istore X322.here hx rfl (hb hby at_186) rfl (l' := #[.val (.int p0), .val (.int p1), .val (.int p2), .val (.int p3), .val (.int p4), .val (.int (((p0.toUInt32 >>> ((24 : Int32) &&& 31).toUInt32).toInt32) &&& (3 : Int32))), .val (.int (1 : Int32)), .val (.int p0), .val (.int (((p0.toUInt32 >>> ((24 : Int32) &&& 31).toUInt32).toInt32) &&& (3 : Int32))), .val (.int p2), .val (.int (((p4.toUInt32 >>> ((3 : Int32) &&& 31).toUInt32).toInt32) &&& (3 : Int32))), .val (.ref r267), .val (.ref r270), .val (.ref b276), .val (.ref b295), .val (.ref b295), .val (.int (1 : Int32))]) rfl k) ?_
          show GoesW _ _ _ _ _ _ _ (T322.setTop (mkF m 188 _ []))
          refine GoesW.step (fun _ k => XS.aload X322.here hx rfl (hb hby at_188) rfl rfl k) ?_
          refine GoesW.step (fun _ k => XS.aload X322.here hx rfl (hb hby at_190) rfl rfl k) ?_
          obtain ⟨cq325, kq325, q325a, q325b, q325c⟩ := isOf hZ eh322 f314
          obtain ⟨_, _, ⟨T325, L325, k325, n325⟩, -, X325, ⟨Lc325, hQ325, l325, y325, z325⟩, st325⟩ := X322.virtualBack hx (y := (⟨"com/example/topicd/topicd/message/TopicQueue", "equals", "(Ljava/lang/Object;)Z"⟩ : MethodName)) (z := (⟨"com/example/topicd/topicd/message/TopicQueue", "equals", "(Ljava/lang/Object;)Z"⟩ : MethodName)) hown (mvT hZ w_37) (mvT hZ w_38) (notFace_of_selects (args := #[]) (mvT hZ w_40)) (mvT hZ w_40) (mvT hZ w_39) (by decide) (backOf (W := 0) (rm6_b l Z a0 hw [] b276 b295 r267 r270 p2 p2 cs267 cs270 zC T308.heap n0 Z320 f315 f316 v308_0_0 v308_0_1 v308_0_2 f310 f312 S_CS P5 XO309) hZ w_41 w_28 (by decide) (by decide)) q325a q325c (g := (mkF m 192 #[.val (.int p0), .val (.int p1), .val (.int p2), .val (.int p3), .val (.int p4), .val (.int (((p0.toUInt32 >>> ((24 : Int32) &&& 31).toUInt32).toInt32) &&& (3 : Int32))), .val (.int (1 : Int32)), .val (.int p0), .val (.int (((p0.toUInt32 >>> ((24 : Int32) &&& 31).toUInt32).toInt32) &&& (3 : Int32))), .val (.int p2), .val (.int (((p4.toUInt32 >>> ((3 : Int32) &&& 31).toUInt32).toInt32) &&& (3 : Int32))), .val (.ref r267), .val (.ref r270), .val (.ref b276), .val (.ref b295), .val (.ref b295), .val (.int (1 : Int32))] [(.ref b295), (.ref b276)])) rfl (by rw [hml]; rfl) (Steps.refl _) (argsL := [(.ref b295)]) (rest := []) (lenOf pd_5 rfl) rfl (by show 2 * 0 + _ ≤ _; exact Nat.le_of_eq rfl) (hb hby at_192) (fun _ _ => ⟨rfl, eh322, (by decide : 10 + 0 ≤ _), (by decide : 24 + 0 ≤ _)⟩)
          dsimp only [Pt.U, Pt.locs, Pt.cells, Pt.slots] at X325 l325 y325 z325 st325 hQ325
          rw [l325, y325, z325] at X325
          obtain ⟨N325, eh325, hR325⟩ := hQ325
          have NA325 := Fr.app NA322 N325
          rcases hR325 with ⟨rfl, u325, uu325⟩ | ⟨rfl, u325⟩
          · refine GoesW.back st325 ?_
            show GoesW _ _ _ _ _ _ _ (T325.setTop (mkF m 195 _ [(.int (1 : Int32))]))
            refine GoesW.step (fun _ k => XS.iload X325.here hx rfl (hb hby at_195) rfl  k) ?_
            refine GoesW.step (fun _ k => XS.icmpYes X325.here hx rfl (pc0 := 197) (pc' := 202) rfl (hb hby at_197) rfl (teq (by decide : (1 : Int32) = (1 : Int32))).1 (by decide) (by decide) k) ?_
            show GoesW _ _ _ _ _ _ _ (T325.setTop (mkF m 202 _ []))
            refine GoesW.step (fun _ k => XS.iload X325.here hx rfl (hb hby at_202) rfl  k) ?_
            refine GoesW.step (fun _ k => XS.ifNo X325.here hx rfl (hb hby at_204) rfl ((if0 _ _).trans (teq c118_321).2) k) ?_
            show GoesW _ _ _ _ _ _ _ (T325.setTop (mkF m 207 #[.val (.int p0), .val (.int p1), .val (.int p2), .val (.int p3), .val (.int p4), .val (.int (((p0.toUInt32 >>> ((24 : Int32) &&& 31).toUInt32).toInt32) &&& (3 : Int32))), .val (.int (1 : Int32)), .val (.int p0), .val (.int (((p0.toUInt32 >>> ((24 : Int32) &&& 31).toUInt32).toInt32) &&& (3 : Int32))), .val (.int p2), .val (.int (((p4.toUInt32 >>> ((3 : Int32) &&& 31).toUInt32).toInt32) &&& (3 : Int32))), .val (.ref r267), .val (.ref r270), .val (.ref b276), .val (.ref b295), .val (.ref b295), .val (.int (1 : Int32))] []))
            refine GoesW.step (fun _ k => XS.aload X325.here hx rfl (hb hby at_207) rfl rfl k) ?_
            refine GoesW.step (fun _ k => XS.aload X325.here hx rfl (hb hby at_209) rfl rfl k) ?_
            obtain ⟨cq326, kq326, q326a, q326b, q326c⟩ := isOf hZ eh325 v308_0_2
            obtain ⟨_, _, ⟨T326, L326, k326, n326⟩, -, X326, ⟨Lc326, hQ326, l326, y326, z326⟩, st326⟩ := X325.virtualBack hx (y := (⟨"com/example/topicd/topicd/message/TopicQueue", "equals", "(Ljava/lang/Object;)Z"⟩ : MethodName)) (z := (⟨"com/example/topicd/topicd/message/TopicQueue", "equals", "(Ljava/lang/Object;)Z"⟩ : MethodName)) hown (mvT hZ w_37) (mvT hZ w_38) (notFace_of_selects (args := #[]) (mvT hZ w_40)) (mvT hZ w_40) (mvT hZ w_39) (by decide) (backOf (W := 0) (rm6_b l Z a0 hw [] b295 b276 r270 r267 p2 p2 cs270 cs267 zC T308.heap n0 Z320 v308_0_0 v308_0_1 f315 f316 f314 f312 f310 S_CS P5 XO309) hZ w_41 w_28 (by decide) (by decide)) q326a q326c (g := (mkF m 211 #[.val (.int p0), .val (.int p1), .val (.int p2), .val (.int p3), .val (.int p4), .val (.int (((p0.toUInt32 >>> ((24 : Int32) &&& 31).toUInt32).toInt32) &&& (3 : Int32))), .val (.int (1 : Int32)), .val (.int p0), .val (.int (((p0.toUInt32 >>> ((24 : Int32) &&& 31).toUInt32).toInt32) &&& (3 : Int32))), .val (.int p2), .val (.int (((p4.toUInt32 >>> ((3 : Int32) &&& 31).toUInt32).toInt32) &&& (3 : Int32))), .val (.ref r267), .val (.ref r270), .val (.ref b276), .val (.ref b295), .val (.ref b295), .val (.int (1 : Int32))] [(.ref b276), (.ref b295)])) rfl (by rw [hml]; rfl) (Steps.refl _) (argsL := [(.ref b276)]) (rest := []) (lenOf pd_5 rfl) rfl (by show 2 * 0 + _ ≤ _; exact Nat.le_of_eq rfl) (hb hby at_211) (fun _ _ => ⟨rfl, eh325, (by decide : 10 + 0 ≤ _), (by decide : 24 + 0 ≤ _)⟩)
            dsimp only [Pt.U, Pt.locs, Pt.cells, Pt.slots] at X326 l326 y326 z326 st326 hQ326
            rw [l326, y326, z326] at X326
            obtain ⟨N326, eh326, hR326⟩ := hQ326
            have NA326 := Fr.app NA325 N326
            rcases hR326 with ⟨rfl, u326, uu326⟩ | ⟨rfl, u326⟩
            · refine GoesW.back st326 ?_
              show GoesW _ _ _ _ _ _ _ (T326.setTop (mkF m 214 _ [(.int (1 : Int32))]))
              refine GoesW.step (fun _ k => XS.iload X326.here hx rfl (hb hby at_214) rfl  k) ?_
              refine GoesW.step (fun _ k => XS.icmpYes X326.here hx rfl (pc0 := 216) (pc' := 221) rfl (hb hby at_216) rfl (teq (by decide : (1 : Int32) = (1 : Int32))).1 (by decide) (by decide) k) ?_
              show GoesW _ _ _ _ _ _ _ (T326.setTop (mkF m 221 _ []))
              refine GoesW.step (fun _ k => XS.aload X326.here hx rfl (hb hby at_221) rfl rfl k) ?_
              refine GoesW.step (fun _ k => XS.aload X326.here hx rfl (hb hby at_223) rfl rfl k) ?_
              obtain ⟨cq327, kq327, q327a, q327b, q327c⟩ := isOf hZ eh326 f314
              obtain ⟨_, _, ⟨T327, L327, k327, n327⟩, -, X327, ⟨Lc327, hQ327, l327, y327, z327⟩, st327⟩ := X326.virtualBack hx (y := (⟨"com/example/topicd/topicd/message/TopicQueue", "equals", "(Ljava/lang/Object;)Z"⟩ : MethodName)) (z := (⟨"com/example/topicd/topicd/message/TopicQueue", "equals", "(Ljava/lang/Object;)Z"⟩ : MethodName)) hown (mvT hZ w_37) (mvT hZ w_38) (notFace_of_selects (args := #[]) (mvT hZ w_40)) (mvT hZ w_40) (mvT hZ w_39) (by decide) (backOf (W := 0) (rm6_b l Z a0 hw [] b276 b276 r267 r267 p2 p2 cs267 cs267 zC T308.heap n0 Z320 f315 f316 f315 f316 f314 f310 f310 S_CS P5 XO309) hZ w_41 w_28 (by decide) (by decide)) q327a q327c (g := (mkF m 225 #[.val (.int p0), .val (.int p1), .val (.int p2), .val (.int p3), .val (.int p4), .val (.int (((p0.toUInt32 >>> ((24 : Int32) &&& 31).toUInt32).toInt32) &&& (3 : Int32))), .val (.int (1 : Int32)), .val (.int p0), .val (.int (((p0.toUInt32 >>> ((24 : Int32) &&& 31).toUInt32).toInt32) &&& (3 : Int32))), .val (.int p2), .val (.int (((p4.toUInt32 >>> ((3 : Int32) &&& 31).toUInt32).toInt32) &&& (3 : Int32))), .val (.ref r267), .val (.ref r270), .val (.ref b276), .val (.ref b295), .val (.ref b295), .val (.int (1 : Int32))] [(.ref b276), (.ref b276)])) rfl (by rw [hml]; rfl) (Steps.refl _) (argsL := [(.ref b276)]) (rest := []) (lenOf pd_5 rfl) rfl (by show 2 * 0 + _ ≤ _; exact Nat.le_of_eq rfl) (hb hby at_225) (fun _ _ => ⟨rfl, eh326, (by decide : 10 + 0 ≤ _), (by decide : 24 + 0 ≤ _)⟩)
              dsimp only [Pt.U, Pt.locs, Pt.cells, Pt.slots] at X327 l327 y327 z327 st327 hQ327
              rw [l327, y327, z327] at X327
              obtain ⟨N327, eh327, hR327⟩ := hQ327
              have NA327 := Fr.app NA326 N327
              rcases hR327 with ⟨rfl, u327, uu327⟩ | ⟨rfl, u327⟩
              · refine GoesW.back st327 ?_
                show GoesW _ _ _ _ _ _ _ (T327.setTop (mkF m 228 _ [(.int (1 : Int32))]))
                exact GoesW.ret1 X327 hS270 (by rw [eh327]; exact ZS320) hx (BodyLoose.notSynchronized Bd) Bd.returns rfl (Or.inl ⟨rfl, by simp, _, rfl⟩) (hb hby at_228) (by show Q0 Z p0 p1 p2 p3 p4 zC ca cc h0 n0 (some (.int (1 : Int32))) T327.vm T327.heap _; rw [eh327]; exact ⟨rfl, NA327⟩) (by decide) (by decide)
              · exact absurd ⟨(rfl : p2 = p2), (rfl : cs267 = cs267)⟩ u327
            · exact absurd ⟨(rfl : p2 = p2), u322⟩ u326
          · exact absurd ⟨(rfl : p2 = p2), (Eq.symm u322)⟩ u325
        · refine GoesW.back st322 ?_
          show GoesW _ _ _ _ _ _ _ (T322.setTop (mkF m 178 _ [(.int (0 : Int32))]))
          refine GoesW.step (fun _ k => XS.ifYes X322.here hx rfl (pc0 := 178) (pc' := 185) rfl (hb hby at_178) rfl ((if0 _ _).trans (teq (by decide : (0 : Int32) = (0 : Int32))).1) (by decide) (by decide) k) ?_
          show GoesW _ _ _ _ _ _ _ (T322.setTop (mkF m 185 _ []))
          refine GoesW.step (fun _ k => XS.iconst X322.here hx rfl (hb hby at_185) k) ?_
          refine GoesW.step (fun _ k => XS.istore X322.here hx rfl (hb hby at_186) rfl (l' := #[.val (.int p0), .val (.int p1), .val (.int p2), .val (.int p3), .val (.int p4), .val (.int (((p0.toUInt32 >>> ((24 : Int32) &&& 31).toUInt32).toInt32) &&& (3 : Int32))), .val (.int (1 : Int32)), .val (.int p0), .val (.int (((p0.toUInt32 >>> ((24 : Int32) &&& 31).toUInt32).toInt32) &&& (3 : Int32))), .val (.int p2), .val (.int (((p4.toUInt32 >>> ((3 : Int32) &&& 31).toUInt32).toInt32) &&& (3 : Int32))), .val (.ref r267), .val (.ref r270), .val (.ref b276), .val (.ref b295), .val (.ref b295), .val (.int (0 : Int32))]) rfl k) ?_
          show GoesW _ _ _ _ _ _ _ (T322.setTop (mkF m 188 _ []))
          refine GoesW.step (fun _ k => XS.aload X322.here hx rfl (hb hby at_188) rfl rfl k) ?_
          refine GoesW.step (fun _ k => XS.aload X322.here hx rfl (hb hby at_190) rfl rfl k) ?_
          obtain ⟨cq328, kq328, q328a, q328b, q328c⟩ := isOf hZ eh322 f314
          obtain ⟨_, _, ⟨T328, L328, k328, n328⟩, -, X328, ⟨Lc328, hQ328, l328, y328, z328⟩, st328⟩ := X322.virtualBack hx (y := (⟨"com/example/topicd/topicd/message/TopicQueue", "equals", "(Ljava/lang/Object;)Z"⟩ : MethodName)) (z := (⟨"com/example/topicd/topicd/message/TopicQueue", "equals", "(Ljava/lang/Object;)Z"⟩ : MethodName)) hown (mvT hZ w_37) (mvT hZ w_38) (notFace_of_selects (args := #[]) (mvT hZ w_40)) (mvT hZ w_40) (mvT hZ w_39) (by decide) (backOf (W := 0) (rm6_b l Z a0 hw [] b276 b295 r267 r270 p2 p2 cs267 cs270 zC T308.heap n0 Z320 f315 f316 v308_0_0 v308_0_1 v308_0_2 f310 f312 S_CS P5 XO309) hZ w_41 w_28 (by decide) (by decide)) q328a q328c (g := (mkF m 192 #[.val (.int p0), .val (.int p1), .val (.int p2), .val (.int p3), .val (.int p4), .val (.int (((p0.toUInt32 >>> ((24 : Int32) &&& 31).toUInt32).toInt32) &&& (3 : Int32))), .val (.int (1 : Int32)), .val (.int p0), .val (.int (((p0.toUInt32 >>> ((24 : Int32) &&& 31).toUInt32).toInt32) &&& (3 : Int32))), .val (.int p2), .val (.int (((p4.toUInt32 >>> ((3 : Int32) &&& 31).toUInt32).toInt32) &&& (3 : Int32))), .val (.ref r267), .val (.ref r270), .val (.ref b276), .val (.ref b295), .val (.ref b295), .val (.int (0 : Int32))] [(.ref b295), (.ref b276)])) rfl (by rw [hml]; rfl) (Steps.refl _) (argsL := [(.ref b295)]) (rest := []) (lenOf pd_5 rfl) rfl (by show 2 * 0 + _ ≤ _; exact Nat.le_of_eq rfl) (hb hby at_192) (fun _ _ => ⟨rfl, eh322, (by decide : 10 + 0 ≤ _), (by decide : 24 + 0 ≤ _)⟩)
          dsimp only [Pt.U, Pt.locs, Pt.cells, Pt.slots] at X328 l328 y328 z328 st328 hQ328
          rw [l328, y328, z328] at X328
          obtain ⟨N328, eh328, hR328⟩ := hQ328
          have NA328 := Fr.app NA322 N328
          rcases hR328 with ⟨rfl, u328, uu328⟩ | ⟨rfl, u328⟩
          · exact absurd uu328 (Ne.symm u322)
          · refine GoesW.back st328 ?_
            show GoesW _ _ _ _ _ _ _ (T328.setTop (mkF m 195 _ [(.int (0 : Int32))]))
            refine GoesW.step (fun _ k => XS.iload X328.here hx rfl (hb hby at_195) rfl  k) ?_
            refine GoesW.step (fun _ k => XS.icmpYes X328.here hx rfl (pc0 := 197) (pc' := 202) rfl (hb hby at_197) rfl (teq (by decide : (0 : Int32) = (0 : Int32))).1 (by decide) (by decide) k) ?_
            show GoesW _ _ _ _ _ _ _ (T328.setTop (mkF m 202 _ []))
            refine GoesW.step (fun _ k => XS.iload X328.here hx rfl (hb hby at_202) rfl  k) ?_
            refine GoesW.step (fun _ k => XS.ifNo X328.here hx rfl (hb hby at_204) rfl ((if0 _ _).trans (teq c118_321).2) k) ?_
            show GoesW _ _ _ _ _ _ _ (T328.setTop (mkF m 207 _ []))
            refine GoesW.step (fun _ k => XS.aload X328.here hx rfl (hb hby at_207) rfl rfl k) ?_
            refine GoesW.step (fun _ k => XS.aload X328.here hx rfl (hb hby at_209) rfl rfl k) ?_
            obtain ⟨cq329, kq329, q329a, q329b, q329c⟩ := isOf hZ eh328 v308_0_2
            obtain ⟨_, _, ⟨T329, L329, k329, n329⟩, -, X329, ⟨Lc329, hQ329, l329, y329, z329⟩, st329⟩ := X328.virtualBack hx (y := (⟨"com/example/topicd/topicd/message/TopicQueue", "equals", "(Ljava/lang/Object;)Z"⟩ : MethodName)) (z := (⟨"com/example/topicd/topicd/message/TopicQueue", "equals", "(Ljava/lang/Object;)Z"⟩ : MethodName)) hown (mvT hZ w_37) (mvT hZ w_38) (notFace_of_selects (args := #[]) (mvT hZ w_40)) (mvT hZ w_40) (mvT hZ w_39) (by decide) (backOf (W := 0) (rm6_b l Z a0 hw [] b295 b276 r270 r267 p2 p2 cs270 cs267 zC T308.heap n0 Z320 v308_0_0 v308_0_1 f315 f316 f314 f312 f310 S_CS P5 XO309) hZ w_41 w_28 (by decide) (by decide)) q329a q329c (g := (mkF m 211 #[.val (.int p0), .val (.int p1), .val (.int p2), .val (.int p3), .val (.int p4), .val (.int (((p0.toUInt32 >>> ((24 : Int32) &&& 31).toUInt32).toInt32) &&& (3 : Int32))), .val (.int (1 : Int32)), .val (.int p0), .val (.int (((p0.toUInt32 >>> ((24 : Int32) &&& 31).toUInt32).toInt32) &&& (3 : Int32))), .val (.int p2), .val (.int (((p4.toUInt32 >>> ((3 : Int32) &&& 31).toUInt32).toInt32) &&& (3 : Int32))), .val (.ref r267), .val (.ref r270), .val (.ref b276), .val (.ref b295), .val (.ref b295), .val (.int (0 : Int32))] [(.ref b276), (.ref b295)])) rfl (by rw [hml]; rfl) (Steps.refl _) (argsL := [(.ref b276)]) (rest := []) (lenOf pd_5 rfl) rfl (by show 2 * 0 + _ ≤ _; exact Nat.le_of_eq rfl) (hb hby at_211) (fun _ _ => ⟨rfl, eh328, (by decide : 10 + 0 ≤ _), (by decide : 24 + 0 ≤ _)⟩)
            dsimp only [Pt.U, Pt.locs, Pt.cells, Pt.slots] at X329 l329 y329 z329 st329 hQ329
            rw [l329, y329, z329] at X329
            obtain ⟨N329, eh329, hR329⟩ := hQ329
            have NA329 := Fr.app NA328 N329
            rcases hR329 with ⟨rfl, u329, uu329⟩ | ⟨rfl, u329⟩
            · exact absurd uu329 u322
            · refine GoesW.back st329 ?_
              show GoesW _ _ _ _ _ _ _ (T329.setTop (mkF m 214 #[.val (.int p0), .val (.int p1), .val (.int p2), .val (.int p3), .val (.int p4), .val (.int (((p0.toUInt32 >>> ((24 : Int32) &&& 31).toUInt32).toInt32) &&& (3 : Int32))), .val (.int (1 : Int32)), .val (.int p0), .val (.int (((p0.toUInt32 >>> ((24 : Int32) &&& 31).toUInt32).toInt32) &&& (3 : Int32))), .val (.int p2), .val (.int (((p4.toUInt32 >>> ((3 : Int32) &&& 31).toUInt32).toInt32) &&& (3 : Int32))), .val (.ref r267), .val (.ref r270), .val (.ref b276), .val (.ref b295), .val (.ref b295), .val (.int (0 : Int32))] [(.int (0 : Int32))]))
              refine GoesW.step (fun _ k => XS.iload X329.here hx rfl (hb hby at_214) rfl  k) ?_
              refine GoesW.step (fun _ k => XS.icmpYes X329.here hx rfl (pc0 := 216) (pc' := 221) rfl (hb hby at_216) rfl (teq (by decide : (0 : Int32) = (0 : Int32))).1 (by decide) (by decide) k) ?_
              show GoesW _ _ _ _ _ _ _ (T329.setTop (mkF m 221 _ []))
              refine GoesW.step (fun _ k => XS.aload X329.here hx rfl (hb hby at_221) rfl rfl k) ?_
              refine GoesW.step (fun _ k => XS.aload X329.here hx rfl (hb hby at_223) rfl rfl k) ?_
              obtain ⟨cq330, kq330, q330a, q330b, q330c⟩ := isOf hZ eh329 f314
              obtain ⟨_, _, ⟨T330, L330, k330, n330⟩, -, X330, ⟨Lc330, hQ330, l330, y330, z330⟩, st330⟩ := X329.virtualBack hx (y := (⟨"com/example/topicd/topicd/message/TopicQueue", "equals", "(Ljava/lang/Object;)Z"⟩ : MethodName)) (z := (⟨"com/example/topicd/topicd/message/TopicQueue", "equals", "(Ljava/lang/Object;)Z"⟩ : MethodName)) hown (mvT hZ w_37) (mvT hZ w_38) (notFace_of_selects (args := #[]) (mvT hZ w_40)) (mvT hZ w_40) (mvT hZ w_39) (by decide) (backOf (W := 0) (rm6_b l Z a0 hw [] b276 b276 r267 r267 p2 p2 cs267 cs267 zC T308.heap n0 Z320 f315 f316 f315 f316 f314 f310 f310 S_CS P5 XO309) hZ w_41 w_28 (by decide) (by decide)) q330a q330c (g := (mkF m 225 #[.val (.int p0), .val (.int p1), .val (.int p2), .val (.int p3), .val (.int p4), .val (.int (((p0.toUInt32 >>> ((24 : Int32) &&& 31).toUInt32).toInt32) &&& (3 : Int32))), .val (.int (1 : Int32)), .val (.int p0), .val (.int (((p0.toUInt32 >>> ((24 : Int32) &&& 31).toUInt32).toInt32) &&& (3 : Int32))), .val (.int p2), .val (.int (((p4.toUInt32 >>> ((3 : Int32) &&& 31).toUInt32).toInt32) &&& (3 : Int32))), .val (.ref r267), .val (.ref r270), .val (.ref b276), .val (.ref b295), .val (.ref b295), .val (.int (0 : Int32))] [(.ref b276), (.ref b276)])) rfl (by rw [hml]; rfl) (Steps.refl _) (argsL := [(.ref b276)]) (rest := []) (lenOf pd_5 rfl) rfl (by show 2 * 0 + _ ≤ _; exact Nat.le_of_eq rfl) (hb hby at_225) (fun _ _ => ⟨rfl, eh329, (by decide : 10 + 0 ≤ _), (by decide : 24 + 0 ≤ _)⟩)
              dsimp only [Pt.U, Pt.locs, Pt.cells, Pt.slots] at X330 l330 y330 z330 st330 hQ330
              rw [l330, y330, z330] at X330
              obtain ⟨N330, eh330, hR330⟩ := hQ330
              have NA330 := Fr.app NA329 N330
              rcases hR330 with ⟨rfl, u330, uu330⟩ | ⟨rfl, u330⟩
              · refine GoesW.back st330 ?_
                show GoesW _ _ _ _ _ _ _ (T330.setTop (mkF m 228 _ [(.int (1 : Int32))]))
                exact GoesW.ret1 X330 hS270 (by rw [eh330]; exact ZS320) hx (BodyLoose.notSynchronized Bd) Bd.returns rfl (Or.inl ⟨rfl, by simp, _, rfl⟩) (hb hby at_228) (by show Q0 Z p0 p1 p2 p3 p4 zC ca cc h0 n0 (some (.int (1 : Int32))) T330.vm T330.heap _; rw [eh330]; exact ⟨rfl, NA330⟩) (by decide) (by decide)
              · exact absurd ⟨(rfl : p2 = p2), (rfl : cs267 = cs267)⟩ u330
      · refine GoesW.step (fun _ k => XS.ifYes X308.here hx rfl (pc0 := 118) (pc' := 128) rfl (hb hby at_118) rfl ((if0 _ _).trans (feq c118_321).2) (by decide) (by decide) k) ?_
        show GoesW _ _ _ _ _ _ _ (T308.setTop (mkF m 128 _ []))
        refine GoesW.step (fun _ k => XS.iload X308.here hx rfl (hb hby at_128) rfl  k) ?_
        refine GoesW.step (fun _ k => XS.iconst X308.here hx rfl (hb hby at_130) k) ?_
        by_cases c131_331 : (((p4.toUInt32 >>> ((3 : Int32) &&& 31).toUInt32).toInt32) &&& (3 : Int32)) = (1 : Int32)
        · refine GoesW.step (fun _ k => XS.icmpNo X308.here hx rfl (hb hby at_131) rfl (teq c131_331).2 k) ?_
          show GoesW _ _ _ _ _ _ _ (T308.setTop (mkF m 134 _ []))
          refine GoesW.step (fun _ k => XS.aconstNull X308.here hx rfl (hb hby at_134) k) ?_
          refine GoesW.step (fun _ k => XS.astore X308.here hx rfl (hb hby at_135) rfl rfl (l' := #[.val (.int p0), .val (.int p1), .val (.int p2), .val (.int p3), .val (.int p4), .val (.int (((p0.toUInt32 >>> ((24 : Int32) &&& 31).toUInt32).toInt32) &&& (3 : Int32))), .val (.int (1 : Int32)), .val (.int p0), .val (.int (((p0.toUInt32 >>> ((24 : Int32) &&& 31).toUInt32).toInt32) &&& (3 : Int32))), .val (.int p2), .val (.int (((p4.toUInt32 >>> ((3 : Int32) &&& 31).toUInt32).toInt32) &&& (3 : Int32))), .val (.ref r267), .val (.ref r270), .val (.ref b276), .val (.ref b295), .val .null, .unset]) rfl k) ?_
          show GoesW _ _ _ _ _ _ _ (T308.setTop (mkF m 137 _ []))
          refine GoesW.step (fun _ k => XS.goto X308.here hx rfl (pc0 := 137) (pc' := 160) rfl (hb hby at_137) (by decide) (by decide) k) ?_
          show GoesW _ _ _ _ _ _ _ (T308.setTop (mkF m 160 _ []))
          refine GoesW.step (fun _ k => XS.iload X308.here hx rfl (hb hby at_160) rfl  k) ?_
          refine GoesW.step (fun _ k => XS.ifYes X308.here hx rfl (pc0 := 162) (pc' := 185) rfl (hb hby at_162) rfl ((if0 _ _).trans (feq c118_321).2) (by decide) (by decide) k) ?_
          show GoesW _ _ _ _ _ _ _ (T308.setTop (mkF m 185 #[.val (.int p0), .val (.int p1), .val (.int p2), .val (.int p3), .val (.int p4), .val (.int (((p0.toUInt32 >>> ((24 : Int32) &&& 31).toUInt32).toInt32) &&& (3 : Int32))), .val (.int (1 : Int32)), .val (.int p0), .val (.int (((p0.toUInt32 >>> ((24 : Int32) &&& 31).toUInt32).toInt32) &&& (3 : Int32))), .val (.int p2), .val (.int (((p4.toUInt32 >>> ((3 : Int32) &&& 31).toUInt32).toInt32) &&& (3 : Int32))), .val (.ref r267), .val (.ref r270), .val (.ref b276), .val (.ref b295), .val .null, .unset] []))
          refine GoesW.step (fun _ k => XS.iconst X308.here hx rfl (hb hby at_185) k) ?_
          refine GoesW.step (fun _ k => XS.istore X308.here hx rfl (hb hby at_186) rfl (l' := #[.val (.int p0), .val (.int p1), .val (.int p2), .val (.int p3), .val (.int p4), .val (.int (((p0.toUInt32 >>> ((24 : Int32) &&& 31).toUInt32).toInt32) &&& (3 : Int32))), .val (.int (1 : Int32)), .val (.int p0), .val (.int (((p0.toUInt32 >>> ((24 : Int32) &&& 31).toUInt32).toInt32) &&& (3 : Int32))), .val (.int p2), .val (.int (((p4.toUInt32 >>> ((3 : Int32) &&& 31).toUInt32).toInt32) &&& (3 : Int32))), .val (.ref r267), .val (.ref r270), .val (.ref b276), .val (.ref b295), .val .null, .val (.int (0 : Int32))]) rfl k) ?_
          show GoesW _ _ _ _ _ _ _ (T308.setTop (mkF m 188 _ []))
          refine GoesW.step (fun _ k => XS.aload X308.here hx rfl (hb hby at_188) rfl rfl k) ?_
          refine GoesW.step (fun _ k => XS.aload X308.here hx rfl (hb hby at_190) rfl rfl k) ?_
          obtain ⟨cq332, kq332, q332a, q332b, q332c⟩ := isOf hZ rfl f314
          obtain ⟨_, _, ⟨T332, L332, k332, n332⟩, -, X332, ⟨Lc332, hQ332, l332, y332, z332⟩, st332⟩ := X308.virtualBack hx (y := (⟨"com/example/topicd/topicd/message/TopicQueue", "equals", "(Ljava/lang/Object;)Z"⟩ : MethodName)) (z := (⟨"com/example/topicd/topicd/message/TopicQueue", "equals", "(Ljava/lang/Object;)Z"⟩ : MethodName)) hown (mvT hZ w_37) (mvT hZ w_38) (notFace_of_selects (args := #[]) (mvT hZ w_40)) (mvT hZ w_40) (mvT hZ w_39) (by decide) (backOf (W := 0) (rm6_n l Z a0 hw [] b276 T308.heap n0 Z320 ) hZ w_41 w_28 (by decide) (by decide)) q332a q332c (g := (mkF m 192 #[.val (.int p0), .val (.int p1), .val (.int p2), .val (.int p3), .val (.int p4), .val (.int (((p0.toUInt32 >>> ((24 : Int32) &&& 31).toUInt32).toInt32) &&& (3 : Int32))), .val (.int (1 : Int32)), .val (.int p0), .val (.int (((p0.toUInt32 >>> ((24 : Int32) &&& 31).toUInt32).toInt32) &&& (3 : Int32))), .val (.int p2), .val (.int (((p4.toUInt32 >>> ((3 : Int32) &&& 31).toUInt32).toInt32) &&& (3 : Int32))), .val (.ref r267), .val (.ref r270), .val (.ref b276), .val (.ref b295), .val .null, .val (.int (0 : Int32))] [.null, (.ref b276)])) rfl (by rw [hml]; rfl) (Steps.refl _) (argsL := [.null]) (rest := []) (lenOf pd_5 rfl) rfl (by show 2 * 0 + _ ≤ _; exact Nat.le_of_eq rfl) (hb hby at_192) (fun _ _ => ⟨rfl, rfl, (by decide : 10 + 0 ≤ _), (by decide : 24 + 0 ≤ _)⟩)
          dsimp only [Pt.U, Pt.locs, Pt.cells, Pt.slots] at X332 l332 y332 z332 st332 hQ332
          rw [l332, y332, z332] at X332
          obtain ⟨N332, eh332, hR332⟩ := hQ332
          have NA332 := Fr.app NA308 N332
          obtain rfl := hR332
          refine GoesW.back st332 ?_
          show GoesW _ _ _ _ _ _ _ (T332.setTop (mkF m 195 _ [(.int (0 : Int32))]))
          refine GoesW.step (fun _ k => XS.iload X332.here hx rfl (hb hby at_195) rfl  k) ?_
          refine GoesW.step (fun _ k => XS.icmpYes X332.here hx rfl (pc0 := 197) (pc' := 202) rfl (hb hby at_197) rfl (teq (by decide : (0 : Int32) = (0 : Int32))).1 (by decide) (by decide) k) ?_
          show GoesW _ _ _ _ _ _ _ (T332.setTop (mkF m 202 _ []))
          refine GoesW.step (fun _ k => XS.iload X332.here hx rfl (hb hby at_202) rfl  k) ?_
          refine GoesW.step (fun _ k => XS.ifYes X332.here hx rfl (pc0 := 204) (pc' := 221) rfl (hb hby at_204) rfl ((if0 _ _).trans (feq c118_321).2) (by decide) (by decide) k) ?_
          show GoesW _ _ _ _ _ _ _ (T332.setTop (mkF m 221 _ []))
          refine GoesW.step (fun _ k => XS.aload X332.here hx rfl (hb hby at_221) rfl rfl k) ?_
          refine GoesW.step (fun _ k => XS.aload X332.here hx rfl (hb hby at_223) rfl rfl k) ?_
          obtain ⟨cq333, kq333, q333a, q333b, q333c⟩ := isOf hZ eh332 f314
          obtain ⟨_, _, ⟨T333, L333, k333, n333⟩, -, X333, ⟨Lc333, hQ333, l333, y333, z333⟩, st333⟩ := X332.virtualBack hx (y := (⟨"com/example/topicd/topicd/message/TopicQueue", "equals", "(Ljava/lang/Object;)Z"⟩ : MethodName)) (z := (⟨"com/example/topicd/topicd/message/TopicQueue", "equals", "(Ljava/lang/Object;)Z"⟩ : MethodName)) hown (mvT hZ w_37) (mvT hZ w_38) (notFace_of_selects (args := #[]) (mvT hZ w_40)) (mvT hZ w_40) (mvT hZ w_39) (by decide) (backOf (W := 0) (rm6_b l Z a0 hw [] b276 b276 r267 r267 p2 p2 cs267 cs267 zC T308.heap n0 Z320 f315 f316 f315 f316 f314 f310 f310 S_CS P5 XO309) hZ w_41 w_28 (by decide) (by decide)) q333a q333c (g := (mkF m 225 #[.val (.int p0), .val (.int p1), .val (.int p2), .val (.int p3), .val (.int p4), .val (.int (((p0.toUInt32 >>> ((24 : Int32) &&& 31).toUInt32).toInt32) &&& (3 : Int32))), .val (.int (1 : Int32)), .val (.int p0), .val (.int (((p0.toUInt32 >>> ((24 : Int32) &&& 31).toUInt32).toInt32) &&& (3 : Int32))), .val (.int p2), .val (.int (((p4.toUInt32 >>> ((3 : Int32) &&& 31).toUInt32).toInt32) &&& (3 : Int32))), .val (.ref r267), .val (.ref r270), .val (.ref b276), .val (.ref b295), .val .null, .val (.int (0 : Int32))] [(.ref b276), (.ref b276)])) rfl (by rw [hml]; rfl) (Steps.refl _) (argsL := [(.ref b276)]) (rest := []) (lenOf pd_5 rfl) rfl (by show 2 * 0 + _ ≤ _; exact Nat.le_of_eq rfl) (hb hby at_225) (fun _ _ => ⟨rfl, eh332, (by decide : 10 + 0 ≤ _), (by decide : 24 + 0 ≤ _)⟩)
          dsimp only [Pt.U, Pt.locs, Pt.cells, Pt.slots] at X333 l333 y333 z333 st333 hQ333
          rw [l333, y333, z333] at X333
          obtain ⟨N333, eh333, hR333⟩ := hQ333
          have NA333 := Fr.app NA332 N333
          rcases hR333 with ⟨rfl, u333, uu333⟩ | ⟨rfl, u333⟩
          · refine GoesW.back st333 ?_
            show GoesW _ _ _ _ _ _ _ (T333.setTop (mkF m 228 _ [(.int (1 : Int32))]))
            exact GoesW.ret1 X333 hS270 (by rw [eh333]; exact ZS320) hx (BodyLoose.notSynchronized Bd) Bd.returns rfl (Or.inl ⟨rfl, by simp, _, rfl⟩) (hb hby at_228) (by show Q0 Z p0 p1 p2 p3 p4 zC ca cc h0 n0 (some (.int (1 : Int32))) T333.vm T333.heap _; rw [eh333]; exact ⟨rfl, NA333⟩) (by decide) (by decide)
          · exact absurd ⟨(rfl : p2 = p2), (rfl : cs267 = cs267)⟩ u333
        · refine GoesW.step (fun _ k => XS.icmpYes X308.here hx rfl (pc0 := 131) (pc' := 140) rfl (hb hby at_131) rfl (feq c131_331).2 (by decide) (by decide) k) ?_
          show GoesW _ _ _ _ _ _ _ (T308.setTop (mkF m 140 _ []))
          refine GoesW.step (fun _ k => XS.iload X308.here hx rfl (hb hby at_140) rfl  k) ?_
          refine GoesW.step (fun _ k => XS.iconst X308.here hx rfl (hb hby at_142) k) ?_
          by_cases c143_334 : (((p4.toUInt32 >>> ((3 : Int32) &&& 31).toUInt32).toInt32) &&& (3 : Int32)) = (2 : Int32)
          · refine GoesW.step (fun _ k => XS.icmpNo X308.here hx rfl (hb hby at_143) rfl (teq c143_334).2 k) ?_
            show GoesW _ _ _ _ _ _ _ (T308.setTop (mkF m 146 _ []))
            refine GoesW.step (fun _ k => XS.aload X308.here hx rfl (hb hby at_146) rfl rfl k) ?_
            refine GoesW.step (fun _ k => XS.astore X308.here hx rfl (hb hby at_148) rfl rfl (l' := #[.val (.int p0), .val (.int p1), .val (.int p2), .val (.int p3), .val (.int p4), .val (.int (((p0.toUInt32 >>> ((24 : Int32) &&& 31).toUInt32).toInt32) &&& (3 : Int32))), .val (.int (1 : Int32)), .val (.int p0), .val (.int (((p0.toUInt32 >>> ((24 : Int32) &&& 31).toUInt32).toInt32) &&& (3 : Int32))), .val (.int p2), .val (.int (((p4.toUInt32 >>> ((3 : Int32) &&& 31).toUInt32).toInt32) &&& (3 : Int32))), .val (.ref r267), .val (.ref r270), .val (.ref b276), .val (.ref b295), .val (.ref r270), .unset]) rfl k) ?_
            show GoesW _ _ _ _ _ _ _ (T308.setTop (mkF m 150 _ []))
            refine GoesW.step (fun _ k => XS.goto X308.here hx rfl (pc0 := 150) (pc' := 160) rfl (hb hby at_150) (by decide) (by decide) k) ?_
            show GoesW _ _ _ _ _ _ _ (T308.setTop (mkF m 160 #[.val (.int p0), .val (.int p1), .val (.int p2), .val (.int p3), .val (.int p4), .val (.int (((p0.toUInt32 >>> ((24 : Int32) &&& 31).toUInt32).toInt32) &&& (3 : Int32))), .val (.int (1 : Int32)), .val (.int p0), .val (.int (((p0.toUInt32 >>> ((24 : Int32) &&& 31).toUInt32).toInt32) &&& (3 : Int32))), .val (.int p2), .val (.int (((p4.toUInt32 >>> ((3 : Int32) &&& 31).toUInt32).toInt32) &&& (3 : Int32))), .val (.ref r267), .val (.ref r270), .val (.ref b276), .val (.ref b295), .val (.ref r270), .unset] []))
            refine GoesW.step (fun _ k => XS.iload X308.here hx rfl (hb hby at_160) rfl  k) ?_
            refine GoesW.step (fun _ k => XS.ifYes X308.here hx rfl (pc0 := 162) (pc' := 185) rfl (hb hby at_162) rfl ((if0 _ _).trans (feq c118_321).2) (by decide) (by decide) k) ?_
            show GoesW _ _ _ _ _ _ _ (T308.setTop (mkF m 185 _ []))
            refine GoesW.step (fun _ k => XS.iconst X308.here hx rfl (hb hby at_185) k) ?_
            refine GoesW.step (fun _ k => XS.istore X308.here hx rfl (hb hby at_186) rfl (l' := #[.val (.int p0), .val (.int p1), .val (.int p2), .val (.int p3), .val (.int p4), .val (.int (((p0.toUInt32 >>> ((24 : Int32) &&& 31).toUInt32).toInt32) &&& (3 : Int32))), .val (.int (1 : Int32)), .val (.int p0), .val (.int (((p0.toUInt32 >>> ((24 : Int32) &&& 31).toUInt32).toInt32) &&& (3 : Int32))), .val (.int p2), .val (.int (((p4.toUInt32 >>> ((3 : Int32) &&& 31).toUInt32).toInt32) &&& (3 : Int32))), .val (.ref r267), .val (.ref r270), .val (.ref b276), .val (.ref b295), .val (.ref r270), .val (.int (0 : Int32))]) rfl k) ?_
            show GoesW _ _ _ _ _ _ _ (T308.setTop (mkF m 188 _ []))
            refine GoesW.step (fun _ k => XS.aload X308.here hx rfl (hb hby at_188) rfl rfl k) ?_
            refine GoesW.step (fun _ k => XS.aload X308.here hx rfl (hb hby at_190) rfl rfl k) ?_
            obtain ⟨cq335, kq335, q335a, q335b, q335c⟩ := isOf hZ rfl f314
            obtain ⟨_, _, ⟨T335, L335, k335, n335⟩, -, X335, ⟨Lc335, hQ335, l335, y335, z335⟩, st335⟩ := X308.virtualBack hx (y := (⟨"com/example/topicd/topicd/message/TopicQueue", "equals", "(Ljava/lang/Object;)Z"⟩ : MethodName)) (z := (⟨"com/example/topicd/topicd/message/TopicQueue", "equals", "(Ljava/lang/Object;)Z"⟩ : MethodName)) hown (mvT hZ w_37) (mvT hZ w_38) (notFace_of_selects (args := #[]) (mvT hZ w_40)) (mvT hZ w_40) (mvT hZ w_39) (by decide) (backOf (W := 0) (rm6_s l Z a0 hw [] b276 r270 T308.heap n0 Z320 f313) hZ w_41 w_28 (by decide) (by decide)) q335a q335c (g := (mkF m 192 #[.val (.int p0), .val (.int p1), .val (.int p2), .val (.int p3), .val (.int p4), .val (.int (((p0.toUInt32 >>> ((24 : Int32) &&& 31).toUInt32).toInt32) &&& (3 : Int32))), .val (.int (1 : Int32)), .val (.int p0), .val (.int (((p0.toUInt32 >>> ((24 : Int32) &&& 31).toUInt32).toInt32) &&& (3 : Int32))), .val (.int p2), .val (.int (((p4.toUInt32 >>> ((3 : Int32) &&& 31).toUInt32).toInt32) &&& (3 : Int32))), .val (.ref r267), .val (.ref r270), .val (.ref b276), .val (.ref b295), .val (.ref r270), .val (.int (0 : Int32))] [(.ref r270), (.ref b276)])) rfl (by rw [hml]; rfl) (Steps.refl _) (argsL := [(.ref r270)]) (rest := []) (lenOf pd_5 rfl) rfl (by show 2 * 0 + _ ≤ _; exact Nat.le_of_eq rfl) (hb hby at_192) (fun _ _ => ⟨rfl, rfl, (by decide : 10 + 0 ≤ _), (by decide : 24 + 0 ≤ _)⟩)
            dsimp only [Pt.U, Pt.locs, Pt.cells, Pt.slots] at X335 l335 y335 z335 st335 hQ335
            rw [l335, y335, z335] at X335
            obtain ⟨N335, eh335, hR335⟩ := hQ335
            have NA335 := Fr.app NA308 N335
            obtain rfl := hR335
            refine GoesW.back st335 ?_
            show GoesW _ _ _ _ _ _ _ (T335.setTop (mkF m 195 _ [(.int (0 : Int32))]))
            refine GoesW.step (fun _ k => XS.iload X335.here hx rfl (hb hby at_195) rfl  k) ?_
            refine GoesW.step (fun _ k => XS.icmpYes X335.here hx rfl (pc0 := 197) (pc' := 202) rfl (hb hby at_197) rfl (teq (by decide : (0 : Int32) = (0 : Int32))).1 (by decide) (by decide) k) ?_
            show GoesW _ _ _ _ _ _ _ (T335.setTop (mkF m 202 _ []))
            refine GoesW.step (fun _ k => XS.iload X335.here hx rfl (hb hby at_202) rfl  k) ?_
            refine GoesW.step (fun _ k => XS.ifYes X335.here hx rfl (pc0 := 204) (pc' := 221) rfl (hb hby at_204) rfl ((if0 _ _).trans (feq c118_321).2) (by decide) (by decide) k) ?_
            show GoesW _ _ _ _ _ _ _ (T335.setTop (mkF m 221 _ []))
            refine GoesW.step (fun _ k => XS.aload X335.here hx rfl (hb hby at_221) rfl rfl k) ?_
            refine GoesW.step (fun _ k => XS.aload X335.here hx rfl (hb hby at_223) rfl rfl k) ?_
            obtain ⟨cq336, kq336, q336a, q336b, q336c⟩ := isOf hZ eh335 f314
            obtain ⟨_, _, ⟨T336, L336, k336, n336⟩, -, X336, ⟨Lc336, hQ336, l336, y336, z336⟩, st336⟩ := X335.virtualBack hx (y := (⟨"com/example/topicd/topicd/message/TopicQueue", "equals", "(Ljava/lang/Object;)Z"⟩ : MethodName)) (z := (⟨"com/example/topicd/topicd/message/TopicQueue", "equals", "(Ljava/lang/Object;)Z"⟩ : MethodName)) hown (mvT hZ w_37) (mvT hZ w_38) (notFace_of_selects (args := #[]) (mvT hZ w_40)) (mvT hZ w_40) (mvT hZ w_39) (by decide) (backOf (W := 0) (rm6_b l Z a0 hw [] b276 b276 r267 r267 p2 p2 cs267 cs267 zC T308.heap n0 Z320 f315 f316 f315 f316 f314 f310 f310 S_CS P5 XO309) hZ w_41 w_28 (by decide) (by decide)) q336a q336c (g := (mkF m 225 #[.val (.int p0), .val (.int p1), .val (.int p2), .val (.int p3), .val (.int p4), .val (.int (((p0.toUInt32 >>> ((24 : Int32) &&& 31).toUInt32).toInt32) &&& (3 : Int32))), .val (.int (1 : Int32)), .val (.int p0), .val (.int (((p0.toUInt32 >>> ((24 : Int32) &&& 31).toUInt32).toInt32) &&& (3 : Int32))), .val (.int p2), .val (.int (((p4.toUInt32 >>> ((3 : Int32) &&& 31).toUInt32).toInt32) &&& (3 : Int32))), .val (.ref r267), .val (.ref r270), .val (.ref b276), .val (.ref b295), .val (.ref r270), .val (.int (0 : Int32))] [(.ref b276), (.ref b276)])) rfl (by rw [hml]; rfl) (Steps.refl _) (argsL := [(.ref b276)]) (rest := []) (lenOf pd_5 rfl) rfl (by show 2 * 0 + _ ≤ _; exact Nat.le_of_eq rfl) (hb hby at_225) (fun _ _ => ⟨rfl, eh335, (by decide : 10 + 0 ≤ _), (by decide : 24 + 0 ≤ _)⟩)
            dsimp only [Pt.U, Pt.locs, Pt.cells, Pt.slots] at X336 l336 y336 z336 st336 hQ336
            rw [l336, y336, z336] at X336
            obtain ⟨N336, eh336, hR336⟩ := hQ336
            have NA336 := Fr.app NA335 N336
            rcases hR336 with ⟨rfl, u336, uu336⟩ | ⟨rfl, u336⟩
            · refine GoesW.back st336 ?_
              show GoesW _ _ _ _ _ _ _ (T336.setTop (mkF m 228 _ [(.int (1 : Int32))]))
              exact GoesW.ret1 X336 hS270 (by rw [eh336]; exact ZS320) hx (BodyLoose.notSynchronized Bd) Bd.returns rfl (Or.inl ⟨rfl, by simp, _, rfl⟩) (hb hby at_228) (by show Q0 Z p0 p1 p2 p3 p4 zC ca cc h0 n0 (some (.int (1 : Int32))) T336.vm T336.heap _; rw [eh336]; exact ⟨rfl, NA336⟩) (by decide) (by decide)
            · exact absurd ⟨(rfl : p2 = p2), (rfl : cs267 = cs267)⟩ u336
          · refine GoesW.step (fun _ k => XS.icmpYes X308.here hx rfl (pc0 := 143) (pc' := 153) rfl (hb hby at_143) rfl (feq c143_334).2 (by decide) (by decide) k) ?_
            show GoesW _ _ _ _ _ _ _ (T308.setTop (mkF m 153 _ []))
            refine GoesW.step (fun _ k => XS.iload X308.here hx rfl (hb hby at_153) rfl  k) ?_
            obtain ⟨_, _, ⟨T337, L337, k337, n337⟩, -, X337, ⟨Lc337, hQ337, l337, y337, z337⟩, st337⟩ := Jvm.LawKit.callS X308 hx (y := (⟨"java/lang/Integer", "valueOf", "(I)Ljava/lang/Integer;"⟩ : MethodName)) hown (mvT hZ w_66) (mvT hZ w_67) (mvT hZ w_68) (mvT hZ w_69) (by decide) (backOf (W := 0) (rm12 l Z a0 hw [] p2 ca cc T308.heap n0 Z320 (S_high.ext XO309.2) (S_cache.ext XO309.2) BX XO309) hZ w_69 w_68 (by decide) (by decide)) (g := (mkF m 155 #[.val (.int p0), .val (.int p1), .val (.int p2), .val (.int p3), .val (.int p4), .val (.int (((p0.toUInt32 >>> ((24 : Int32) &&& 31).toUInt32).toInt32) &&& (3 : Int32))), .val (.int (1 : Int32)), .val (.int p0), .val (.int (((p0.toUInt32 >>> ((24 : Int32) &&& 31).toUInt32).toInt32) &&& (3 : Int32))), .val (.int p2), .val (.int (((p4.toUInt32 >>> ((3 : Int32) &&& 31).toUInt32).toInt32) &&& (3 : Int32))), .val (.ref r267), .val (.ref r270), .val (.ref b276), .val (.ref b295), .unset, .unset] [(.int p2)])) rfl (by rw [hml]; rfl) (argsL := [(.int p2)]) (rest := []) (lenOf pd_10 rfl) rfl (by show 2 * 0 + _ ≤ _; exact Nat.le_of_eq rfl) (hb hby at_155) (fun _ _ => ⟨rfl, rfl, (by decide : 10 + 1 ≤ _), (by decide : 24 + 1 ≤ _)⟩)
            dsimp only [Pt.U, Pt.locs, Pt.cells, Pt.slots] at X337 l337 y337 z337 st337 hQ337
            rw [l337, y337, z337] at X337
            obtain ⟨N337, KK337, r337, rfl, ex337, v337_0⟩ := hQ337
            have NA337 := Fr.app NA308 N337
            have XO338 : Old Z n0 T337.heap := XO309.keep KK337 all0
            have f339 := f310.keep0 KK337
            have f340 := f311.keep KK337
            have f341 := f312.keep0 KK337
            have f342 := f313.keep KK337
            have f343 := f314.keep KK337
            have f344 := f315.keep KK337 nin0
            have f345 := f316.keep KK337 nin0
            have f346 := v308_0_2.keep KK337
            have f347 := v308_0_0.keep KK337 nin0
            have f348 := v308_0_1.keep KK337 nin0
            have K349 : Keep h0 T337.heap [] := K320.trans KK337 all0
            have Z349 : n0 ≤ T337.heap.size := Nat.le_trans Z320 KK337.1
            have ZS349 : T270.heap.size ≤ T337.heap.size := Nat.le_trans ZS320 KK337.1
            refine GoesW.step st337 ?_
            show GoesW _ _ _ _ _ _ _ (T337.setTop (mkF m 158 _ [(.ref r337)]))
            refine GoesW.step (fun _ k => XS.astore X337.here hx rfl (hb hby at_158) rfl rfl (l' := #[.val (.int p0), .val (.int p1), .val (.int p2), .val (.int p3), .val (.int p4), .val (.int (((p0.toUInt32 >>> ((24 : Int32) &&& 31).toUInt32).toInt32) &&& (3 : Int32))), .val (.int (1 : Int32)), .val (.int p0), .val (.int (((p0.toUInt32 >>> ((24 : Int32) &&& 31).toUInt32).toInt32) &&& (3 : Int32))), .val (.int p2), .val (.int (((p4.toUInt32 >>> ((3 : Int32) &&& 31).toUInt32).toInt32) &&& (3 : Int32))), .val (.ref r267), .val (.ref r270), .val (.ref b276), .val (.ref b295), .val (.ref r337), .unset]) rfl k) ?_
            show GoesW _ _ _ _ _ _ _ (T337.setTop (mkF m 160 #[.val (.int p0), .val (.int p1), .val (.int p2), .val (.int p3), .val (.int p4), .val (.int (((p0.toUInt32 >>> ((24 : Int32) &&& 31).toUInt32).toInt32) &&& (3 : Int32))), .val (.int (1 : Int32)), .val (.int p0), .val (.int (((p0.toUInt32 >>> ((24 : Int32) &&& 31).toUInt32).toInt32) &&& (3 : Int32))), .val (.int p2), .val (.int (((p4.toUInt32 >>> ((3 : Int32) &&& 31).toUInt32).toInt32) &&& (3 : Int32))), .val (.ref r267), .val (.ref r270), .val (.ref b276), .val (.ref b295), .val (.ref r337), .unset] []))
            refine GoesW.step (fun _ k => XS.iload X337.here hx rfl (hb hby at_160) rfl  k) ?_
            refine GoesW.step (fun _ k => XS.ifYes X337.here hx rfl (pc0 := 162) (pc' := 185) rfl (hb hby at_162) rfl ((if0 _ _).trans (feq c118_321).2) (by decide) (by decide) k) ?_
            show GoesW _ _ _ _ _ _ _ (T337.setTop (mkF m 185 _ []))
            refine GoesW.step (fun _ k => XS.iconst X337.here hx rfl (hb hby at_185) k) ?_
            refine GoesW.step (fun _ k => XS.istore X337.here hx rfl (hb hby at_186) rfl (l' := #[.val (.int p0), .val (.int p1), .val (.int p2), .val (.int p3), .val (.int p4), .val (.int (((p0.toUInt32 >>> ((24 : Int32) &&& 31).toUInt32).toInt32) &&& (3 : Int32))), .val (.int (1 : Int32)), .val (.int p0), .val (.int (((p0.toUInt32 >>> ((24 : Int32) &&& 31).toUInt32).toInt32) &&& (3 : Int32))), .val (.int p2), .val (.int (((p4.toUInt32 >>> ((3 : Int32) &&& 31).toUInt32).toInt32) &&& (3 : Int32))), .val (.ref r267), .val (.ref r270), .val (.ref b276), .val (.ref b295), .val (.ref r337), .val (.int (0 : Int32))]) rfl k) ?_
            show GoesW _ _ _ _ _ _ _ (T337.setTop (mkF m 188 _ []))
            refine GoesW.step (fun _ k => XS.aload X337.here hx rfl (hb hby at_188) rfl rfl k) ?_
            refine GoesW.step (fun _ k => XS.aload X337.here hx rfl (hb hby at_190) rfl rfl k) ?_
            obtain ⟨cq350, kq350, q350a, q350b, q350c⟩ := isOf hZ rfl f343
            obtain ⟨_, _, ⟨T350, L350, k350, n350⟩, -, X350, ⟨Lc350, hQ350, l350, y350, z350⟩, st350⟩ := X337.virtualBack hx (y := (⟨"com/example/topicd/topicd/message/TopicQueue", "equals", "(Ljava/lang/Object;)Z"⟩ : MethodName)) (z := (⟨"com/example/topicd/topicd/message/TopicQueue", "equals", "(Ljava/lang/Object;)Z"⟩ : MethodName)) hown (mvT hZ w_37) (mvT hZ w_38) (notFace_of_selects (args := #[]) (mvT hZ w_40)) (mvT hZ w_40) (mvT hZ w_39) (by decide) (backOf (W := 0) (rm6_i l Z a0 hw [] b276 r337 T337.heap n0 Z349 ex337) hZ w_41 w_28 (by decide) (by decide)) q350a q350c (g := (mkF m 192 #[.val (.int p0), .val (.int p1), .val (.int p2), .val (.int p3), .val (.int p4), .val (.int (((p0.toUInt32 >>> ((24 : Int32) &&& 31).toUInt32).toInt32) &&& (3 : Int32))), .val (.int (1 : Int32)), .val (.int p0), .val (.int (((p0.toUInt32 >>> ((24 : Int32) &&& 31).toUInt32).toInt32) &&& (3 : Int32))), .val (.int p2), .val (.int (((p4.toUInt32 >>> ((3 : Int32) &&& 31).toUInt32).toInt32) &&& (3 : Int32))), .val (.ref r267), .val (.ref r270), .val (.ref b276), .val (.ref b295), .val (.ref r337), .val (.int (0 : Int32))] [(.ref r337), (.ref b276)])) rfl (by rw [hml]; rfl) (Steps.refl _) (argsL := [(.ref r337)]) (rest := []) (lenOf pd_5 rfl) rfl (by show 2 * 0 + _ ≤ _; exact Nat.le_of_eq rfl) (hb hby at_192) (fun _ _ => ⟨rfl, rfl, (by decide : 11 + 0 ≤ _), (by decide : 25 + 0 ≤ _)⟩)
            dsimp only [Pt.U, Pt.locs, Pt.cells, Pt.slots] at X350 l350 y350 z350 st350 hQ350
            rw [l350, y350, z350] at X350
            obtain ⟨N350, eh350, hR350⟩ := hQ350
            have NA350 := Fr.app NA337 N350
            obtain rfl := hR350
            refine GoesW.back st350 ?_
            show GoesW _ _ _ _ _ _ _ (T350.setTop (mkF m 195 _ [(.int (0 : Int32))]))
            refine GoesW.step (fun _ k => XS.iload X350.here hx rfl (hb hby at_195) rfl  k) ?_
            refine GoesW.step (fun _ k => XS.icmpYes X350.here hx rfl (pc0 := 197) (pc' := 202) rfl (hb hby at_197) rfl (teq (by decide : (0 : Int32) = (0 : Int32))).1 (by decide) (by decide) k) ?_
            show GoesW _ _ _ _ _ _ _ (T350.setTop (mkF m 202 _ []))
            refine GoesW.step (fun _ k => XS.iload X350.here hx rfl (hb hby at_202) rfl  k) ?_
            refine GoesW.step (fun _ k => XS.ifYes X350.here hx rfl (pc0 := 204) (pc' := 221) rfl (hb hby at_204) rfl ((if0 _ _).trans (feq c118_321).2) (by decide) (by decide) k) ?_
            show GoesW _ _ _ _ _ _ _ (T350.setTop (mkF m 221 _ []))
            refine GoesW.step (fun _ k => XS.aload X350.here hx rfl (hb hby at_221) rfl rfl k) ?_
            refine GoesW.step (fun _ k => XS.aload X350.here hx rfl (hb hby at_223) rfl rfl k) ?_
            obtain ⟨cq351, kq351, q351a, q351b, q351c⟩ := isOf hZ eh350 f343
            obtain ⟨_, _, ⟨T351, L351, k351, n351⟩, -, X351, ⟨Lc351, hQ351, l351, y351, z351⟩, st351⟩ := X350.virtualBack hx (y := (⟨"com/example/topicd/topicd/message/TopicQueue", "equals", "(Ljava/lang/Object;)Z"⟩ : MethodName)) (z := (⟨"com/example/topicd/topicd/message/TopicQueue", "equals", "(Ljava/lang/Object;)Z"⟩ : MethodName)) hown (mvT hZ w_37) (mvT hZ w_38) (notFace_of_selects (args := #[]) (mvT hZ w_40)) (mvT hZ w_40) (mvT hZ w_39) (by decide) (backOf (W := 0) (rm6_b l Z a0 hw [] b276 b276 r267 r267 p2 p2 cs267 cs267 zC T337.heap n0 Z349 f344 f345 f344 f345 f343 f339 f339 S_CS P5 XO338) hZ w_41 w_28 (by decide) (by decide)) q351a q351c (g := (mkF m 225 #[.val (.int p0), .val (.int p1), .val (.int p2), .val (.int p3), .val (.int p4), .val (.int (((p0.toUInt32 >>> ((24 : Int32) &&& 31).toUInt32).toInt32) &&& (3 : Int32))), .val (.int (1 : Int32)), .val (.int p0), .val (.int (((p0.toUInt32 >>> ((24 : Int32) &&& 31).toUInt32).toInt32) &&& (3 : Int32))), .val (.int p2), .val (.int (((p4.toUInt32 >>> ((3 : Int32) &&& 31).toUInt32).toInt32) &&& (3 : Int32))), .val (.ref r267), .val (.ref r270), .val (.ref b276), .val (.ref b295), .val (.ref r337), .val (.int (0 : Int32))] [(.ref b276), (.ref b276)])) rfl (by rw [hml]; rfl) (Steps.refl _) (argsL := [(.ref b276)]) (rest := []) (lenOf pd_5 rfl) rfl (by show 2 * 0 + _ ≤ _; exact Nat.le_of_eq rfl) (hb hby at_225) (fun _ _ => ⟨rfl, eh350, (by decide : 11 + 0 ≤ _), (by decide : 25 + 0 ≤ _)⟩)
            dsimp only [Pt.U, Pt.locs, Pt.cells, Pt.slots] at X351 l351 y351 z351 st351 hQ351
            rw [l351, y351, z351] at X351
            obtain ⟨N351, eh351, hR351⟩ := hQ351
            have NA351 := Fr.app NA350 N351
            rcases hR351 with ⟨rfl, u351, uu351⟩ | ⟨rfl, u351⟩
            · refine GoesW.back st351 ?_
              show GoesW _ _ _ _ _ _ _ (T351.setTop (mkF m 228 _ [(.int (1 : Int32))]))
              exact GoesW.ret1 X351 hS270 (by rw [eh351]; exact ZS349) hx (BodyLoose.notSynchronized Bd) Bd.returns rfl (Or.inl ⟨rfl, by simp, _, rfl⟩) (hb hby at_228) (by show Q0 Z p0 p1 p2 p3 p4 zC ca cc h0 n0 (some (.int (1 : Int32))) T351.vm T351.heap _; rw [eh351]; exact ⟨rfl, NA351⟩) (by decide) (by decide)
            · exact absurd ⟨(rfl : p2 = p2), (rfl : cs267 = cs267)⟩ u351
set_option maxRecDepth 65536 in
set_option maxHeartbeats 40000000 in
theorem comes_1 {Post : Tables → Env → Array Value → State → Outcome → State → Prop} (hpost : ∀ tb e args s v u, (limb_1_1.after args s (.returned v) u = true ∧ limb_1_2.after args s (.returned v) u = true ∧ True) → ReturnedEndW s (.returned v) u (Jvm.fieldLocs frame_1_writes args s ++ Jvm.arrayLocs frame_1_arrays args s ++ Jvm.staticLocs frame_1_statics s) 32 1152 → Post tb e args s (.returned v) u) :
    ArmFor flags0 classFile x code maxLocals ret World_1 tables_1 room_1 Calls_1 rest_1 Pre_1 Post := by
  intro l hfl _ _ p e ha hc hk s m args below hf hA hF happ hP
  obtain ⟨hcalls, hrest, hpre⟩ := hP
  obtain ⟨-, -, -, hnamed, -, -, -, hat⟩ := (Spec.applies_iff hf).mp happ
  obtain ⟨hg, hn⟩ := and_e (Cond.before_iff.mp (show (Jvm.Cond.and given_1 narrow_1).before args s = true from hpre))
  obtain ⟨gg1, gg2⟩ := and_e hg
  obtain ⟨gg3, gg4⟩ := and_e gg2
  obtain ⟨gg5, gg6⟩ := and_e gg4
  obtain ⟨gg7, gg8⟩ := and_e gg6
  obtain ⟨gg9, gg10⟩ := and_e gg8
  obtain ⟨w0, w1, w2, w3, w4, rfl⟩ : ∃ w0 w1 w2 w3 w4 : Value, args = #[w0, w1, w2, w3, w4] := by
    have hs : args.size = 5 := by simpa [Cond.value, given_1] using gg1
    obtain ⟨L⟩ := args
    match L, hs with
    | [w0, w1, w2, w3, w4], _ => exact ⟨w0, w1, w2, w3, w4, rfl⟩
  have hw := fun d (hd : d ∈ tables_1) => atoms_spec (ws := Jvm.Cond.code x code maxLocals ret :: tables_1) hat d (List.mem_cons_of_mem _ hd)
  have hfit : Fit s := fun {y c} hc i hi => by
    obtain ⟨ha, rfl⟩ := Array.getElem?_eq_some_iff.mp hc
    have q := List.all_eq_true.mp ((Array.all_eq_true_iff_forall_mem.mp hF) _ (Array.getElem_mem ha)) i (List.mem_range.mpr hi)
    simpa [Array.getElem?_eq_getElem hi] using q
  obtain ⟨hsets, hown0⟩ := atoms_of _ (rest_1_c_eq ▸ (show rest_1_c.before _ s = true from hrest))
  have hr0 := Cond.before_iff.mp hown0
  obtain ⟨i0, ei0⟩ := is_v gg3
  obtain rfl : w0 = (.int i0) := Option.some.inj ei0
  obtain ⟨i1, ei1⟩ := is_v gg5
  obtain rfl : w1 = (.int i1) := Option.some.inj ei1
  obtain ⟨i2, ei2⟩ := is_v gg7
  obtain rfl : w2 = (.int i2) := Option.some.inj ei2
  obtain ⟨i3, ei3⟩ := is_v gg9
  obtain rfl : w3 = (.int i3) := Option.some.inj ei3
  obtain ⟨i4, ei4⟩ := is_v gg10
  obtain rfl : w4 = (.int i4) := Option.some.inj ei4
  have sn := not_v (Cond.before_iff.mp (hsets _ (List.mem_of_getElem? (i := 0 + 2) rfl)))
  obtain ⟨zC, sC⟩ := is_v (Cond.before_iff.mp (hsets _ (List.mem_of_getElem? (i := 0 + 1) rfl)))
  have S_COMPACT_STRINGS : Sta s s.heap "java/lang/String" "COMPACT_STRINGS" "Z" (.int zC) := Sta.start sC (Or.inl (hsets _ (List.mem_of_getElem? (i := 0) rfl)))
  have P5 : ¬ (zC = (0 : Int32)) := gotF (Cond.eq_ints sC (Term.int_eval (0))) sn
  have S_high := Sta.start (own_eqInt (Cond.before_iff.mp (hsets _ (List.mem_of_getElem? (i := 12) rfl)))) (Or.inl (hsets _ (List.mem_of_getElem? (i := 10) rfl)))
  have jar := Cond.before_iff.mp (hsets _ (List.mem_of_getElem? (i := 13) rfl))
  obtain ⟨ca, eca⟩ := arr_v jar
  have S_cache := Sta.start eca (Or.inr ⟨(hw _ (List.mem_of_getElem? (i := 89) rfl)), (hsets _ (List.mem_of_getElem? (i := 11) rfl))⟩)
  obtain ⟨cc, Acc⟩ := Arr.start eca jar
  have BX : Bxs s ca cc "java/lang/Integer" "I" (256 : Int32) (fun j => .int (j - (128 : Int32))) := own_bxs eca Acc (own_eqInt (Cond.before_iff.mp (hsets _ (List.mem_of_getElem? (i := 15) rfl)))) (Cond.before_iff.mp (hsets _ (List.mem_of_getElem? (i := 16) rfl)))
  have hheld : Jvm.Lit.constHeld s "java/lang/String" 7 := hcalls.1 ("java/lang/String", 7) (by simp [consts_1])
  have hcw : Jvm.Lit.compactW.before #[Value.int i0, Value.int i1, Value.int i2, Value.int i3, Value.int i4] s = true := hsets _ (List.mem_of_getElem? (i := 2) rfl)
  obtain ⟨n, o, h1, h2, h3, _, L, rfl, ⟨rfl, N⟩, hq⟩ := rm0 l s _ hw tables_1 i0 i1 i2 i3 i4 zC ca cc s.heap s.heap.size (Nat.le_refl _) S_COMPACT_STRINGS P5 S_high S_cache BX (Old.start s) hheld hcw p e ha hc hk s m _ below hf ((Spec.applies_iff_loose hf).mp happ).1 ⟨rfl, State.Warmed39.refl s, rfl, Or.inl IB.start⟩ trivial
  refine ⟨n, _, h1, h2, h3, hpost _ _ _ _ _ _ ⟨Cond.after_iff.mpr rfl, Cond.after_iff.mpr (eq_i res_at (Term.int_eval (1)) rfl), trivial⟩ ⟨hq.1, hq.2.1, hq.2.2.1, (hq.2.2.2.sift fun y hy => Or.inr (N y hy)).mono (by decide) (by decide)⟩⟩
theorem main_1_1 : Claimed_1_1 := comes_1 fun _ _ _ _ _ _ h hF => ⟨h.1, hF⟩
theorem main_1_2 : Claimed_1_2 := comes_1 fun _ _ _ _ _ _ h hF => ⟨h.2.1, hF⟩
end Jvm.Pilot.@@N@@
namespace Jvm.Pilot.@@N@@
open Jvm Jvm.ClassFile Sem Op Lib Jvm.Free Jvm.Stand Jvm.Pilot.@@N@@.Jvm.D
/-! MADE BY PROGRAM (witnessworld.py) out of the Statement's table words and the real class files: 24 classes; the members and pool entries that the words name. The judged class is class 1, her method 2. -/
namespace start1
open Jvm.ClassFile
def u (s : String) : CpInfo := .utf8 (stringToUtf16 s)
/-- a pool by its gaps: so many unusable entries, then the entry; so many at the end -/
def gap : Nat → List CpInfo → List CpInfo
  | 0, r => r
  | n + 1, r => .unusable :: gap n r
def poolList (es : List (Nat × CpInfo)) (last : Nat) : List CpInfo := es.foldr (fun e r => gap e.1 (e.2 :: r)) (gap last [])
def pool (es : List (Nat × CpInfo)) (last : Nat) : Array CpInfo := ⟨poolList es last⟩
def fileOf (pool : Array CpInfo) (this : Nat) (attrs : Array Attribute := #[]) (ms : Array MethodInfo := #[]) (fl : Nat := 33) (sup : Nat := 0) (ifs : Array Nat := #[]) (fds : Array FieldInfo := #[]) : ClassFile where
  minorVersion := 0
  majorVersion := 65
  constantPool := pool
  accessFlags := fl
  thisClass := this
  superClass := sup
  interfaces := ifs
  fields := fds
  methods := ms
  attributes := attrs
def plain (name : String) (sup : Option ClassId) : Class where
  name := name
  kind := .ordinary
  loader := none
  accessFlags := 33
  super := sup
  interfaces := #[]
  cf := none
  fields := #[]
  methods := #[]
  instanceTypes := #[]
  staticTypes := #[]
  resolved := #[]
  callSites := []
  init := .initialized
  statics := none
  mirror := none

def pool0 : Array CpInfo := pool [(5, u "<init>"), (0, u "()V"), (1, .class_ 10), (1, u "java/lang/Object")] 113

def k0c0 : Code := { maxStack := 0, maxLocals := 1, code := object_method_1_code, exceptionTable := #[], attributes := #[] }
def k0m0 : Method := { name := "<init>", desc := "()V", sig := { parameters := [], returnType := none }, accessFlags := 1, code := some k0c0 }
/-- java/lang/Object -/
def k0 : Class := { plain "java/lang/Object" none with
  accessFlags := 33
  interfaces := #[]
  cf := some (fileOf pool0 8 #[] #[{ accessFlags := 1, nameIndex := 5, descriptorIndex := 6, attributes := #[] }] 33 0 #[] #[])
  fields := #[]
  methods := #[k0m0]
  instanceTypes := #[]
  staticTypes := #[]
  resolved := Array.replicate 124 none
  statics := none }

def pool1 : Array CpInfo := pool [(2, .class_ 4), (1, u "java/lang/Object"), (0, u "<init>"), (0, u "()V"), (0, .class_ 8), (0, u "java/lang/String"), (0, .methodref 7 10), (0, .nameAndType 5 11), (0, u "([C)V"), (0, .methodref 13 14), (0, .class_ 15), (0, .nameAndType 16 17), (0, u "com/example/topicd/topicd/message/TopicQueueEqualsPinLaw"), (0, u "str"), (0, u "(II)Ljava/lang/String;"), (0, .class_ 19), (0, u "com/example/topicd/topicd/message/TopicQueue"), (0, .methodref 18 21), (0, .nameAndType 5 22), (0, u "(Ljava/lang/String;I)V"), (0, .methodref 24 25), (0, .class_ 26), (0, .nameAndType 27 28), (0, u "java/lang/Integer"), (0, u "valueOf"), (0, u "(I)Ljava/lang/Integer;"), (0, .methodref 7 30), (0, .nameAndType 31 32), (0, u "equals"), (0, u "(Ljava/lang/Object;)Z"), (0, .methodref 18 30), (3, u "law"), (0, u "(IIIII)Z")] 2

def k1m0 : Method := { name := "<init>", desc := "()V", sig := { parameters := [], returnType := none }, accessFlags := 1, code := none }
def k1c1 : Code := { maxStack := 6, maxLocals := 5, code := method_2_code, exceptionTable := #[], attributes := #[] }
def k1m1 : Method := { name := "str", desc := "(II)Ljava/lang/String;", sig := { parameters := [.int, .int], returnType := some (.object "java/lang/String") }, accessFlags := 10, code := some k1c1 }
def k1c2 : Code := { maxStack := 4, maxLocals := 17, code := code, exceptionTable := #[], attributes := #[] }
def k1m2 : Method := { name := "law", desc := "(IIIII)Z", sig := { parameters := [.int, .int, .int, .int, .int], returnType := some .boolean }, accessFlags := 9, code := some k1c2 }
/-- com/example/topicd/topicd/message/TopicQueueEqualsPinLaw -/
def k1 : Class := { plain "com/example/topicd/topicd/message/TopicQueueEqualsPinLaw" (some 0) with
  accessFlags := 49
  interfaces := #[]
  cf := some (fileOf pool1 13 #[] #[{ accessFlags := 1, nameIndex := 5, descriptorIndex := 6, attributes := #[] }, { accessFlags := 10, nameIndex := 16, descriptorIndex := 17, attributes := #[] }, { accessFlags := 9, nameIndex := 37, descriptorIndex := 38, attributes := #[] }] 49 2 #[] #[])
  fields := #[]
  methods := #[k1m0, k1m1, k1m2]
  instanceTypes := #[]
  staticTypes := #[]
  resolved := Array.replicate 41 none
  statics := none }

def pool2 : Array CpInfo := pool [(1, .class_ 2), (0, u "java/io/Serializable"), (0, .class_ 4), (0, u "java/lang/Object")] 2

/-- java/io/Serializable -/
def k2 : Class := { plain "java/io/Serializable" (some 0) with
  accessFlags := 1537
  interfaces := #[]
  cf := some (fileOf pool2 1 #[] #[] 1537 3 #[] #[])
  fields := #[]
  methods := #[]
  instanceTypes := #[]
  staticTypes := #[]
  resolved := Array.replicate 7 none
  statics := none }

def pool3 : Array CpInfo := pool [(1, .class_ 2), (0, u "java/lang/Comparable"), (0, .class_ 4), (0, u "java/lang/Object")] 7

/-- java/lang/Comparable -/
def k3 : Class := { plain "java/lang/Comparable" (some 0) with
  accessFlags := 1537
  interfaces := #[]
  cf := some (fileOf pool3 1 #[] #[] 1537 3 #[] #[])
  fields := #[]
  methods := #[]
  instanceTypes := #[]
  staticTypes := #[]
  resolved := Array.replicate 12 none
  statics := none }

def pool4 : Array CpInfo := pool [(2, .class_ 4), (1, u "java/lang/CharSequence"), (42, .class_ 48), (0, u "java/lang/CharSequence$1CodePointIterator"), (10, .class_ 60), (0, u "java/lang/CharSequence$1CharIterator"), (5, .class_ 67), (0, u "java/lang/Object")] 63

/-- java/lang/CharSequence -/
def k4 : Class := { plain "java/lang/CharSequence" (some 0) with
  accessFlags := 1537
  interfaces := #[]
  cf := some (fileOf pool4 2 #[.nestMembers #[47, 59]] #[] 1537 66 #[] #[])
  fields := #[]
  methods := #[]
  instanceTypes := #[]
  staticTypes := #[]
  resolved := Array.replicate 131 none
  statics := none }

def pool5 : Array CpInfo := pool [(1, .class_ 2), (0, u "java/lang/constant/Constable"), (0, .class_ 4), (0, u "java/lang/Object")] 6

/-- java/lang/constant/Constable -/
def k5 : Class := { plain "java/lang/constant/Constable" (some 0) with
  accessFlags := 1537
  interfaces := #[]
  cf := some (fileOf pool5 1 #[] #[] 1537 3 #[] #[])
  fields := #[]
  methods := #[]
  instanceTypes := #[]
  staticTypes := #[]
  resolved := Array.replicate 11 none
  statics := none }

def pool6 : Array CpInfo := pool [(1, .class_ 2), (0, u "java/lang/constant/ConstantDesc"), (0, .class_ 4), (0, u "java/lang/Object")] 32

/-- java/lang/constant/ConstantDesc -/
def k6 : Class := { plain "java/lang/constant/ConstantDesc" (some 0) with
  accessFlags := 1537
  interfaces := #[]
  cf := some (fileOf pool6 1 #[] #[] 1537 3 #[] #[])
  fields := #[]
  methods := #[]
  instanceTypes := #[]
  staticTypes := #[]
  resolved := Array.replicate 37 none
  statics := none }

def pool7 : Array CpInfo := pool [(1, .methodref 2 3), (0, .class_ 4), (0, .nameAndType 5 6), (0, u "java/lang/Object"), (0, u "<init>"), (0, u "()V"), (0, .string 8), (0, u ""), (0, .fieldref 10 11), (0, .class_ 12), (0, .nameAndType 13 14), (0, u "java/lang/String"), (0, u "value"), (0, u "[B"), (0, .fieldref 10 16), (0, .nameAndType 17 18), (0, u "coder"), (0, u "B"), (2, u "hash"), (0, u "I"), (2, u "hashIsZero"), (0, u "Z"), (0, .methodref 10 28), (0, .nameAndType 5 29), (0, u "([CIILjava/lang/Void;)V"), (8, .fieldref 10 39), (0, .nameAndType 40 26), (0, u "COMPACT_STRINGS"), (1, .class_ 44), (1, u "java/lang/StringUTF16"), (0, u "compress"), (1, .methodref 42 48), (0, .nameAndType 49 50), (0, u "coderFromArrayLen"), (0, u "([BI)B"), (56, .class_ 109), (1, u "java/lang/StringLatin1"), (67, .methodref 42 178), (0, .nameAndType 45 179), (0, u "([CII)[B"), (361, .methodref 107 542), (0, .nameAndType 543 544), (0, u "equals"), (0, u "([B[B)Z"), (28, u "(Ljava/lang/Object;)Z"), (1, .class_ 576), (0, u "java/lang/CharSequence"), (22, u "CASE_INSENSITIVE_ORDER"), (0, u "Ljava/util/Comparator;"), (409, u "([C)V"), (90, u "serialPersistentFields"), (0, u "[Ljava/io/ObjectStreamField;"), (0, .class_ 1104), (0, u "java/lang/String$CaseInsensitiveComparator"), (1, .class_ 1107), (0, u "java/io/Serializable"), (0, .class_ 1109), (0, u "java/lang/Comparable"), (0, .class_ 1111), (0, u "java/lang/constant/Constable"), (0, .class_ 1113), (0, u "java/lang/constant/ConstantDesc"), (2, u "serialVersionUID"), (0, u "J"), (3, u "REPL"), (0, u "C"), (2, u "LATIN1"), (1, u "UTF16")] 323

def k7m0 : Method := { name := "<init>", desc := "()V", sig := { parameters := [], returnType := none }, accessFlags := 1, code := none }
def k7c1 : Code := { maxStack := 5, maxLocals := 2, code := jdk_42_method_3_code, exceptionTable := #[], attributes := #[] }
def k7m1 : Method := { name := "<init>", desc := "([C)V", sig := { parameters := [(.array .char)], returnType := none }, accessFlags := 1, code := some k7c1 }
def k7c2 : Code := { maxStack := 2, maxLocals := 3, code := jdk_42_method_66_code, exceptionTable := #[], attributes := #[] }
def k7m2 : Method := { name := "equals", desc := "(Ljava/lang/Object;)Z", sig := { parameters := [(.object "java/lang/Object")], returnType := some .boolean }, accessFlags := 1, code := some k7c2 }
def k7c3 : Code := { maxStack := 4, maxLocals := 6, code := jdk_42_method_149_code, exceptionTable := #[], attributes := #[] }
def k7m3 : Method := { name := "<init>", desc := "([CIILjava/lang/Void;)V", sig := { parameters := [(.array .char), .int, .int, (.object "java/lang/Void")], returnType := none }, accessFlags := 2, code := some k7c3 }
/-- java/lang/String -/
def k7 : Class := { plain "java/lang/String" (some 0) with
  accessFlags := 49
  interfaces := #[2, 3, 4, 5, 6]
  cf := some (fileOf pool7 10 #[.nestMembers #[1103]] #[{ accessFlags := 1, nameIndex := 5, descriptorIndex := 6, attributes := #[] }, { accessFlags := 1, nameIndex := 5, descriptorIndex := 1010, attributes := #[] }, { accessFlags := 1, nameIndex := 543, descriptorIndex := 573, attributes := #[] }, { accessFlags := 2, nameIndex := 5, descriptorIndex := 29, attributes := #[] }] 49 2 #[1106, 1108, 575, 1110, 1112] #[{ accessFlags := 18, nameIndex := 13, descriptorIndex := 14, attributes := #[] }, { accessFlags := 18, nameIndex := 17, descriptorIndex := 18, attributes := #[] }, { accessFlags := 2, nameIndex := 21, descriptorIndex := 22, attributes := #[] }, { accessFlags := 2, nameIndex := 25, descriptorIndex := 26, attributes := #[] }, { accessFlags := 26, nameIndex := 1116, descriptorIndex := 1117, attributes := #[] }, { accessFlags := 24, nameIndex := 40, descriptorIndex := 26, attributes := #[] }, { accessFlags := 26, nameIndex := 1101, descriptorIndex := 1102, attributes := #[] }, { accessFlags := 26, nameIndex := 1121, descriptorIndex := 1122, attributes := #[] }, { accessFlags := 25, nameIndex := 599, descriptorIndex := 600, attributes := #[] }, { accessFlags := 24, nameIndex := 1125, descriptorIndex := 18, attributes := #[] }, { accessFlags := 24, nameIndex := 1127, descriptorIndex := 18, attributes := #[] }])
  fields := #[{ name := "value", type := (.array .byte), accessFlags := 18, slot := 0, constantValue := 0 }, { name := "coder", type := .byte, accessFlags := 18, slot := 1, constantValue := 0 }, { name := "hash", type := .int, accessFlags := 2, slot := 2, constantValue := 0 }, { name := "hashIsZero", type := .boolean, accessFlags := 2, slot := 3, constantValue := 0 }, { name := "serialVersionUID", type := .long, accessFlags := 26, slot := 0, constantValue := 0 }, { name := "COMPACT_STRINGS", type := .boolean, accessFlags := 24, slot := 1, constantValue := 0 }, { name := "serialPersistentFields", type := (.array (.object "java/io/ObjectStreamField")), accessFlags := 26, slot := 2, constantValue := 0 }, { name := "REPL", type := .char, accessFlags := 26, slot := 3, constantValue := 0 }, { name := "CASE_INSENSITIVE_ORDER", type := (.object "java/util/Comparator"), accessFlags := 25, slot := 4, constantValue := 0 }, { name := "LATIN1", type := .byte, accessFlags := 24, slot := 5, constantValue := 0 }, { name := "UTF16", type := .byte, accessFlags := 24, slot := 6, constantValue := 0 }]
  methods := #[k7m0, k7m1, k7m2, k7m3]
  instanceTypes := #[(.array .byte), .byte, .int, .boolean]
  staticTypes := #[.long, .boolean, (.array (.object "java/io/ObjectStreamField")), .char, (.object "java/util/Comparator"), .byte, .byte]
  resolved := Array.replicate 1451 none
  statics := some 0 }

def pool8 : Array CpInfo := pool [(1, .methodref 2 3), (0, .class_ 4), (0, .nameAndType 5 6), (0, u "java/lang/Object"), (0, u "<init>"), (0, u "()V"), (0, .fieldref 8 9), (0, .class_ 10), (0, .nameAndType 11 12), (0, u "com/example/topicd/topicd/message/TopicQueue"), (0, u "topic"), (0, u "Ljava/lang/String;"), (0, .fieldref 8 14), (0, .nameAndType 15 16), (0, u "queueId"), (0, u "I"), (0, .methodref 18 19), (0, .class_ 20), (0, .nameAndType 21 22), (0, u "java/lang/String"), (0, u "equals"), (0, u "(Ljava/lang/Object;)Z"), (16, u "(Ljava/lang/String;I)V")] 24

def k8c0 : Code := { maxStack := 2, maxLocals := 3, code := prog_18_method_1_code, exceptionTable := #[], attributes := #[] }
def k8m0 : Method := { name := "<init>", desc := "(Ljava/lang/String;I)V", sig := { parameters := [(.object "java/lang/String"), .int], returnType := none }, accessFlags := 1, code := some k8c0 }
def k8c1 : Code := { maxStack := 2, maxLocals := 2, code := prog_18_method_4_code, exceptionTable := #[], attributes := #[] }
def k8m1 : Method := { name := "equals", desc := "(Ljava/lang/Object;)Z", sig := { parameters := [(.object "java/lang/Object")], returnType := some .boolean }, accessFlags := 1, code := some k8c1 }
/-- com/example/topicd/topicd/message/TopicQueue -/
def k8 : Class := { plain "com/example/topicd/topicd/message/TopicQueue" (some 0) with
  accessFlags := 33
  interfaces := #[]
  cf := some (fileOf pool8 8 #[] #[{ accessFlags := 1, nameIndex := 5, descriptorIndex := 39, attributes := #[] }, { accessFlags := 1, nameIndex := 21, descriptorIndex := 22, attributes := #[] }] 33 2 #[] #[{ accessFlags := 18, nameIndex := 11, descriptorIndex := 12, attributes := #[] }, { accessFlags := 18, nameIndex := 15, descriptorIndex := 16, attributes := #[] }])
  fields := #[{ name := "topic", type := (.object "java/lang/String"), accessFlags := 18, slot := 0, constantValue := 0 }, { name := "queueId", type := .int, accessFlags := 18, slot := 1, constantValue := 0 }]
  methods := #[k8m0, k8m1]
  instanceTypes := #[(.object "java/lang/String"), .int]
  staticTypes := #[]
  resolved := Array.replicate 64 none
  statics := none }

def pool9 : Array CpInfo := pool [(4, .class_ 6), (1, u "java/lang/Object"), (0, u "<init>"), (0, u "()V"), (5, .class_ 16), (1, u "java/lang/StringLatin1"), (104, u "$assertionsDisabled"), (0, u "Z"), (98, .class_ 223), (1, u "java/lang/StringLatin1$LinesSpliterator"), (57, u "equals"), (0, u "([B[B)Z"), (107, .class_ 391), (0, u "java/lang/StringLatin1$CharsSpliterator")] 3

def k9m0 : Method := { name := "<init>", desc := "()V", sig := { parameters := [], returnType := none }, accessFlags := 0, code := none }
def k9c1 : Code := { maxStack := 3, maxLocals := 3, code := jdk_43_method_13_code, exceptionTable := #[], attributes := #[] }
def k9m1 : Method := { name := "equals", desc := "([B[B)Z", sig := { parameters := [(.array .byte), (.array .byte)], returnType := some .boolean }, accessFlags := 9, code := some k9c1 }
/-- java/lang/StringLatin1 -/
def k9 : Class := { plain "java/lang/StringLatin1" (some 0) with
  accessFlags := 48
  interfaces := #[]
  cf := some (fileOf pool9 14 #[.nestMembers #[390, 221]] #[{ accessFlags := 0, nameIndex := 7, descriptorIndex := 8, attributes := #[] }, { accessFlags := 9, nameIndex := 281, descriptorIndex := 282, attributes := #[] }] 48 4 #[] #[{ accessFlags := 4120, nameIndex := 121, descriptorIndex := 122, attributes := #[] }])
  fields := #[{ name := "$assertionsDisabled", type := .boolean, accessFlags := 4120, slot := 0, constantValue := 0 }]
  methods := #[k9m0, k9m1]
  instanceTypes := #[]
  staticTypes := #[.boolean]
  resolved := Array.replicate 395 none
  statics := none }

def pool10 : Array CpInfo := pool [(6, .class_ 8), (1, u "java/lang/Object"), (0, u "<init>"), (0, u "()V"), (1, .class_ 14), (1, u "java/lang/StringUTF16"), (31, u "$assertionsDisabled"), (0, u "Z"), (13, u "HI_BYTE_SHIFT"), (0, u "I"), (2, u "LO_BYTE_SHIFT"), (49, .methodref 12 116), (0, .nameAndType 117 118), (0, u "compress"), (0, u "([CI[BII)I"), (3, u "([CII)[B"), (138, u "coderFromArrayLen"), (0, u "([BI)B"), (106, .class_ 371), (1, u "java/lang/StringUTF16$LinesSpliterator"), (58, u "MAX_LENGTH"), (196, .class_ 628), (0, u "java/lang/StringUTF16$CodePointsSpliterator"), (0, .class_ 630), (0, u "java/lang/StringUTF16$CharsSpliterator")] 4

def k10m0 : Method := { name := "<init>", desc := "()V", sig := { parameters := [], returnType := none }, accessFlags := 0, code := none }
def k10c1 : Code := { maxStack := 2, maxLocals := 2, code := jdk_52_method_15_code, exceptionTable := #[], attributes := #[] }
def k10m1 : Method := { name := "coderFromArrayLen", desc := "([BI)B", sig := { parameters := [(.array .byte), .int], returnType := some .byte }, accessFlags := 8, code := some k10c1 }
def k10c2 : Code := { maxStack := 5, maxLocals := 6, code := jdk_52_method_16_code, exceptionTable := #[], attributes := #[] }
def k10m2 : Method := { name := "compress", desc := "([CII)[B", sig := { parameters := [(.array .char), .int, .int], returnType := some (.array .byte) }, accessFlags := 9, code := some k10c2 }
def k10c3 : Code := { maxStack := 3, maxLocals := 7, code := jdk_52_method_21_code, exceptionTable := #[], attributes := #[] }
def k10m3 : Method := { name := "compress", desc := "([CI[BII)I", sig := { parameters := [(.array .char), .int, (.array .byte), .int, .int], returnType := some .int }, accessFlags := 9, code := some k10c3 }
/-- java/lang/StringUTF16 -/
def k10 : Class := { plain "java/lang/StringUTF16" (some 0) with
  accessFlags := 48
  interfaces := #[]
  cf := some (fileOf pool10 12 #[.nestMembers #[627, 629, 369]] #[{ accessFlags := 0, nameIndex := 9, descriptorIndex := 10, attributes := #[] }, { accessFlags := 8, nameIndex := 261, descriptorIndex := 262, attributes := #[] }, { accessFlags := 9, nameIndex := 117, descriptorIndex := 122, attributes := #[] }, { accessFlags := 9, nameIndex := 117, descriptorIndex := 118, attributes := #[] }] 48 6 #[] #[{ accessFlags := 26, nameIndex := 61, descriptorIndex := 62, attributes := #[] }, { accessFlags := 26, nameIndex := 65, descriptorIndex := 62, attributes := #[] }, { accessFlags := 24, nameIndex := 430, descriptorIndex := 62, attributes := #[] }, { accessFlags := 4120, nameIndex := 46, descriptorIndex := 47, attributes := #[] }])
  fields := #[{ name := "HI_BYTE_SHIFT", type := .int, accessFlags := 26, slot := 0, constantValue := 0 }, { name := "LO_BYTE_SHIFT", type := .int, accessFlags := 26, slot := 1, constantValue := 0 }, { name := "MAX_LENGTH", type := .int, accessFlags := 24, slot := 2, constantValue := 0 }, { name := "$assertionsDisabled", type := .boolean, accessFlags := 4120, slot := 3, constantValue := 0 }]
  methods := #[k10m0, k10m1, k10m2, k10m3]
  instanceTypes := #[]
  staticTypes := #[.int, .int, .int, .boolean]
  resolved := Array.replicate 635 none
  statics := none }

def pool11 : Array CpInfo := pool [(1, .methodref 2 3), (0, .class_ 4), (0, .nameAndType 5 6), (0, u "java/lang/Object"), (0, u "<init>"), (0, u "()V"), (1, .class_ 10), (1, u "java/lang/Number"), (2, .class_ 14), (0, u "java/io/Serializable"), (0, u "serialVersionUID"), (0, u "J")] 20

def k11c0 : Code := { maxStack := 1, maxLocals := 1, code := jdk_18_method_1_code, exceptionTable := #[], attributes := #[] }
def k11m0 : Method := { name := "<init>", desc := "()V", sig := { parameters := [], returnType := none }, accessFlags := 1, code := some k11c0 }
/-- java/lang/Number -/
def k11 : Class := { plain "java/lang/Number" (some 0) with
  accessFlags := 1057
  interfaces := #[2]
  cf := some (fileOf pool11 8 #[] #[{ accessFlags := 1, nameIndex := 5, descriptorIndex := 6, attributes := #[] }] 1057 2 #[13] #[{ accessFlags := 26, nameIndex := 15, descriptorIndex := 16, attributes := #[] }])
  fields := #[{ name := "serialVersionUID", type := .long, accessFlags := 26, slot := 0, constantValue := 0 }]
  methods := #[k11m0]
  instanceTypes := #[]
  staticTypes := #[.long]
  resolved := Array.replicate 37 none
  statics := none }

def pool12 : Array CpInfo := pool [(1, .class_ 2), (0, u "java/lang/Integer"), (16, u "digits"), (0, u "[C"), (46, u "<init>"), (17, u "DigitOnes"), (0, u "[B"), (2, u "DigitTens"), (10, .nameAndType 67 101), (0, u "()V"), (85, u "valueOf"), (0, u "(I)Ljava/lang/Integer;"), (0, .class_ 190), (0, u "java/lang/Integer$IntegerCache"), (0, .fieldref 189 192), (0, .nameAndType 193 194), (0, u "high"), (0, u "I"), (0, .fieldref 189 196), (0, .nameAndType 197 198), (0, u "cache"), (0, u "[Ljava/lang/Integer;"), (0, .methodref 1 200), (0, .nameAndType 67 201), (0, u "(I)V"), (0, .methodref 203 100), (0, .class_ 204), (0, u "java/lang/Number"), (0, .fieldref 1 206), (0, .nameAndType 207 194), (0, u "value"), (94, u "TYPE"), (0, u "Ljava/lang/Class;"), (0, .class_ 305), (0, u "java/lang/Comparable"), (0, .class_ 307), (0, u "java/lang/constant/Constable"), (0, .class_ 309), (0, u "java/lang/constant/ConstantDesc"), (0, u "MIN_VALUE"), (1, u "MAX_VALUE"), (3, u "SIZE"), (1, u "BYTES"), (1, u "serialVersionUID"), (0, u "J")] 131

def k12c0 : Code := { maxStack := 3, maxLocals := 1, code := jdk_33_method_22_code, exceptionTable := #[], attributes := #[] }
def k12m0 : Method := { name := "valueOf", desc := "(I)Ljava/lang/Integer;", sig := { parameters := [.int], returnType := some (.object "java/lang/Integer") }, accessFlags := 9, code := some k12c0 }
def k12c1 : Code := { maxStack := 2, maxLocals := 2, code := jdk_33_method_23_code, exceptionTable := #[], attributes := #[] }
def k12m1 : Method := { name := "<init>", desc := "(I)V", sig := { parameters := [.int], returnType := none }, accessFlags := 1, code := some k12c1 }
/-- java/lang/Integer -/
def k12 : Class := { plain "java/lang/Integer" (some 11) with
  accessFlags := 49
  interfaces := #[3, 5, 6]
  cf := some (fileOf pool12 1 #[.nestMembers #[189]] #[{ accessFlags := 9, nameIndex := 187, descriptorIndex := 188, attributes := #[] }, { accessFlags := 1, nameIndex := 67, descriptorIndex := 201, attributes := #[] }] 49 203 #[304, 306, 308] #[{ accessFlags := 25, nameIndex := 310, descriptorIndex := 194, attributes := #[] }, { accessFlags := 25, nameIndex := 312, descriptorIndex := 194, attributes := #[] }, { accessFlags := 25, nameIndex := 302, descriptorIndex := 303, attributes := #[] }, { accessFlags := 24, nameIndex := 19, descriptorIndex := 20, attributes := #[] }, { accessFlags := 24, nameIndex := 89, descriptorIndex := 86, attributes := #[] }, { accessFlags := 24, nameIndex := 85, descriptorIndex := 86, attributes := #[] }, { accessFlags := 18, nameIndex := 207, descriptorIndex := 194, attributes := #[] }, { accessFlags := 25, nameIndex := 316, descriptorIndex := 194, attributes := #[] }, { accessFlags := 25, nameIndex := 318, descriptorIndex := 194, attributes := #[] }, { accessFlags := 26, nameIndex := 320, descriptorIndex := 321, attributes := #[] }])
  fields := #[{ name := "MIN_VALUE", type := .int, accessFlags := 25, slot := 0, constantValue := 0 }, { name := "MAX_VALUE", type := .int, accessFlags := 25, slot := 1, constantValue := 0 }, { name := "TYPE", type := (.object "java/lang/Class"), accessFlags := 25, slot := 2, constantValue := 0 }, { name := "digits", type := (.array .char), accessFlags := 24, slot := 3, constantValue := 0 }, { name := "DigitTens", type := (.array .byte), accessFlags := 24, slot := 4, constantValue := 0 }, { name := "DigitOnes", type := (.array .byte), accessFlags := 24, slot := 5, constantValue := 0 }, { name := "value", type := .int, accessFlags := 18, slot := 0, constantValue := 0 }, { name := "SIZE", type := .int, accessFlags := 25, slot := 6, constantValue := 0 }, { name := "BYTES", type := .int, accessFlags := 25, slot := 7, constantValue := 0 }, { name := "serialVersionUID", type := .long, accessFlags := 26, slot := 8, constantValue := 0 }]
  methods := #[k12m0, k12m1]
  instanceTypes := #[.int]
  staticTypes := #[.int, .int, (.object "java/lang/Class"), (.array .char), (.array .byte), (.array .byte), .int, .int, .long]
  resolved := Array.replicate 453 none
  statics := none }

def pool13 : Array CpInfo := pool [(2, .class_ 4), (1, u "java/lang/Object"), (0, u "<init>"), (0, u "()V"), (0, .class_ 8), (0, u "java/lang/Integer"), (7, .class_ 18), (1, u "java/lang/Integer$IntegerCache"), (0, u "$assertionsDisabled"), (0, u "Z"), (26, u "high"), (0, u "I"), (8, u "archivedCache"), (0, u "[Ljava/lang/Integer;"), (12, u "cache"), (0, u "low")] 27

def k13m0 : Method := { name := "<init>", desc := "()V", sig := { parameters := [], returnType := none }, accessFlags := 2, code := none }
/-- java/lang/Integer$IntegerCache -/
def k13 : Class := { plain "java/lang/Integer$IntegerCache" (some 0) with
  accessFlags := 48
  interfaces := #[]
  cf := some (fileOf pool13 16 #[.nestHost 7] #[{ accessFlags := 2, nameIndex := 5, descriptorIndex := 6, attributes := #[] }] 48 2 #[] #[{ accessFlags := 24, nameIndex := 72, descriptorIndex := 48, attributes := #[] }, { accessFlags := 24, nameIndex := 47, descriptorIndex := 48, attributes := #[] }, { accessFlags := 24, nameIndex := 71, descriptorIndex := 58, attributes := #[] }, { accessFlags := 8, nameIndex := 57, descriptorIndex := 58, attributes := #[] }, { accessFlags := 4120, nameIndex := 19, descriptorIndex := 20, attributes := #[] }])
  fields := #[{ name := "low", type := .int, accessFlags := 24, slot := 0, constantValue := 0 }, { name := "high", type := .int, accessFlags := 24, slot := 1, constantValue := 0 }, { name := "cache", type := (.array (.object "java/lang/Integer")), accessFlags := 24, slot := 2, constantValue := 0 }, { name := "archivedCache", type := (.array (.object "java/lang/Integer")), accessFlags := 8, slot := 3, constantValue := 0 }, { name := "$assertionsDisabled", type := .boolean, accessFlags := 4120, slot := 4, constantValue := 0 }]
  methods := #[k13m0]
  instanceTypes := #[]
  staticTypes := #[.int, .int, (.array (.object "java/lang/Integer")), (.array (.object "java/lang/Integer")), .boolean]
  resolved := Array.replicate 100 none
  statics := some 1 }

def pool14 : Array CpInfo := pool [(2, .class_ 4), (1, u "java/lang/Object"), (0, u "<init>"), (0, u "()V"), (17, .class_ 26), (1, u "jdk/internal/util/Preconditions"), (28, .class_ 56), (0, u "jdk/internal/util/Preconditions$4"), (57, .class_ 115), (0, u "jdk/internal/util/Preconditions$1"), (7, u "SIOOBE_FORMATTER"), (0, u "Ljava/util/function/BiFunction;"), (0, .class_ 126), (0, u "jdk/internal/util/Preconditions$2"), (3, u "AIOOBE_FORMATTER"), (0, .class_ 132), (0, u "jdk/internal/util/Preconditions$3"), (3, u "IOOBE_FORMATTER")] 57

def k14m0 : Method := { name := "<init>", desc := "()V", sig := { parameters := [], returnType := none }, accessFlags := 1, code := none }
/-- jdk/internal/util/Preconditions -/
def k14 : Class := { plain "jdk/internal/util/Preconditions" (some 0) with
  accessFlags := 33
  interfaces := #[]
  cf := some (fileOf pool14 24 #[.nestMembers #[55, 131, 125, 114]] #[{ accessFlags := 1, nameIndex := 5, descriptorIndex := 6, attributes := #[] }] 33 2 #[] #[{ accessFlags := 25, nameIndex := 123, descriptorIndex := 124, attributes := #[] }, { accessFlags := 25, nameIndex := 130, descriptorIndex := 124, attributes := #[] }, { accessFlags := 25, nameIndex := 136, descriptorIndex := 124, attributes := #[] }])
  fields := #[{ name := "SIOOBE_FORMATTER", type := (.object "java/util/function/BiFunction"), accessFlags := 25, slot := 0, constantValue := 0 }, { name := "AIOOBE_FORMATTER", type := (.object "java/util/function/BiFunction"), accessFlags := 25, slot := 1, constantValue := 0 }, { name := "IOOBE_FORMATTER", type := (.object "java/util/function/BiFunction"), accessFlags := 25, slot := 2, constantValue := 0 }]
  methods := #[k14m0]
  instanceTypes := #[]
  staticTypes := #[(.object "java/util/function/BiFunction"), (.object "java/util/function/BiFunction"), (.object "java/util/function/BiFunction")]
  resolved := Array.replicate 194 none
  statics := some 2 }

def pool15 : Array CpInfo := pool [(9, u "<init>"), (6, .class_ 18), (1, u "java/lang/Object"), (0, u "()V"), (1, .class_ 23), (1, u "jdk/internal/util/ArraysSupport"), (0, u "LOG2_ARRAY_LONG_INDEX_SCALE"), (0, u "I"), (2, u "U"), (0, u "Ljdk/internal/misc/Unsafe;"), (8, u "BIG_ENDIAN"), (0, u "Z"), (8, u "LOG2_BYTE_BIT_SIZE"), (4, u "LOG2_ARRAY_INT_INDEX_SCALE"), (54, u "JLA"), (0, u "Ljdk/internal/access/JavaLangAccess;"), (11, u "LOG2_ARRAY_BOOLEAN_INDEX_SCALE"), (9, u "LOG2_ARRAY_BYTE_INDEX_SCALE"), (5, u "LOG2_ARRAY_CHAR_INDEX_SCALE"), (5, u "LOG2_ARRAY_SHORT_INDEX_SCALE"), (18, u "LOG2_ARRAY_FLOAT_INDEX_SCALE"), (24, u "LOG2_ARRAY_DOUBLE_INDEX_SCALE"), (89, u "T_BOOLEAN"), (2, u "T_CHAR"), (1, u "T_FLOAT"), (1, u "T_DOUBLE"), (1, u "T_BYTE"), (1, u "T_SHORT"), (1, u "T_INT"), (1, u "T_LONG"), (1, u "SOFT_MAX_ARRAY_LENGTH")] 83

def k15m0 : Method := { name := "<init>", desc := "()V", sig := { parameters := [], returnType := none }, accessFlags := 2, code := none }
/-- jdk/internal/util/ArraysSupport -/
def k15 : Class := { plain "jdk/internal/util/ArraysSupport" (some 0) with
  accessFlags := 33
  interfaces := #[]
  cf := some (fileOf pool15 21 #[] #[{ accessFlags := 2, nameIndex := 9, descriptorIndex := 19, attributes := #[] }] 33 16 #[] #[{ accessFlags := 24, nameIndex := 28, descriptorIndex := 29, attributes := #[] }, { accessFlags := 26, nameIndex := 38, descriptorIndex := 39, attributes := #[] }, { accessFlags := 25, nameIndex := 121, descriptorIndex := 25, attributes := #[] }, { accessFlags := 25, nameIndex := 131, descriptorIndex := 25, attributes := #[] }, { accessFlags := 25, nameIndex := 137, descriptorIndex := 25, attributes := #[] }, { accessFlags := 25, nameIndex := 143, descriptorIndex := 25, attributes := #[] }, { accessFlags := 25, nameIndex := 53, descriptorIndex := 25, attributes := #[] }, { accessFlags := 25, nameIndex := 24, descriptorIndex := 25, attributes := #[] }, { accessFlags := 25, nameIndex := 162, descriptorIndex := 25, attributes := #[] }, { accessFlags := 25, nameIndex := 187, descriptorIndex := 25, attributes := #[] }, { accessFlags := 26, nameIndex := 48, descriptorIndex := 25, attributes := #[] }, { accessFlags := 25, nameIndex := 277, descriptorIndex := 25, attributes := #[] }, { accessFlags := 25, nameIndex := 280, descriptorIndex := 25, attributes := #[] }, { accessFlags := 25, nameIndex := 282, descriptorIndex := 25, attributes := #[] }, { accessFlags := 25, nameIndex := 284, descriptorIndex := 25, attributes := #[] }, { accessFlags := 25, nameIndex := 286, descriptorIndex := 25, attributes := #[] }, { accessFlags := 25, nameIndex := 288, descriptorIndex := 25, attributes := #[] }, { accessFlags := 25, nameIndex := 290, descriptorIndex := 25, attributes := #[] }, { accessFlags := 25, nameIndex := 292, descriptorIndex := 25, attributes := #[] }, { accessFlags := 26, nameIndex := 108, descriptorIndex := 109, attributes := #[] }, { accessFlags := 25, nameIndex := 294, descriptorIndex := 25, attributes := #[] }])
  fields := #[{ name := "U", type := (.object "jdk/internal/misc/Unsafe"), accessFlags := 24, slot := 0, constantValue := 0 }, { name := "BIG_ENDIAN", type := .boolean, accessFlags := 26, slot := 1, constantValue := 0 }, { name := "LOG2_ARRAY_BOOLEAN_INDEX_SCALE", type := .int, accessFlags := 25, slot := 2, constantValue := 0 }, { name := "LOG2_ARRAY_BYTE_INDEX_SCALE", type := .int, accessFlags := 25, slot := 3, constantValue := 0 }, { name := "LOG2_ARRAY_CHAR_INDEX_SCALE", type := .int, accessFlags := 25, slot := 4, constantValue := 0 }, { name := "LOG2_ARRAY_SHORT_INDEX_SCALE", type := .int, accessFlags := 25, slot := 5, constantValue := 0 }, { name := "LOG2_ARRAY_INT_INDEX_SCALE", type := .int, accessFlags := 25, slot := 6, constantValue := 0 }, { name := "LOG2_ARRAY_LONG_INDEX_SCALE", type := .int, accessFlags := 25, slot := 7, constantValue := 0 }, { name := "LOG2_ARRAY_FLOAT_INDEX_SCALE", type := .int, accessFlags := 25, slot := 8, constantValue := 0 }, { name := "LOG2_ARRAY_DOUBLE_INDEX_SCALE", type := .int, accessFlags := 25, slot := 9, constantValue := 0 }, { name := "LOG2_BYTE_BIT_SIZE", type := .int, accessFlags := 26, slot := 10, constantValue := 0 }, { name := "T_BOOLEAN", type := .int, accessFlags := 25, slot := 11, constantValue := 0 }, { name := "T_CHAR", type := .int, accessFlags := 25, slot := 12, constantValue := 0 }, { name := "T_FLOAT", type := .int, accessFlags := 25, slot := 13, constantValue := 0 }, { name := "T_DOUBLE", type := .int, accessFlags := 25, slot := 14, constantValue := 0 }, { name := "T_BYTE", type := .int, accessFlags := 25, slot := 15, constantValue := 0 }, { name := "T_SHORT", type := .int, accessFlags := 25, slot := 16, constantValue := 0 }, { name := "T_INT", type := .int, accessFlags := 25, slot := 17, constantValue := 0 }, { name := "T_LONG", type := .int, accessFlags := 25, slot := 18, constantValue := 0 }, { name := "JLA", type := (.object "jdk/internal/access/JavaLangAccess"), accessFlags := 26, slot := 19, constantValue := 0 }, { name := "SOFT_MAX_ARRAY_LENGTH", type := .int, accessFlags := 25, slot := 20, constantValue := 0 }]
  methods := #[k15m0]
  instanceTypes := #[]
  staticTypes := #[(.object "jdk/internal/misc/Unsafe"), .boolean, .int, .int, .int, .int, .int, .int, .int, .int, .int, .int, .int, .int, .int, .int, .int, .int, .int, (.object "jdk/internal/access/JavaLangAccess"), .int]
  resolved := Array.replicate 378 none
  statics := none }

def pool16 : Array CpInfo := pool [(1, u "java/lang/Cloneable"), (0, .class_ 1), (0, u "java/lang/Object"), (0, .class_ 3)] 3

/-- java/lang/Cloneable -/
def k16 : Class := { plain "java/lang/Cloneable" (some 0) with
  accessFlags := 1537
  interfaces := #[]
  cf := some (fileOf pool16 2 #[] #[] 1537 4 #[] #[])
  fields := #[]
  methods := #[]
  instanceTypes := #[]
  staticTypes := #[]
  resolved := Array.replicate 8 none
  statics := none }

/-- the primitive byte -/
def k17 : Class := { plain "byte" none with kind := .primitive 'B', accessFlags := 0x411 }
/-- [B -/
def k18 : Class := { plain "[B" (some 0) with kind := .array 17 .byte, interfaces := #[16, 2], accessFlags := 1041 }

/-- the primitive char -/
def k19 : Class := { plain "char" none with kind := .primitive 'C', accessFlags := 0x411 }
/-- [C -/
def k20 : Class := { plain "[C" (some 0) with kind := .array 19 .char, interfaces := #[16, 2], accessFlags := 1041 }

/-- the primitive int -/
def k21 : Class := { plain "int" none with kind := .primitive 'I', accessFlags := 0x411 }
/-- [I -/
def k22 : Class := { plain "[I" (some 0) with kind := .array 21 .int, interfaces := #[16, 2], accessFlags := 1041 }

/-- [Ljava/lang/Integer; -/
def k23 : Class := { plain "[Ljava/lang/Integer;" (some 0) with kind := .array 12 (.object "java/lang/Integer"), interfaces := #[16, 2], accessFlags := 1041 }

def heap : Heap := #[{ cls := 7, slots := #[.long 0, .int 1, .null, .int 0, .null, .int 0, .int 0], vm := .statics 7 },
  { cls := 13, slots := #[.int 0, .int 127, .ref 3, .null, .int 0], vm := .statics 13 },
  { cls := 14, slots := #[.null, .null, .null], vm := .statics 14 },
  { cls := 23, slots := #[.ref 4, .ref 5, .ref 6, .ref 7, .ref 8, .ref 9, .ref 10, .ref 11, .ref 12, .ref 13, .ref 14, .ref 15, .ref 16, .ref 17, .ref 18, .ref 19, .ref 20, .ref 21, .ref 22, .ref 23, .ref 24, .ref 25, .ref 26, .ref 27, .ref 28, .ref 29, .ref 30, .ref 31, .ref 32, .ref 33, .ref 34, .ref 35, .ref 36, .ref 37, .ref 38, .ref 39, .ref 40, .ref 41, .ref 42, .ref 43, .ref 44, .ref 45, .ref 46, .ref 47, .ref 48, .ref 49, .ref 50, .ref 51, .ref 52, .ref 53, .ref 54, .ref 55, .ref 56, .ref 57, .ref 58, .ref 59, .ref 60, .ref 61, .ref 62, .ref 63, .ref 64, .ref 65, .ref 66, .ref 67, .ref 68, .ref 69, .ref 70, .ref 71, .ref 72, .ref 73, .ref 74, .ref 75, .ref 76, .ref 77, .ref 78, .ref 79, .ref 80, .ref 81, .ref 82, .ref 83, .ref 84, .ref 85, .ref 86, .ref 87, .ref 88, .ref 89, .ref 90, .ref 91, .ref 92, .ref 93, .ref 94, .ref 95, .ref 96, .ref 97, .ref 98, .ref 99, .ref 100, .ref 101, .ref 102, .ref 103, .ref 104, .ref 105, .ref 106, .ref 107, .ref 108, .ref 109, .ref 110, .ref 111, .ref 112, .ref 113, .ref 114, .ref 115, .ref 116, .ref 117, .ref 118, .ref 119, .ref 120, .ref 121, .ref 122, .ref 123, .ref 124, .ref 125, .ref 126, .ref 127, .ref 128, .ref 129, .ref 130, .ref 131, .ref 132, .ref 133, .ref 134, .ref 135, .ref 136, .ref 137, .ref 138, .ref 139, .ref 140, .ref 141, .ref 142, .ref 143, .ref 144, .ref 145, .ref 146, .ref 147, .ref 148, .ref 149, .ref 150, .ref 151, .ref 152, .ref 153, .ref 154, .ref 155, .ref 156, .ref 157, .ref 158, .ref 159, .ref 160, .ref 161, .ref 162, .ref 163, .ref 164, .ref 165, .ref 166, .ref 167, .ref 168, .ref 169, .ref 170, .ref 171, .ref 172, .ref 173, .ref 174, .ref 175, .ref 176, .ref 177, .ref 178, .ref 179, .ref 180, .ref 181, .ref 182, .ref 183, .ref 184, .ref 185, .ref 186, .ref 187, .ref 188, .ref 189, .ref 190, .ref 191, .ref 192, .ref 193, .ref 194, .ref 195, .ref 196, .ref 197, .ref 198, .ref 199, .ref 200, .ref 201, .ref 202, .ref 203, .ref 204, .ref 205, .ref 206, .ref 207, .ref 208, .ref 209, .ref 210, .ref 211, .ref 212, .ref 213, .ref 214, .ref 215, .ref 216, .ref 217, .ref 218, .ref 219, .ref 220, .ref 221, .ref 222, .ref 223, .ref 224, .ref 225, .ref 226, .ref 227, .ref 228, .ref 229, .ref 230, .ref 231, .ref 232, .ref 233, .ref 234, .ref 235, .ref 236, .ref 237, .ref 238, .ref 239, .ref 240, .ref 241, .ref 242, .ref 243, .ref 244, .ref 245, .ref 246, .ref 247, .ref 248, .ref 249, .ref 250, .ref 251, .ref 252, .ref 253, .ref 254, .ref 255, .ref 256, .ref 257, .ref 258, .ref 259], vm := .none },
  { cls := 12, slots := #[.int (-128)], vm := .none },
  { cls := 12, slots := #[.int (-127)], vm := .none },
  { cls := 12, slots := #[.int (-126)], vm := .none },
  { cls := 12, slots := #[.int (-125)], vm := .none },
  { cls := 12, slots := #[.int (-124)], vm := .none },
  { cls := 12, slots := #[.int (-123)], vm := .none },
  { cls := 12, slots := #[.int (-122)], vm := .none },
  { cls := 12, slots := #[.int (-121)], vm := .none },
  { cls := 12, slots := #[.int (-120)], vm := .none },
  { cls := 12, slots := #[.int (-119)], vm := .none },
  { cls := 12, slots := #[.int (-118)], vm := .none },
  { cls := 12, slots := #[.int (-117)], vm := .none },
  { cls := 12, slots := #[.int (-116)], vm := .none },
  { cls := 12, slots := #[.int (-115)], vm := .none },
  { cls := 12, slots := #[.int (-114)], vm := .none },
  { cls := 12, slots := #[.int (-113)], vm := .none },
  { cls := 12, slots := #[.int (-112)], vm := .none },
  { cls := 12, slots := #[.int (-111)], vm := .none },
  { cls := 12, slots := #[.int (-110)], vm := .none },
  { cls := 12, slots := #[.int (-109)], vm := .none },
  { cls := 12, slots := #[.int (-108)], vm := .none },
  { cls := 12, slots := #[.int (-107)], vm := .none },
  { cls := 12, slots := #[.int (-106)], vm := .none },
  { cls := 12, slots := #[.int (-105)], vm := .none },
  { cls := 12, slots := #[.int (-104)], vm := .none },
  { cls := 12, slots := #[.int (-103)], vm := .none },
  { cls := 12, slots := #[.int (-102)], vm := .none },
  { cls := 12, slots := #[.int (-101)], vm := .none },
  { cls := 12, slots := #[.int (-100)], vm := .none },
  { cls := 12, slots := #[.int (-99)], vm := .none },
  { cls := 12, slots := #[.int (-98)], vm := .none },
  { cls := 12, slots := #[.int (-97)], vm := .none },
  { cls := 12, slots := #[.int (-96)], vm := .none },
  { cls := 12, slots := #[.int (-95)], vm := .none },
  { cls := 12, slots := #[.int (-94)], vm := .none },
  { cls := 12, slots := #[.int (-93)], vm := .none },
  { cls := 12, slots := #[.int (-92)], vm := .none },
  { cls := 12, slots := #[.int (-91)], vm := .none },
  { cls := 12, slots := #[.int (-90)], vm := .none },
  { cls := 12, slots := #[.int (-89)], vm := .none },
  { cls := 12, slots := #[.int (-88)], vm := .none },
  { cls := 12, slots := #[.int (-87)], vm := .none },
  { cls := 12, slots := #[.int (-86)], vm := .none },
  { cls := 12, slots := #[.int (-85)], vm := .none },
  { cls := 12, slots := #[.int (-84)], vm := .none },
  { cls := 12, slots := #[.int (-83)], vm := .none },
  { cls := 12, slots := #[.int (-82)], vm := .none },
  { cls := 12, slots := #[.int (-81)], vm := .none },
  { cls := 12, slots := #[.int (-80)], vm := .none },
  { cls := 12, slots := #[.int (-79)], vm := .none },
  { cls := 12, slots := #[.int (-78)], vm := .none },
  { cls := 12, slots := #[.int (-77)], vm := .none },
  { cls := 12, slots := #[.int (-76)], vm := .none },
  { cls := 12, slots := #[.int (-75)], vm := .none },
  { cls := 12, slots := #[.int (-74)], vm := .none },
  { cls := 12, slots := #[.int (-73)], vm := .none },
  { cls := 12, slots := #[.int (-72)], vm := .none },
  { cls := 12, slots := #[.int (-71)], vm := .none },
  { cls := 12, slots := #[.int (-70)], vm := .none },
  { cls := 12, slots := #[.int (-69)], vm := .none },
  { cls := 12, slots := #[.int (-68)], vm := .none },
  { cls := 12, slots := #[.int (-67)], vm := .none },
  { cls := 12, slots := #[.int (-66)], vm := .none },
  { cls := 12, slots := #[.int (-65)], vm := .none },
  { cls := 12, slots := #[.int (-64)], vm := .none },
  { cls := 12, slots := #[.int (-63)], vm := .none },
  { cls := 12, slots := #[.int (-62)], vm := .none },
  { cls := 12, slots := #[.int (-61)], vm := .none },
  { cls := 12, slots := #[.int (-60)], vm := .none },
  { cls := 12, slots := #[.int (-59)], vm := .none },
  { cls := 12, slots := #[.int (-58)], vm := .none },
  { cls := 12, slots := #[.int (-57)], vm := .none },
  { cls := 12, slots := #[.int (-56)], vm := .none },
  { cls := 12, slots := #[.int (-55)], vm := .none },
  { cls := 12, slots := #[.int (-54)], vm := .none },
  { cls := 12, slots := #[.int (-53)], vm := .none },
  { cls := 12, slots := #[.int (-52)], vm := .none },
  { cls := 12, slots := #[.int (-51)], vm := .none },
  { cls := 12, slots := #[.int (-50)], vm := .none },
  { cls := 12, slots := #[.int (-49)], vm := .none },
  { cls := 12, slots := #[.int (-48)], vm := .none },
  { cls := 12, slots := #[.int (-47)], vm := .none },
  { cls := 12, slots := #[.int (-46)], vm := .none },
  { cls := 12, slots := #[.int (-45)], vm := .none },
  { cls := 12, slots := #[.int (-44)], vm := .none },
  { cls := 12, slots := #[.int (-43)], vm := .none },
  { cls := 12, slots := #[.int (-42)], vm := .none },
  { cls := 12, slots := #[.int (-41)], vm := .none },
  { cls := 12, slots := #[.int (-40)], vm := .none },
  { cls := 12, slots := #[.int (-39)], vm := .none },
  { cls := 12, slots := #[.int (-38)], vm := .none },
  { cls := 12, slots := #[.int (-37)], vm := .none },
  { cls := 12, slots := #[.int (-36)], vm := .none },
  { cls := 12, slots := #[.int (-35)], vm := .none },
  { cls := 12, slots := #[.int (-34)], vm := .none },
  { cls := 12, slots := #[.int (-33)], vm := .none },
  { cls := 12, slots := #[.int (-32)], vm := .none },
  { cls := 12, slots := #[.int (-31)], vm := .none },
  { cls := 12, slots := #[.int (-30)], vm := .none },
  { cls := 12, slots := #[.int (-29)], vm := .none },
  { cls := 12, slots := #[.int (-28)], vm := .none },
  { cls := 12, slots := #[.int (-27)], vm := .none },
  { cls := 12, slots := #[.int (-26)], vm := .none },
  { cls := 12, slots := #[.int (-25)], vm := .none },
  { cls := 12, slots := #[.int (-24)], vm := .none },
  { cls := 12, slots := #[.int (-23)], vm := .none },
  { cls := 12, slots := #[.int (-22)], vm := .none },
  { cls := 12, slots := #[.int (-21)], vm := .none },
  { cls := 12, slots := #[.int (-20)], vm := .none },
  { cls := 12, slots := #[.int (-19)], vm := .none },
  { cls := 12, slots := #[.int (-18)], vm := .none },
  { cls := 12, slots := #[.int (-17)], vm := .none },
  { cls := 12, slots := #[.int (-16)], vm := .none },
  { cls := 12, slots := #[.int (-15)], vm := .none },
  { cls := 12, slots := #[.int (-14)], vm := .none },
  { cls := 12, slots := #[.int (-13)], vm := .none },
  { cls := 12, slots := #[.int (-12)], vm := .none },
  { cls := 12, slots := #[.int (-11)], vm := .none },
  { cls := 12, slots := #[.int (-10)], vm := .none },
  { cls := 12, slots := #[.int (-9)], vm := .none },
  { cls := 12, slots := #[.int (-8)], vm := .none },
  { cls := 12, slots := #[.int (-7)], vm := .none },
  { cls := 12, slots := #[.int (-6)], vm := .none },
  { cls := 12, slots := #[.int (-5)], vm := .none },
  { cls := 12, slots := #[.int (-4)], vm := .none },
  { cls := 12, slots := #[.int (-3)], vm := .none },
  { cls := 12, slots := #[.int (-2)], vm := .none },
  { cls := 12, slots := #[.int (-1)], vm := .none },
  { cls := 12, slots := #[.int 0], vm := .none },
  { cls := 12, slots := #[.int 1], vm := .none },
  { cls := 12, slots := #[.int 2], vm := .none },
  { cls := 12, slots := #[.int 3], vm := .none },
  { cls := 12, slots := #[.int 4], vm := .none },
  { cls := 12, slots := #[.int 5], vm := .none },
  { cls := 12, slots := #[.int 6], vm := .none },
  { cls := 12, slots := #[.int 7], vm := .none },
  { cls := 12, slots := #[.int 8], vm := .none },
  { cls := 12, slots := #[.int 9], vm := .none },
  { cls := 12, slots := #[.int 10], vm := .none },
  { cls := 12, slots := #[.int 11], vm := .none },
  { cls := 12, slots := #[.int 12], vm := .none },
  { cls := 12, slots := #[.int 13], vm := .none },
  { cls := 12, slots := #[.int 14], vm := .none },
  { cls := 12, slots := #[.int 15], vm := .none },
  { cls := 12, slots := #[.int 16], vm := .none },
  { cls := 12, slots := #[.int 17], vm := .none },
  { cls := 12, slots := #[.int 18], vm := .none },
  { cls := 12, slots := #[.int 19], vm := .none },
  { cls := 12, slots := #[.int 20], vm := .none },
  { cls := 12, slots := #[.int 21], vm := .none },
  { cls := 12, slots := #[.int 22], vm := .none },
  { cls := 12, slots := #[.int 23], vm := .none },
  { cls := 12, slots := #[.int 24], vm := .none },
  { cls := 12, slots := #[.int 25], vm := .none },
  { cls := 12, slots := #[.int 26], vm := .none },
  { cls := 12, slots := #[.int 27], vm := .none },
  { cls := 12, slots := #[.int 28], vm := .none },
  { cls := 12, slots := #[.int 29], vm := .none },
  { cls := 12, slots := #[.int 30], vm := .none },
  { cls := 12, slots := #[.int 31], vm := .none },
  { cls := 12, slots := #[.int 32], vm := .none },
  { cls := 12, slots := #[.int 33], vm := .none },
  { cls := 12, slots := #[.int 34], vm := .none },
  { cls := 12, slots := #[.int 35], vm := .none },
  { cls := 12, slots := #[.int 36], vm := .none },
  { cls := 12, slots := #[.int 37], vm := .none },
  { cls := 12, slots := #[.int 38], vm := .none },
  { cls := 12, slots := #[.int 39], vm := .none },
  { cls := 12, slots := #[.int 40], vm := .none },
  { cls := 12, slots := #[.int 41], vm := .none },
  { cls := 12, slots := #[.int 42], vm := .none },
  { cls := 12, slots := #[.int 43], vm := .none },
  { cls := 12, slots := #[.int 44], vm := .none },
  { cls := 12, slots := #[.int 45], vm := .none },
  { cls := 12, slots := #[.int 46], vm := .none },
  { cls := 12, slots := #[.int 47], vm := .none },
  { cls := 12, slots := #[.int 48], vm := .none },
  { cls := 12, slots := #[.int 49], vm := .none },
  { cls := 12, slots := #[.int 50], vm := .none },
  { cls := 12, slots := #[.int 51], vm := .none },
  { cls := 12, slots := #[.int 52], vm := .none },
  { cls := 12, slots := #[.int 53], vm := .none },
  { cls := 12, slots := #[.int 54], vm := .none },
  { cls := 12, slots := #[.int 55], vm := .none },
  { cls := 12, slots := #[.int 56], vm := .none },
  { cls := 12, slots := #[.int 57], vm := .none },
  { cls := 12, slots := #[.int 58], vm := .none },
  { cls := 12, slots := #[.int 59], vm := .none },
  { cls := 12, slots := #[.int 60], vm := .none },
  { cls := 12, slots := #[.int 61], vm := .none },
  { cls := 12, slots := #[.int 62], vm := .none },
  { cls := 12, slots := #[.int 63], vm := .none },
  { cls := 12, slots := #[.int 64], vm := .none },
  { cls := 12, slots := #[.int 65], vm := .none },
  { cls := 12, slots := #[.int 66], vm := .none },
  { cls := 12, slots := #[.int 67], vm := .none },
  { cls := 12, slots := #[.int 68], vm := .none },
  { cls := 12, slots := #[.int 69], vm := .none },
  { cls := 12, slots := #[.int 70], vm := .none },
  { cls := 12, slots := #[.int 71], vm := .none },
  { cls := 12, slots := #[.int 72], vm := .none },
  { cls := 12, slots := #[.int 73], vm := .none },
  { cls := 12, slots := #[.int 74], vm := .none },
  { cls := 12, slots := #[.int 75], vm := .none },
  { cls := 12, slots := #[.int 76], vm := .none },
  { cls := 12, slots := #[.int 77], vm := .none },
  { cls := 12, slots := #[.int 78], vm := .none },
  { cls := 12, slots := #[.int 79], vm := .none },
  { cls := 12, slots := #[.int 80], vm := .none },
  { cls := 12, slots := #[.int 81], vm := .none },
  { cls := 12, slots := #[.int 82], vm := .none },
  { cls := 12, slots := #[.int 83], vm := .none },
  { cls := 12, slots := #[.int 84], vm := .none },
  { cls := 12, slots := #[.int 85], vm := .none },
  { cls := 12, slots := #[.int 86], vm := .none },
  { cls := 12, slots := #[.int 87], vm := .none },
  { cls := 12, slots := #[.int 88], vm := .none },
  { cls := 12, slots := #[.int 89], vm := .none },
  { cls := 12, slots := #[.int 90], vm := .none },
  { cls := 12, slots := #[.int 91], vm := .none },
  { cls := 12, slots := #[.int 92], vm := .none },
  { cls := 12, slots := #[.int 93], vm := .none },
  { cls := 12, slots := #[.int 94], vm := .none },
  { cls := 12, slots := #[.int 95], vm := .none },
  { cls := 12, slots := #[.int 96], vm := .none },
  { cls := 12, slots := #[.int 97], vm := .none },
  { cls := 12, slots := #[.int 98], vm := .none },
  { cls := 12, slots := #[.int 99], vm := .none },
  { cls := 12, slots := #[.int 100], vm := .none },
  { cls := 12, slots := #[.int 101], vm := .none },
  { cls := 12, slots := #[.int 102], vm := .none },
  { cls := 12, slots := #[.int 103], vm := .none },
  { cls := 12, slots := #[.int 104], vm := .none },
  { cls := 12, slots := #[.int 105], vm := .none },
  { cls := 12, slots := #[.int 106], vm := .none },
  { cls := 12, slots := #[.int 107], vm := .none },
  { cls := 12, slots := #[.int 108], vm := .none },
  { cls := 12, slots := #[.int 109], vm := .none },
  { cls := 12, slots := #[.int 110], vm := .none },
  { cls := 12, slots := #[.int 111], vm := .none },
  { cls := 12, slots := #[.int 112], vm := .none },
  { cls := 12, slots := #[.int 113], vm := .none },
  { cls := 12, slots := #[.int 114], vm := .none },
  { cls := 12, slots := #[.int 115], vm := .none },
  { cls := 12, slots := #[.int 116], vm := .none },
  { cls := 12, slots := #[.int 117], vm := .none },
  { cls := 12, slots := #[.int 118], vm := .none },
  { cls := 12, slots := #[.int 119], vm := .none },
  { cls := 12, slots := #[.int 120], vm := .none },
  { cls := 12, slots := #[.int 121], vm := .none },
  { cls := 12, slots := #[.int 122], vm := .none },
  { cls := 12, slots := #[.int 123], vm := .none },
  { cls := 12, slots := #[.int 124], vm := .none },
  { cls := 12, slots := #[.int 125], vm := .none },
  { cls := 12, slots := #[.int 126], vm := .none },
  { cls := 12, slots := #[.int 127], vm := .none }]
def classes : Array Class := #[k0, k1, k2, k3, k4, k5, k6, k7, k8, k9, k10, k11, k12, k13, k14, k15, k16, k17, k18, k19, k20, k21, k22, k23]
def interned : List (Array UInt16 × Addr) := []
def slotsUsed : Nat := 527
def theMethod : MethodId := ⟨1, 2⟩
def args0 : Array Value := #[.int 5, .int 5, .int 5, .int 5, .int 5]
def aboutOver (below : List Frame) : State where
  vm := { classes := classes, interned := interned.toArray }
  heap := heap
  slotsUsed := slotsUsed
  threads := #[{ frames := .invoking theMethod args0 :: below }]
def below0 : List Frame := [.native { method := ⟨0, 0⟩, args := #[] }]
def about1 : State := aboutOver below0
def p0 : Program := .bare "" "" ""
def e0 : Env := launch0.env 0 0 0
theorem w_frames : about1.frames = Frame.invoking theMethod args0 :: below0 := rfl
set_option maxRecDepth 65536 in
theorem w_args : argsFit about1.vm theMethod args0 = true := by decide +kernel
set_option maxRecDepth 65536 in
theorem w_heap : heapFits about1 = true := by decide +kernel
set_option maxRecDepth 65536 in
theorem w_runnable : about1.curStatus? = some .runnable := by decide +kernel
set_option maxRecDepth 65536 in
theorem w_alone : about1.alone = true := by decide +kernel
set_option maxRecDepth 65536 in
theorem w_named : about1.methodNamed? x = some theMethod := by decide +kernel
set_option maxRecDepth 65536 in
theorem w_hears : about1.hears theMethod below0 = true := by decide +kernel
set_option maxRecDepth 65536 in
theorem w_ripe : about1.ripe theMethod args0 below0 = true := by decide +kernel
theorem w_running : about1.status = .running := rfl
set_option maxRecDepth 65536 in
theorem w_room : about1.hasRoom e0.platform room_1 = true :=
  launch0.hasRoom_least _ room_1 (by decide +kernel) (by decide +kernel) (by decide +kernel) (by decide +kernel) (by decide +kernel) (by decide +kernel)
theorem allAtoms_all (ts : List Jvm.Cond) (a : Array Jvm.Value) (st : Jvm.State) : (allAtoms ts).before a st = ts.all (fun c => c.before a st) := by
  induction ts with
  | nil => rfl
  | cons c t ih =>
    show (Jvm.Cond.and c (allAtoms t)).before a st = _
    rw [Jvm.Cond.before_and, ih, List.all_cons]
def words1 : List Jvm.Cond := Jvm.Cond.code x code maxLocals ret :: tables_1
/-- a 'code' word, met by the world's own term for the bytes: nothing is compared byte by byte -/
theorem code_word {y : MethodName} {bytes : ByteArray} {mx : Nat} {rt : Option FieldType} {a : Array Value} {s : State} {m : MethodId} {meth : Method} {c : Code} (h1 : s.methodNamed? y = some m) (h2 : s.vm.method? m = some meth) (h3 : meth.code = some c) (h4 : c.code = bytes)
    (h5 : (c.maxLocals == mx && c.exceptionTable.isEmpty && decide (c.maxStack ≤ mostOperands) && decide (meth.sig.returnType = rt) && !meth.locks && decide (parseMethodDescriptor y.desc = some meth.sig)) = true) : (Jvm.Cond.code y bytes mx rt).before a s = true := by
  simp only [Bool.and_eq_true, beq_iff_eq, Bool.not_eq_true', decide_eq_true_eq] at h5
  obtain ⟨⟨⟨⟨⟨g1, g2⟩, g3⟩, g4⟩, g5⟩, g6⟩ := h5
  simp [Cond.before, Cond.holds, Cond.value, h1, h2, h3, h4, g1, g2, g3, g4, g5, g6]
def isCode : Jvm.Cond → Bool
  | .code _ _ _ _ => true
  | _ => false
theorem all_split {L : List Jvm.Cond} {P : Jvm.Cond → Bool} (h1 : L.all (fun c => isCode c || P c) = true) (h2 : ∀ c ∈ L.filter isCode, P c = true) : L.all P = true := by
  refine List.all_eq_true.mpr fun c hc => ?_
  have h := List.all_eq_true.mp h1 c hc
  rcases Bool.eq_false_or_eq_true (isCode c) with hi | hi
  · exact h2 c (List.mem_filter.mpr ⟨hc, hi⟩)
  · simpa [hi] using h
set_option maxRecDepth 65536 in
theorem w_c0 : (Jvm.Cond.code x code maxLocals ret).before args0 about1 = true := code_word (m := ⟨1, 2⟩) (meth := k1m2) (c := k1c2) (by decide +kernel) rfl rfl rfl (by decide +kernel)
set_option maxRecDepth 65536 in
theorem w_c1 : (Jvm.Cond.code ({ cls := "com/example/topicd/topicd/message/TopicQueueEqualsPinLaw", name := "str", desc := "(II)Ljava/lang/String;" } : Jvm.MethodName) method_2_code (5 : Nat) (Option.some (Jvm.ClassFile.FieldType.object "java/lang/String"))).before args0 about1 = true := code_word (m := ⟨1, 1⟩) (meth := k1m1) (c := k1c1) (by decide +kernel) rfl rfl rfl (by decide +kernel)
set_option maxRecDepth 65536 in
theorem w_c2 : (Jvm.Cond.code ({ cls := "java/lang/String", name := "<init>", desc := "([C)V" } : Jvm.MethodName) jdk_42_method_3_code (2 : Nat) (Option.none : Option Jvm.ClassFile.FieldType)).before args0 about1 = true := code_word (m := ⟨7, 1⟩) (meth := k7m1) (c := k7c1) (by decide +kernel) rfl rfl rfl (by decide +kernel)
set_option maxRecDepth 65536 in
theorem w_c3 : (Jvm.Cond.code ({ cls := "java/lang/String", name := "<init>", desc := "([CIILjava/lang/Void;)V" } : Jvm.MethodName) jdk_42_method_149_code (6 : Nat) (Option.none : Option Jvm.ClassFile.FieldType)).before args0 about1 = true := code_word (m := ⟨7, 3⟩) (meth := k7m3) (c := k7c3) (by decide +kernel) rfl rfl rfl (by decide +kernel)
set_option maxRecDepth 65536 in
theorem w_c4 : (Jvm.Cond.code ({ cls := "java/lang/Object", name := "<init>", desc := "()V" } : Jvm.MethodName) object_method_1_code (1 : Nat) (Option.none : Option Jvm.ClassFile.FieldType)).before args0 about1 = true := code_word (m := ⟨0, 0⟩) (meth := k0m0) (c := k0c0) (by decide +kernel) rfl rfl rfl (by decide +kernel)
set_option maxRecDepth 65536 in
theorem w_c5 : (Jvm.Cond.code ({ cls := "com/example/topicd/topicd/message/TopicQueue", name := "<init>", desc := "(Ljava/lang/String;I)V" } : Jvm.MethodName) prog_18_method_1_code (3 : Nat) (Option.none : Option Jvm.ClassFile.FieldType)).before args0 about1 = true := code_word (m := ⟨8, 0⟩) (meth := k8m0) (c := k8c0) (by decide +kernel) rfl rfl rfl (by decide +kernel)
set_option maxRecDepth 65536 in
theorem w_c6 : (Jvm.Cond.code ({ cls := "com/example/topicd/topicd/message/TopicQueue", name := "equals", desc := "(Ljava/lang/Object;)Z" } : Jvm.MethodName) prog_18_method_4_code (2 : Nat) (Option.some Jvm.ClassFile.FieldType.boolean)).before args0 about1 = true := code_word (m := ⟨8, 1⟩) (meth := k8m1) (c := k8c1) (by decide +kernel) rfl rfl rfl (by decide +kernel)
set_option maxRecDepth 65536 in
theorem w_c7 : (Jvm.Cond.code ({ cls := "java/lang/String", name := "equals", desc := "(Ljava/lang/Object;)Z" } : Jvm.MethodName) jdk_42_method_66_code (3 : Nat) (Option.some Jvm.ClassFile.FieldType.boolean)).before args0 about1 = true := code_word (m := ⟨7, 2⟩) (meth := k7m2) (c := k7c2) (by decide +kernel) rfl rfl rfl (by decide +kernel)
set_option maxRecDepth 65536 in
theorem w_c8 : (Jvm.Cond.code ({ cls := "java/lang/StringLatin1", name := "equals", desc := "([B[B)Z" } : Jvm.MethodName) jdk_43_method_13_code (3 : Nat) (Option.some Jvm.ClassFile.FieldType.boolean)).before args0 about1 = true := code_word (m := ⟨9, 1⟩) (meth := k9m1) (c := k9c1) (by decide +kernel) rfl rfl rfl (by decide +kernel)
set_option maxRecDepth 65536 in
theorem w_c9 : (Jvm.Cond.code ({ cls := "java/lang/StringUTF16", name := "compress", desc := "([CII)[B" } : Jvm.MethodName) jdk_52_method_16_code (6 : Nat) (Option.some (Jvm.ClassFile.FieldType.array Jvm.ClassFile.FieldType.byte))).before args0 about1 = true := code_word (m := ⟨10, 2⟩) (meth := k10m2) (c := k10c2) (by decide +kernel) rfl rfl rfl (by decide +kernel)
set_option maxRecDepth 65536 in
theorem w_c10 : (Jvm.Cond.code ({ cls := "java/lang/StringUTF16", name := "compress", desc := "([CI[BII)I" } : Jvm.MethodName) jdk_52_method_21_code (7 : Nat) (Option.some Jvm.ClassFile.FieldType.int)).before args0 about1 = true := code_word (m := ⟨10, 3⟩) (meth := k10m3) (c := k10c3) (by decide +kernel) rfl rfl rfl (by decide +kernel)
set_option maxRecDepth 65536 in
theorem w_c11 : (Jvm.Cond.code ({ cls := "java/lang/StringUTF16", name := "coderFromArrayLen", desc := "([BI)B" } : Jvm.MethodName) jdk_52_method_15_code (2 : Nat) (Option.some Jvm.ClassFile.FieldType.byte)).before args0 about1 = true := code_word (m := ⟨10, 1⟩) (meth := k10m1) (c := k10c1) (by decide +kernel) rfl rfl rfl (by decide +kernel)
set_option maxRecDepth 65536 in
theorem w_c12 : (Jvm.Cond.code ({ cls := "java/lang/Integer", name := "valueOf", desc := "(I)Ljava/lang/Integer;" } : Jvm.MethodName) jdk_33_method_22_code (1 : Nat) (Option.some (Jvm.ClassFile.FieldType.object "java/lang/Integer"))).before args0 about1 = true := code_word (m := ⟨12, 0⟩) (meth := k12m0) (c := k12c0) (by decide +kernel) rfl rfl rfl (by decide +kernel)
set_option maxRecDepth 65536 in
theorem w_c13 : (Jvm.Cond.code ({ cls := "java/lang/Integer", name := "<init>", desc := "(I)V" } : Jvm.MethodName) jdk_33_method_23_code (2 : Nat) (Option.none : Option Jvm.ClassFile.FieldType)).before args0 about1 = true := code_word (m := ⟨12, 1⟩) (meth := k12m1) (c := k12c1) (by decide +kernel) rfl rfl rfl (by decide +kernel)
set_option maxRecDepth 65536 in
theorem w_c14 : (Jvm.Cond.code ({ cls := "java/lang/Number", name := "<init>", desc := "()V" } : Jvm.MethodName) jdk_18_method_1_code (1 : Nat) (Option.none : Option Jvm.ClassFile.FieldType)).before args0 about1 = true := code_word (m := ⟨11, 0⟩) (meth := k11m0) (c := k11c0) (by decide +kernel) rfl rfl rfl (by decide +kernel)
def codes1 : List Jvm.Cond := [Jvm.Cond.code x code maxLocals ret, Jvm.Cond.code ({ cls := "com/example/topicd/topicd/message/TopicQueueEqualsPinLaw", name := "str", desc := "(II)Ljava/lang/String;" } : Jvm.MethodName) method_2_code (5 : Nat) (Option.some (Jvm.ClassFile.FieldType.object "java/lang/String")), Jvm.Cond.code ({ cls := "java/lang/String", name := "<init>", desc := "([C)V" } : Jvm.MethodName) jdk_42_method_3_code (2 : Nat) (Option.none : Option Jvm.ClassFile.FieldType), Jvm.Cond.code ({ cls := "java/lang/String", name := "<init>", desc := "([CIILjava/lang/Void;)V" } : Jvm.MethodName) jdk_42_method_149_code (6 : Nat) (Option.none : Option Jvm.ClassFile.FieldType), Jvm.Cond.code ({ cls := "java/lang/Object", name := "<init>", desc := "()V" } : Jvm.MethodName) object_method_1_code (1 : Nat) (Option.none : Option Jvm.ClassFile.FieldType), Jvm.Cond.code ({ cls := "com/example/topicd/topicd/message/TopicQueue", name := "<init>", desc := "(Ljava/lang/String;I)V" } : Jvm.MethodName) prog_18_method_1_code (3 : Nat) (Option.none : Option Jvm.ClassFile.FieldType), Jvm.Cond.code ({ cls := "com/example/topicd/topicd/message/TopicQueue", name := "equals", desc := "(Ljava/lang/Object;)Z" } : Jvm.MethodName) prog_18_method_4_code (2 : Nat) (Option.some Jvm.ClassFile.FieldType.boolean), Jvm.Cond.code ({ cls := "java/lang/String", name := "equals", desc := "(Ljava/lang/Object;)Z" } : Jvm.MethodName) jdk_42_method_66_code (3 : Nat) (Option.some Jvm.ClassFile.FieldType.boolean), Jvm.Cond.code ({ cls := "java/lang/StringLatin1", name := "equals", desc := "([B[B)Z" } : Jvm.MethodName) jdk_43_method_13_code (3 : Nat) (Option.some Jvm.ClassFile.FieldType.boolean), Jvm.Cond.code ({ cls := "java/lang/StringUTF16", name := "compress", desc := "([CII)[B" } : Jvm.MethodName) jdk_52_method_16_code (6 : Nat) (Option.some (Jvm.ClassFile.FieldType.array Jvm.ClassFile.FieldType.byte)), Jvm.Cond.code ({ cls := "java/lang/StringUTF16", name := "compress", desc := "([CI[BII)I" } : Jvm.MethodName) jdk_52_method_21_code (7 : Nat) (Option.some Jvm.ClassFile.FieldType.int), Jvm.Cond.code ({ cls := "java/lang/StringUTF16", name := "coderFromArrayLen", desc := "([BI)B" } : Jvm.MethodName) jdk_52_method_15_code (2 : Nat) (Option.some Jvm.ClassFile.FieldType.byte), Jvm.Cond.code ({ cls := "java/lang/Integer", name := "valueOf", desc := "(I)Ljava/lang/Integer;" } : Jvm.MethodName) jdk_33_method_22_code (1 : Nat) (Option.some (Jvm.ClassFile.FieldType.object "java/lang/Integer")), Jvm.Cond.code ({ cls := "java/lang/Integer", name := "<init>", desc := "(I)V" } : Jvm.MethodName) jdk_33_method_23_code (2 : Nat) (Option.none : Option Jvm.ClassFile.FieldType), Jvm.Cond.code ({ cls := "java/lang/Number", name := "<init>", desc := "()V" } : Jvm.MethodName) jdk_18_method_1_code (1 : Nat) (Option.none : Option Jvm.ClassFile.FieldType)]
set_option maxRecDepth 65536 in
theorem codes_eq : words1.filter isCode = codes1 := rfl
theorem w_codes : ∀ c ∈ words1.filter isCode, c.before args0 about1 = true := by
  rw [codes_eq]
  intro c hc
  simp only [codes1, List.mem_cons, List.not_mem_nil, or_false] at hc
  rcases hc with rfl | rfl | rfl | rfl | rfl | rfl | rfl | rfl | rfl | rfl | rfl | rfl | rfl | rfl | rfl
  · exact w_c0
  · exact w_c1
  · exact w_c2
  · exact w_c3
  · exact w_c4
  · exact w_c5
  · exact w_c6
  · exact w_c7
  · exact w_c8
  · exact w_c9
  · exact w_c10
  · exact w_c11
  · exact w_c12
  · exact w_c13
  · exact w_c14
set_option maxRecDepth 65536 in
theorem w_t1 : (words1.take 24).all (fun c => isCode c || c.before args0 about1) = true := by decide +kernel
set_option maxRecDepth 65536 in
theorem w_t2 : ((words1.drop 24).take 24).all (fun c => isCode c || c.before args0 about1) = true := by decide +kernel
set_option maxRecDepth 65536 in
theorem w_t3 : (((words1.drop 24).drop 24).take 24).all (fun c => isCode c || c.before args0 about1) = true := by decide +kernel
set_option maxRecDepth 65536 in
theorem w_t4 : (((words1.drop 24).drop 24).drop 24).all (fun c => isCode c || c.before args0 about1) = true := by decide +kernel
theorem w_tables : (allAtoms (Jvm.Cond.code x code maxLocals ret :: tables_1)).before args0 about1 = true := by
  rw [allAtoms_all]
  show words1.all (fun c => c.before args0 about1) = true
  refine all_split ?_ w_codes
  rw [← List.take_append_drop 24 words1, List.all_append, w_t1, ← List.take_append_drop 24 (words1.drop 24), List.all_append, w_t2, ← List.take_append_drop 24 ((words1.drop 24).drop 24), List.all_append, w_t3, w_t4]
  rfl
set_option maxRecDepth 65536 in
theorem w_rest : rest_1_c.before args0 about1 = true := by decide +kernel
set_option maxRecDepth 65536 in
theorem w_case : (Jvm.Cond.and given_1 narrow_1).before args0 about1 = true := by decide +kernel
set_option maxRecDepth 65536 in
theorem w_consts : constsHeld consts_1 about1 := Jvm.Lit.constsHeldB_iff.mp (by decide +kernel)
theorem w_applies : (headSpec (Jvm.Cond.code x code maxLocals ret :: tables_1) room_1).applies x e0.platform about1 = true :=
  (Spec.applies_iff w_frames).mpr ⟨w_running, w_runnable, w_alone, w_named, w_hears, w_ripe, w_room, w_tables⟩
theorem atStart : AtStart classFile x code maxLocals ret World_1 tables_1 room_1 Calls_1 rest_1 Pre_1 launch0 p0 e0 about1 theMethod args0 below0 :=
  ⟨lists_1, trivial, launch0.admits_env _ _ _, launch0.least_env, fairChoices_fair.cas, fairChoices_fair.clock, w_frames, w_args, w_heap, w_applies, ⟨w_consts, trivial⟩, w_rest, w_case⟩
end start1
theorem witness_1 : WitnessClaimed_1 := ⟨start1.p0, start1.e0, start1.about1, start1.theMethod, start1.args0, start1.below0, start1.atStart⟩
end Jvm.Pilot.@@N@@
