import JvmDerived
import JvmDerived.Pilot.@@N@@Statement
import JvmDerived.Pilot.@@N@@Code
set_option linter.unusedVariables false
set_option linter.unusedSimpArgs false
@@BLOCK:NumsL.lean.txt@@
namespace Jvm.Pilot.@@N@@
open Jvm Jvm.ClassFile Sem Op Lib Jvm.Free Jvm.Stand Jvm.LawKit Jvm.RoadKit Bundle Jvm.Pilot.@@N@@.Jvm.D
section Own
variable {p : Program} {l : Launch} {e : Env} {R : Room} {s : State} {m : MethodId} {args : Array Value} {below : List Frame} {meth : Method} {c : Code} {T : State} {locs : List Loc} {cells slots cl sl : Nat} {Q : Option Value → Heap → List Loc → Prop}
/-- from the state S the invocation comes to its end, returns, and Q holds of what it returned and left -/
def Goes (p : Program) (e : Env) (below : List Frame) (s : State) (cl sl : Nat) (Q : Option Value → Heap → List Loc → Prop) (S : State) : Prop :=
  ∃ s₂ o, Steps p.tables e below S s₂ ∧ s₂.status = .running ∧ Ended s₂ below o ∧ ∃ v L, o = .returned v ∧ Q v s₂.heap L ∧ FrameEnd s o s₂ L cl sl
theorem Goes.step {S S' : State} (h : ∀ t, Steps p.tables e below S' t → Steps p.tables e below S t) (k : Goes p e below s cl sl Q S') : Goes p e below s cl sl Q S := by
  obtain ⟨s₂, o, a, b⟩ := k
  exact ⟨s₂, o, h _ a, b⟩
theorem Goes.back {S S' : State} (h : Steps p.tables e below S S') (k : Goes p e below s cl sl Q S') : Goes p e below s cl sl Q S := Goes.step (fun _ q => h.trans q) k
theorem Goes.ret (X : Stand p l e R s m args below meth c T locs cells slots) (hx : p.tables.exec = Jvm.exec) (hlk : meth.locks = false) {pc : Nat} {Ls : Array Slot} {w : Value} {t : FieldType} {i : Instr} {rest : List Value} (hret : meth.sig.returnType = some t) (hn : narrow t w = w)
    (hi : (i = .ireturn ∧ (t = .int ∨ t = .boolean ∨ t = .byte ∨ t = .char ∨ t = .short) ∧ ∃ z, w = .int z) ∨ (i = .lreturn ∧ t = .long ∧ ∃ z, w = .long z) ∨ (i = .dreturn ∧ t = .double ∧ ∃ z, w = .double z) ∨ (i = .freturn ∧ t = .float ∧ ∃ z, w = .float z) ∨ (i = .areturn ∧ t.isReference = true ∧ w.isRef = true))
    (hd : decode c.code pc = .ok (i, 1)) (hQ : Q (some w) T.heap locs) (hc : cells ≤ cl) (hs : slots ≤ sl) : Goes p e below s cl sl Q (T.setTop (mkF m pc Ls (w :: rest))) := by
  obtain ⟨fs, hr, hrun, hended, hW, hsame⟩ := X.leave (v := some w) (fun h => by rw [hret] at h; cases h) hlk
  exact ⟨_, _, retOut X hx hret hn hi hd hr, hrun, hended, _, _, rfl, hQ, ⟨_, rfl⟩, hW, hsame.mono hc hs⟩
theorem Goes.retV (X : Stand p l e R s m args below meth c T locs cells slots) (hx : p.tables.exec = Jvm.exec) (hlk : meth.locks = false) {pc : Nat} {Ls : Array Slot} (hret : meth.sig.returnType = none)
    (hd : decode c.code pc = .ok (.return_, 1)) (hQ : Q none T.heap locs) (hc : cells ≤ cl) (hs : slots ≤ sl) : Goes p e below s cl sl Q (T.setTop (mkF m pc Ls [])) := by
  obtain ⟨fs, hr, hrun, hended, hW, hsame⟩ := X.leave (v := none) (fun _ => rfl) hlk
  exact ⟨_, _, X.returnOut hx hret hd hr, hrun, hended, _, _, rfl, hQ, ⟨_, rfl⟩, hW, hsame.mono hc hs⟩
theorem own_eqInt {args : Array Value} {s : State} {t : Term} {k : Int32} (h : (Cond.eq t (.int k)).value args s none s [] = some true) : t.eval args s none [] s = some (.int k) := by
  obtain ⟨x, y, hx, hy, -, k2⟩ := cmp_v (Or.inl h)
  obtain rfl : y = .int k := (Option.some.inj hy).symm
  obtain ⟨z, rfl⟩ := k2
  have e : (Cond.eq t (.int k)).value args s none s [] = some (decide (z = k)) := by simp [Cond.value, hx, hy]
  rw [hx, gotT e h]
theorem own_eqLong {args : Array Value} {s : State} {t : Term} {k : Int64} (h : (Cond.eq t (.long k)).value args s none s [] = some true) : t.eval args s none [] s = some (.long k) := by
  obtain ⟨x, y, hx, hy, -, k2⟩ := cmp_v (Or.inl h)
  obtain rfl : y = .long k := (Option.some.inj hy).symm
  obtain ⟨z, rfl⟩ := k2
  rw [hx, gotT (eq_L hx hy) h]
theorem own_neFld {Z : State} {h : Heap} {a b : Addr} {C n d : String} {x y : Int32} (F : Fld Z h a C n d (.int x)) (G : Fld Z h b C n d (.int y)) (q : x ≠ y) : a ≠ b := fun e => by
  subst e
  obtain ⟨cell, cf, k, i, f, h1, h2, -, -, -, -, h7⟩ := F
  obtain ⟨cell', cf', k', i', f', g1, g2, -, -, -, -, g7⟩ := G
  cases h1.symm.trans g1
  cases h2.symm.trans g2
  rw [h7] at g7
  injection g7 with g8
  injection g8 with g9
  exact q g9
theorem own_miss1 {k : Int32} {a : Int} (b : Int32) (hb : b.toInt = a) (h : ¬ k = b) : a ≠ k.toInt := fun q => h (Int32.toInt_inj.mp (by rw [hb, q]))
theorem own_find3 {k : Int32} {a b c' o1 o2 o3 : Int} {a' b' d' : Int32} (ha : ¬ k = a') (hb : ¬ k = b') (hc : ¬ k = d') (ea : a'.toInt = a := by rfl) (eb : b'.toInt = b := by rfl) (ec : d'.toInt = c' := by rfl) : (#[(a, o1), (b, o2), (c', o3)] : Array (Int × Int)).find? (·.1 == k.toInt) = none :=
  find_miss fun p hp => by
    simp only [List.mem_cons, List.not_mem_nil, or_false] at hp
    rcases hp with rfl | rfl | rfl
    · exact own_miss1 _ ea ha
    · exact own_miss1 _ eb hb
    · exact own_miss1 _ ec hc
theorem own_insKeep {Z : State} {h h' : Heap} {a : Addr} {C : String} {b : Bool} {ws : List Addr} (F : Ins Z h a C b) (K : Keep h h' ws) : Ins Z h' a C b := by
  obtain ⟨cell, cT, h1, h2, h3⟩ := F
  obtain ⟨c', q, r1, r2, r3⟩ := K.2.2 a cell h1
  exact ⟨c', cT, q, h2, by rw [r1, r2]; exact h3⟩
theorem own_insLt {Z : State} {h : Heap} {a : Addr} {C : String} {b : Bool} (F : Ins Z h a C b) : a < h.size := by
  obtain ⟨cell, cT, h1, -⟩ := F
  exact (Array.getElem?_eq_some_iff.mp h1).1
theorem own_cat {v : Value} (h : v.isRef = true) : v.category = 1 := by cases v <;> first | rfl | (simp [Value.isRef] at h)
theorem own_nar {ty : FieldType} {v : Value} (h : v.isRef = true) : narrow ty v = v := by cases v <;> first | (simp [Value.isRef] at h; done) | (cases ty <;> rfl)
theorem own_fit {C : String} {v : Value} (h : v.isRef = true) : fits (.object C) v = true := by cases v <;> first | rfl | (simp [Value.isRef] at h)
/-- a private method is selected by its own type, which is no interface since another method of it is selected -/
theorem own_selPriv {s : State} {args : Array Value} {C : String} {x z y : MethodName} (w : (Cond.selects C x z).before args s = true) (hc : z.cls = y.cls) (hp : (Cond.privateMethod y).before args s = true) (hi : (Cond.instanceMethod y).before args s = true)
    (hy : y.cls ≠ "java/lang/invoke/MethodHandle" ∧ y.cls ≠ "java/lang/invoke/VarHandle") : (Cond.selects y.cls y y).before args s = true := by
  obtain ⟨c2, r2, m2, -, -, q3, -, kP, hkP, hkPi⟩ := Cond.selects_spec w
  have hf := findClass_of_methodNamed q3
  rw [hc] at hf
  exact selects_self_of_private hf hkP hkPi (Cond.privateMethod_at hp) hi hy
/-- an array whose contents aren't told -/
def Arx (Z : State) (h : Heap) (a : Addr) (k : ClassId) (ty : FieldType) (n : Int32) : Prop :=
  ∃ cl : Cell, Arr Z h a cl ty ∧ cl.cls = k ∧ cl.slots.size = n.toNatClampNeg ∧ ¬ n < 0 ∧ ∀ i, i < cl.slots.size → ∃ v, cl.slots[i]? = some v ∧ fits ty v = true
theorem Arx.lt {Z : State} {h : Heap} {a : Addr} {k : ClassId} {ty : FieldType} {n : Int32} (F : Arx Z h a k ty n) : a < h.size := by obtain ⟨cl, A, -⟩ := F; exact A.lt
theorem Arx.ext {Z : State} {h h' : Heap} {a : Addr} {k : ClassId} {ty : FieldType} {n : Int32} (F : Arx Z h a k ty n) (E : Ext h h') : Arx Z h' a k ty n := by obtain ⟨cl, A, r⟩ := F; exact ⟨cl, A.ext E, r⟩
theorem Arx.other {Z : State} {h h' : Heap} {a b : Addr} {k : ClassId} {ty : FieldType} {n : Int32} {sl : Nat} {v : Value} (F : Arx Z h b k ty n) (W : Wr h h' a sl v) (q : b ≠ a) : Arx Z h' b k ty n := by obtain ⟨cl, A, r⟩ := F; exact ⟨cl, A.other W q, r⟩
theorem Arx.keep {Z : State} {h h' : Heap} {a : Addr} {k : ClassId} {ty : FieldType} {n : Int32} {ws : List Addr} (F : Arx Z h a k ty n) (K : Keep h h' ws) (q : a ∉ ws) : Arx Z h' a k ty n := by obtain ⟨cl, A, r⟩ := F; exact ⟨cl, ⟨K.2.1 a cl A.1 q, A.2⟩, r⟩
theorem Arx.set {Z : State} {h h' : Heap} {a : Addr} {k : ClassId} {ty : FieldType} {n : Int32} {cl : Cell} {sl : Nat} {v : Value} (A : Arr Z h a cl ty) (q1 : cl.cls = k) (S : cl.slots.size = n.toNatClampNeg) (P : ¬ n < 0) (G : ∀ i, i < cl.slots.size → ∃ v, cl.slots[i]? = some v ∧ fits ty v = true) (hv : fits ty v = true) (W : Wr h h' a sl v) : Arx Z h' a k ty n := by
  refine ⟨_, A.same W, q1, by rw [sz_set]; exact S, P, fun i hi => ?_⟩
  rw [sz_set] at hi
  by_cases u : sl = i
  · subst u
    exact ⟨v, by simp [Cell.setSlot, hi], hv⟩
  · obtain ⟨w, e1, e2⟩ := G i hi
    refine ⟨w, ?_, e2⟩
    show (cl.slots.setIfInBounds sl v)[i]? = some w
    rw [Array.getElem?_setIfInBounds_ne u]
    exact e1
theorem own_arx {Z : State} {h : Heap} {a : Addr} {k : ClassId} {ty : FieldType} {n : Int32} {vs : List Value} {d : Value} (F : Arv Z h a k ty n vs d) : Arx Z h a k ty n := by
  obtain ⟨cl, A, r1, r2, r3, H, G⟩ := F
  exact ⟨cl, A, r1, r2, r3, fun i hi => ⟨_, H i hi, G i hi⟩⟩
theorem own_arI {cl : Cell} {j : Int32} (G : ∀ i, i < cl.slots.size → ∃ v, cl.slots[i]? = some v ∧ fits .int v = true) (hin : ¬ (j < 0 ∨ cl.slots.size ≤ j.toNatClampNeg)) : ∃ x : Int32, cl.slots[j.toNatClampNeg]? = some (.int x) := by
  obtain ⟨v, e1, e2⟩ := G _ (Nat.lt_of_not_le fun q => hin (Or.inr q))
  obtain ⟨x, rfl⟩ := fit_I e2 (Or.inl rfl)
  exact ⟨x, e1⟩
theorem own_arD {cl : Cell} {j : Int32} (G : ∀ i, i < cl.slots.size → ∃ v, cl.slots[i]? = some v ∧ fits .double v = true) (hin : ¬ (j < 0 ∨ cl.slots.size ≤ j.toNatClampNeg)) : ∃ x, cl.slots[j.toNatClampNeg]? = some (.double x) := by
  obtain ⟨v, e1, e2⟩ := G _ (Nat.lt_of_not_le fun q => hin (Or.inr q))
  obtain ⟨x, rfl⟩ := fit_D e2
  exact ⟨x, e1⟩
end Own
theorem own_arx0 {s : State} {args : Array Value} {t : Term} {a : Addr} {cl : Cell} {ty : FieldType} {n : Int32} (hfit : Fit s) (et : t.eval args s none [] s = some (.ref a)) (A : Arr s s.heap a cl ty) (hl : (Term.length t).eval args s none [] s = some (.int n)) (hn : ¬ n < 0) : Arx s s.heap a cl.cls ty n := by
  obtain ⟨x, c2, e1, e2, e4, e3⟩ := Jvm.Free.SB.Term.length_small hl
  cases et.symm.trans e1
  cases (A.fin (Vm.Alike.refl _)).symm.trans e2
  injection e4 with e5
  have hs : cl.slots.size = n.toNatClampNeg := by
    rw [e5]
    simp only [Int32.toNatClampNeg, len_toInt e3]
    rfl
  refine ⟨cl, A, rfl, hs, hn, fun i hi => ?_⟩
  have hq : ¬ (i.toInt32 < 0 ∨ cl.slots.size ≤ i.toInt32.toNatClampNeg) := idx_in hi e3
  obtain ⟨v, r1, r2⟩ := elem_fit hfit A hq
  refine ⟨v, ?_, r2⟩
  have hi2 : i.toInt32.toNatClampNeg = i := by simp only [Int32.toNatClampNeg, len_toInt (Nat.lt_trans hi e3)]; rfl
  rw [hi2] at r1
  exact r1
section OwnNums
theorem own_maskNN (x : Int32) : 0 ≤ (x &&& 2147483647).toInt ∧ (x &&& 2147483647).toInt < 2 ^ 31 := by
  have h : (x &&& 2147483647).toInt = x.toInt % 2 ^ 31 := Jvm.Kit.i32_mask x 2147483647 (k := 31) (by decide) (by decide)
  omega
theorem own_remB (x : Int32) (n : Int32) (hn : 0 < n.toInt) : 0 ≤ ((x &&& 2147483647) % n).toInt ∧ ((x &&& 2147483647) % n).toInt < n.toInt := by
  rw [Int32.toInt_mod, Int.tmod_eq_emod_of_nonneg (own_maskNN x).1]
  exact ⟨Int.emod_nonneg _ (by omega), Int.emod_lt_of_pos _ hn⟩
theorem own_eqOf {i : Int32} (k : Int32) (h : i.toInt = k.toInt) : i = k := Int32.toInt_inj.mp h
end OwnNums
theorem own_ten {x i : Int32} (h : (x &&& (2147483647 : Int32)) % (10 : Int32) = i) : i = 0 ∨ i = 1 ∨ i = 2 ∨ i = 3 ∨ i = 4 ∨ i = 5 ∨ i = 6 ∨ i = 7 ∨ i = 8 ∨ i = 9 := by
  have b := own_remB x 10 (by decide)
  rw [h] at b
  have e : (10 : Int32).toInt = 10 := rfl
  have q : i.toInt = 0 ∨ i.toInt = 1 ∨ i.toInt = 2 ∨ i.toInt = 3 ∨ i.toInt = 4 ∨ i.toInt = 5 ∨ i.toInt = 6 ∨ i.toInt = 7 ∨ i.toInt = 8 ∨ i.toInt = 9 := by omega
  rcases q with q | q | q | q | q | q | q | q | q | q
  · exact Or.inl (own_eqOf 0 q)
  · exact Or.inr (Or.inl (own_eqOf 1 q))
  · exact Or.inr (Or.inr (Or.inl (own_eqOf 2 q)))
  · exact Or.inr (Or.inr (Or.inr (Or.inl (own_eqOf 3 q))))
  · exact Or.inr (Or.inr (Or.inr (Or.inr (Or.inl (own_eqOf 4 q)))))
  · exact Or.inr (Or.inr (Or.inr (Or.inr (Or.inr (Or.inl (own_eqOf 5 q))))))
  · exact Or.inr (Or.inr (Or.inr (Or.inr (Or.inr (Or.inr (Or.inl (own_eqOf 6 q)))))))
  · exact Or.inr (Or.inr (Or.inr (Or.inr (Or.inr (Or.inr (Or.inr (Or.inl (own_eqOf 7 q))))))))
  · exact Or.inr (Or.inr (Or.inr (Or.inr (Or.inr (Or.inr (Or.inr (Or.inr (Or.inl (own_eqOf 8 q)))))))))
  · exact Or.inr (Or.inr (Or.inr (Or.inr (Or.inr (Or.inr (Or.inr (Or.inr (Or.inr (own_eqOf 9 q)))))))))
theorem d1_0 : decode prog_1_method_5_code 0 = .ok (.aload_n 0, 1) := by decide +kernel
theorem d1_1 : decode prog_1_method_5_code 1 = .ok (.getstatic 10, 3) := by decide +kernel
theorem d1_4 : decode prog_1_method_5_code 4 = .ok (.if_acmp .eq 38, 3) := by decide +kernel
theorem d1_7 : decode prog_1_method_5_code 7 = .ok (.aload_n 0, 1) := by decide +kernel
theorem d1_8 : decode prog_1_method_5_code 8 = .ok (.getstatic 13, 3) := by decide +kernel
theorem d1_11 : decode prog_1_method_5_code 11 = .ok (.if_acmp .eq 31, 3) := by decide +kernel
theorem d1_14 : decode prog_1_method_5_code 14 = .ok (.aload_n 0, 1) := by decide +kernel
theorem d1_15 : decode prog_1_method_5_code 15 = .ok (.getstatic 16, 3) := by decide +kernel
theorem d1_18 : decode prog_1_method_5_code 18 = .ok (.if_acmp .eq 24, 3) := by decide +kernel
theorem d1_21 : decode prog_1_method_5_code 21 = .ok (.aload_n 0, 1) := by decide +kernel
theorem d1_22 : decode prog_1_method_5_code 22 = .ok (.getstatic 19, 3) := by decide +kernel
theorem d1_25 : decode prog_1_method_5_code 25 = .ok (.if_acmp .eq 17, 3) := by decide +kernel
theorem d1_28 : decode prog_1_method_5_code 28 = .ok (.aload_n 0, 1) := by decide +kernel
theorem d1_29 : decode prog_1_method_5_code 29 = .ok (.getstatic 28, 3) := by decide +kernel
theorem d1_32 : decode prog_1_method_5_code 32 = .ok (.if_acmp .eq 10, 3) := by decide +kernel
theorem d1_35 : decode prog_1_method_5_code 35 = .ok (.aload_n 0, 1) := by decide +kernel
theorem d1_36 : decode prog_1_method_5_code 36 = .ok (.getstatic 31, 3) := by decide +kernel
theorem d1_39 : decode prog_1_method_5_code 39 = .ok (.if_acmp .ne 7, 3) := by decide +kernel
theorem d1_42 : decode prog_1_method_5_code 42 = .ok (.iconst 1, 1) := by decide +kernel
theorem d1_43 : decode prog_1_method_5_code 43 = .ok (.goto 4, 3) := by decide +kernel
theorem d1_46 : decode prog_1_method_5_code 46 = .ok (.iconst 0, 1) := by decide +kernel
theorem d1_47 : decode prog_1_method_5_code 47 = .ok (.ireturn, 1) := by decide +kernel
theorem pn_1 : plainName "com/example/concordat/concordat/BranchStatus" = true := by first | (simp [plainName, overriddenIn]; done) | decide +kernel
theorem ef_1 (m : MethodId) (x0 : Addr) (y_COMMITTED : Addr) (y_ROLLED_BACK : Addr) (y_CONFIRMED : Addr) (y_CANCELLED : Addr) (y_FAILED : Addr) (y_COMPENSATED : Addr)  : entryFrame m #[(.ref x0)] 1 = mkF m 0 #[.val (.ref x0)] [] := by first | (simp [entryFrame, mkF, argsToLocals, Value.category]; done) | rfl
def Q1 (Z : State) (x0 : Addr) (y_COMMITTED : Addr) (y_ROLLED_BACK : Addr) (y_CONFIRMED : Addr) (y_CANCELLED : Addr) (y_FAILED : Addr) (y_COMPENSATED : Addr) (h0 : Heap) (n0 : Nat) (v : Option Value) (h : Heap) (L : List Loc) : Prop := Fr n0 L ∧ h = h0 ∧ ((v = some (.int (1 : Int32)) ∧ x0 = y_COMMITTED) ∨ (v = some (.int (1 : Int32)) ∧ ¬ (x0 = y_COMMITTED) ∧ x0 = y_ROLLED_BACK) ∨ (v = some (.int (1 : Int32)) ∧ ¬ (x0 = y_COMMITTED) ∧ ¬ (x0 = y_ROLLED_BACK) ∧ x0 = y_CONFIRMED) ∨ (v = some (.int (1 : Int32)) ∧ ¬ (x0 = y_COMMITTED) ∧ ¬ (x0 = y_ROLLED_BACK) ∧ ¬ (x0 = y_CONFIRMED) ∧ x0 = y_CANCELLED) ∨ (v = some (.int (1 : Int32)) ∧ ¬ (x0 = y_COMMITTED) ∧ ¬ (x0 = y_ROLLED_BACK) ∧ ¬ (x0 = y_CONFIRMED) ∧ ¬ (x0 = y_CANCELLED) ∧ x0 = y_FAILED) ∨ (v = some (.int (1 : Int32)) ∧ ¬ (x0 = y_COMMITTED) ∧ ¬ (x0 = y_ROLLED_BACK) ∧ ¬ (x0 = y_CONFIRMED) ∧ ¬ (x0 = y_CANCELLED) ∧ ¬ (x0 = y_FAILED) ∧ x0 = y_COMPENSATED) ∨ (v = some (.int (0 : Int32)) ∧ ¬ (x0 = y_COMMITTED) ∧ ¬ (x0 = y_ROLLED_BACK) ∧ ¬ (x0 = y_CONFIRMED) ∧ ¬ (x0 = y_CANCELLED) ∧ ¬ (x0 = y_FAILED) ∧ ¬ (x0 = y_COMPENSATED)))
set_option maxRecDepth 65536 in
set_option maxHeartbeats 40000000 in
theorem rm1 (l : Launch) (Z : State) (a0 : Array Value) (hw : ∀ d ∈ tables_1, d.before a0 Z = true) (ws : List Jvm.Cond) (x0 : Addr) (y_COMMITTED : Addr) (y_ROLLED_BACK : Addr) (y_CONFIRMED : Addr) (y_CANCELLED : Addr) (y_FAILED : Addr) (y_COMPENSATED : Addr) (h0 : Heap) (n0 : Nat) (Z0 : n0 ≤ h0.size) (S_COMMITTED : Sta Z Z.heap "com/example/concordat/concordat/BranchStatus" "COMMITTED" "Lcom/example/concordat/concordat/BranchStatus;" (.ref y_COMMITTED)) (S_ROLLED_BACK : Sta Z Z.heap "com/example/concordat/concordat/BranchStatus" "ROLLED_BACK" "Lcom/example/concordat/concordat/BranchStatus;" (.ref y_ROLLED_BACK)) (S_CONFIRMED : Sta Z Z.heap "com/example/concordat/concordat/BranchStatus" "CONFIRMED" "Lcom/example/concordat/concordat/BranchStatus;" (.ref y_CONFIRMED)) (S_CANCELLED : Sta Z Z.heap "com/example/concordat/concordat/BranchStatus" "CANCELLED" "Lcom/example/concordat/concordat/BranchStatus;" (.ref y_CANCELLED)) (S_FAILED : Sta Z Z.heap "com/example/concordat/concordat/BranchStatus" "FAILED" "Lcom/example/concordat/concordat/BranchStatus;" (.ref y_FAILED)) (S_COMPENSATED : Sta Z Z.heap "com/example/concordat/concordat/BranchStatus" "COMPENSATED" "Lcom/example/concordat/concordat/BranchStatus;" (.ref y_COMPENSATED)) (X00 : Old Z n0 h0) :
    MetFree l (⟨"com/example/concordat/concordat/BranchStatus", "isFinal", "()Z"⟩ : MethodName) (head1 (Jvm.Cond.code (⟨"com/example/concordat/concordat/BranchStatus", "isFinal", "()Z"⟩ : MethodName) prog_1_method_5_code 1 (some .boolean) :: ws) ({ frames := 0, cells := 0, slots := 0, locals := 0 } : Room)) (fun a U => a = #[(.ref x0)] ∧ Z.Warmed39 U.vm ∧ U.heap = h0) (fun _ _ _ _ _ => True) (fun _ U o U' => ∃ v L, o = .returned v ∧ Q1 Z x0 y_COMMITTED y_ROLLED_BACK y_CONFIRMED y_CANCELLED y_FAILED y_COMPENSATED h0 n0 v U'.heap L ∧ FrameEnd U o U' L ({ frames := 0, cells := 0, slots := 0, locals := 0 } : Room).cells ({ frames := 0, cells := 0, slots := 0, locals := 0 } : Room).slots) := by
  refine MetFree.of_bodySF (plainFor_of_name pn_1) hisR ?_
  intro p e s m args below meth c s₁ Bd hml0 hP hK
  obtain ⟨rfl, hZ, hh⟩ := hP
  have hx := Bd.exec
  have hby := Bd.bytes
  have hml : c.maxLocals = 1 := hml0
  have hown : s.vm.findClass "com/example/concordat/concordat/BranchStatus" = some m.cls := findClass_of_methodNamed Bd.named
  have hnm := (name_of_methodNamed Bd.named Bd.method).1
  have X0 : Stand p l e ({ frames := 0, cells := 0, slots := 0, locals := 0 } : Room) s m #[(.ref x0)] below meth c s₁ [] 0 0 := Stand.of_body Bd
  have e0 : s₁.heap = h0 := by rw [← hh, Bd.state]; rfl
  have N0 := Fr.nil n0
  have K0 : Keep h0 h0 [] := Keep.refl h0 _
  refine (?_ : Goes p e below s ({ frames := 0, cells := 0, slots := 0, locals := 0 } : Room).cells ({ frames := 0, cells := 0, slots := 0, locals := 0 } : Room).slots (fun v h L => Q1 Z x0 y_COMMITTED y_ROLLED_BACK y_CONFIRMED y_CANCELLED y_FAILED y_COMPENSATED h0 n0 v h L) (s₁.setTop (entryFrame m #[(.ref x0)] 1)))
  rw [ef_1 m x0 y_COMMITTED y_ROLLED_BACK y_CONFIRMED y_CANCELLED y_FAILED y_COMPENSATED ]
  show Goes _ _ _ _ _ _ _ (s₁.setTop (mkF m 0 #[.val (.ref x0)] []))
  refine Goes.step (fun _ k => XS.aloadN X0.here hx rfl (hb hby d1_0) rfl rfl k) ?_
  show Goes _ _ _ _ _ _ _ (s₁.setTop (mkF m 1 #[.val (.ref x0)] [(.ref x0)]))
  obtain ⟨T1, X1, e1, st1⟩ := getS2 X0 hx hZ hown (host := "") (Or.inl (hw _ (List.mem_of_getElem? (i := 30) rfl))) Via.refl e0 (S_COMMITTED.ext X00.2) (g := (mkF m 1 #[.val (.ref x0)] [(.ref x0)])) rfl (hb hby d1_1)
  refine Goes.step st1 ?_
  show Goes _ _ _ _ _ _ _ (T1.setTop (mkF m 4 #[.val (.ref x0)] [(.ref y_COMMITTED), (.ref x0)]))
  by_cases c4_2 : x0 = y_COMMITTED
  · refine Goes.step (fun _ k => Jvm.RoadKit.acmp X1 hx rfl rfl rfl (pc0 := 4) (pc' := 42) (same := true) rfl (hb hby d1_4) rfl (decide_eq_true (congrArg Value.ref c4_2)) (by decide) (by decide) k) ?_
    show Goes _ _ _ _ _ _ _ (T1.setTop (mkF m 42 #[.val (.ref x0)] []))
    refine Goes.step (fun _ k => XS.iconst X1.here hx rfl (hb hby d1_42) k) ?_
    show Goes _ _ _ _ _ _ _ (T1.setTop (mkF m 43 #[.val (.ref x0)] [(.int (1 : Int32))]))
    refine Goes.step (fun _ k => XS.goto X1.here hx rfl (pc0 := 43) (pc' := 47) rfl (hb hby d1_43) (by decide) (by decide) k) ?_
    show Goes _ _ _ _ _ _ _ (T1.setTop (mkF m 47 #[.val (.ref x0)] [(.int (1 : Int32))]))
    exact Goes.ret X1 hx (BodyLoose.notSynchronized Bd) Bd.returns rfl (Or.inl ⟨rfl, by simp, _, rfl⟩) (hb hby d1_47) (by show Q1 Z x0 y_COMMITTED y_ROLLED_BACK y_CONFIRMED y_CANCELLED y_FAILED y_COMPENSATED h0 n0 (some (.int (1 : Int32))) T1.heap _; rw [e1]; exact ⟨N0, rfl, Or.inl (⟨rfl, c4_2⟩)⟩) (by decide) (by decide)
  · refine Goes.step (fun _ k => Jvm.RoadKit.acmp X1 hx rfl rfl rfl (pc0 := 4) (pc' := 7) (same := false) rfl (hb hby d1_4) rfl (decide_eq_false fun q => c4_2 (Value.ref.inj q)) (by decide) (by decide) k) ?_
    show Goes _ _ _ _ _ _ _ (T1.setTop (mkF m 7 #[.val (.ref x0)] []))
    refine Goes.step (fun _ k => XS.aloadN X1.here hx rfl (hb hby d1_7) rfl rfl k) ?_
    show Goes _ _ _ _ _ _ _ (T1.setTop (mkF m 8 #[.val (.ref x0)] [(.ref x0)]))
    obtain ⟨T3, X3, e3, st3⟩ := getS2 X1 hx hZ hown (host := "") (Or.inl (hw _ (List.mem_of_getElem? (i := 31) rfl))) Via.refl e1 (S_ROLLED_BACK.ext X00.2) (g := (mkF m 8 #[.val (.ref x0)] [(.ref x0)])) rfl (hb hby d1_8)
    refine Goes.step st3 ?_
    show Goes _ _ _ _ _ _ _ (T3.setTop (mkF m 11 #[.val (.ref x0)] [(.ref y_ROLLED_BACK), (.ref x0)]))
    by_cases c11_4 : x0 = y_ROLLED_BACK
    · refine Goes.step (fun _ k => Jvm.RoadKit.acmp X3 hx rfl rfl rfl (pc0 := 11) (pc' := 42) (same := true) rfl (hb hby d1_11) rfl (decide_eq_true (congrArg Value.ref c11_4)) (by decide) (by decide) k) ?_
      show Goes _ _ _ _ _ _ _ (T3.setTop (mkF m 42 #[.val (.ref x0)] []))
      refine Goes.step (fun _ k => XS.iconst X3.here hx rfl (hb hby d1_42) k) ?_
      show Goes _ _ _ _ _ _ _ (T3.setTop (mkF m 43 #[.val (.ref x0)] [(.int (1 : Int32))]))
      refine Goes.step (fun _ k => XS.goto X3.here hx rfl (pc0 := 43) (pc' := 47) rfl (hb hby d1_43) (by decide) (by decide) k) ?_
      show Goes _ _ _ _ _ _ _ (T3.setTop (mkF m 47 #[.val (.ref x0)] [(.int (1 : Int32))]))
      exact Goes.ret X3 hx (BodyLoose.notSynchronized Bd) Bd.returns rfl (Or.inl ⟨rfl, by simp, _, rfl⟩) (hb hby d1_47) (by show Q1 Z x0 y_COMMITTED y_ROLLED_BACK y_CONFIRMED y_CANCELLED y_FAILED y_COMPENSATED h0 n0 (some (.int (1 : Int32))) T3.heap _; rw [e3]; exact ⟨N0, rfl, Or.inr (Or.inl (⟨rfl, c4_2, c11_4⟩))⟩) (by decide) (by decide)
    · refine Goes.step (fun _ k => Jvm.RoadKit.acmp X3 hx rfl rfl rfl (pc0 := 11) (pc' := 14) (same := false) rfl (hb hby d1_11) rfl (decide_eq_false fun q => c11_4 (Value.ref.inj q)) (by decide) (by decide) k) ?_
      show Goes _ _ _ _ _ _ _ (T3.setTop (mkF m 14 #[.val (.ref x0)] []))
      refine Goes.step (fun _ k => XS.aloadN X3.here hx rfl (hb hby d1_14) rfl rfl k) ?_
      show Goes _ _ _ _ _ _ _ (T3.setTop (mkF m 15 #[.val (.ref x0)] [(.ref x0)]))
      obtain ⟨T5, X5, e5, st5⟩ := getS2 X3 hx hZ hown (host := "") (Or.inl (hw _ (List.mem_of_getElem? (i := 32) rfl))) Via.refl e3 (S_CONFIRMED.ext X00.2) (g := (mkF m 15 #[.val (.ref x0)] [(.ref x0)])) rfl (hb hby d1_15)
      refine Goes.step st5 ?_
      show Goes _ _ _ _ _ _ _ (T5.setTop (mkF m 18 #[.val (.ref x0)] [(.ref y_CONFIRMED), (.ref x0)]))
      by_cases c18_6 : x0 = y_CONFIRMED
      · refine Goes.step (fun _ k => Jvm.RoadKit.acmp X5 hx rfl rfl rfl (pc0 := 18) (pc' := 42) (same := true) rfl (hb hby d1_18) rfl (decide_eq_true (congrArg Value.ref c18_6)) (by decide) (by decide) k) ?_
        show Goes _ _ _ _ _ _ _ (T5.setTop (mkF m 42 #[.val (.ref x0)] []))
        refine Goes.step (fun _ k => XS.iconst X5.here hx rfl (hb hby d1_42) k) ?_
        show Goes _ _ _ _ _ _ _ (T5.setTop (mkF m 43 #[.val (.ref x0)] [(.int (1 : Int32))]))
        refine Goes.step (fun _ k => XS.goto X5.here hx rfl (pc0 := 43) (pc' := 47) rfl (hb hby d1_43) (by decide) (by decide) k) ?_
        show Goes _ _ _ _ _ _ _ (T5.setTop (mkF m 47 #[.val (.ref x0)] [(.int (1 : Int32))]))
        exact Goes.ret X5 hx (BodyLoose.notSynchronized Bd) Bd.returns rfl (Or.inl ⟨rfl, by simp, _, rfl⟩) (hb hby d1_47) (by show Q1 Z x0 y_COMMITTED y_ROLLED_BACK y_CONFIRMED y_CANCELLED y_FAILED y_COMPENSATED h0 n0 (some (.int (1 : Int32))) T5.heap _; rw [e5]; exact ⟨N0, rfl, Or.inr (Or.inr (Or.inl (⟨rfl, c4_2, c11_4, c18_6⟩)))⟩) (by decide) (by decide)
      · refine Goes.step (fun _ k => Jvm.RoadKit.acmp X5 hx rfl rfl rfl (pc0 := 18) (pc' := 21) (same := false) rfl (hb hby d1_18) rfl (decide_eq_false fun q => c18_6 (Value.ref.inj q)) (by decide) (by decide) k) ?_
        show Goes _ _ _ _ _ _ _ (T5.setTop (mkF m 21 #[.val (.ref x0)] []))
        refine Goes.step (fun _ k => XS.aloadN X5.here hx rfl (hb hby d1_21) rfl rfl k) ?_
        show Goes _ _ _ _ _ _ _ (T5.setTop (mkF m 22 #[.val (.ref x0)] [(.ref x0)]))
        obtain ⟨T7, X7, e7, st7⟩ := getS2 X5 hx hZ hown (host := "") (Or.inl (hw _ (List.mem_of_getElem? (i := 33) rfl))) Via.refl e5 (S_CANCELLED.ext X00.2) (g := (mkF m 22 #[.val (.ref x0)] [(.ref x0)])) rfl (hb hby d1_22)
        refine Goes.step st7 ?_
        show Goes _ _ _ _ _ _ _ (T7.setTop (mkF m 25 #[.val (.ref x0)] [(.ref y_CANCELLED), (.ref x0)]))
        by_cases c25_8 : x0 = y_CANCELLED
        · refine Goes.step (fun _ k => Jvm.RoadKit.acmp X7 hx rfl rfl rfl (pc0 := 25) (pc' := 42) (same := true) rfl (hb hby d1_25) rfl (decide_eq_true (congrArg Value.ref c25_8)) (by decide) (by decide) k) ?_
          show Goes _ _ _ _ _ _ _ (T7.setTop (mkF m 42 #[.val (.ref x0)] []))
          refine Goes.step (fun _ k => XS.iconst X7.here hx rfl (hb hby d1_42) k) ?_
          show Goes _ _ _ _ _ _ _ (T7.setTop (mkF m 43 #[.val (.ref x0)] [(.int (1 : Int32))]))
          refine Goes.step (fun _ k => XS.goto X7.here hx rfl (pc0 := 43) (pc' := 47) rfl (hb hby d1_43) (by decide) (by decide) k) ?_
          show Goes _ _ _ _ _ _ _ (T7.setTop (mkF m 47 #[.val (.ref x0)] [(.int (1 : Int32))]))
          exact Goes.ret X7 hx (BodyLoose.notSynchronized Bd) Bd.returns rfl (Or.inl ⟨rfl, by simp, _, rfl⟩) (hb hby d1_47) (by show Q1 Z x0 y_COMMITTED y_ROLLED_BACK y_CONFIRMED y_CANCELLED y_FAILED y_COMPENSATED h0 n0 (some (.int (1 : Int32))) T7.heap _; rw [e7]; exact ⟨N0, rfl, Or.inr (Or.inr (Or.inr (Or.inl (⟨rfl, c4_2, c11_4, c18_6, c25_8⟩))))⟩) (by decide) (by decide)
        · refine Goes.step (fun _ k => Jvm.RoadKit.acmp X7 hx rfl rfl rfl (pc0 := 25) (pc' := 28) (same := false) rfl (hb hby d1_25) rfl (decide_eq_false fun q => c25_8 (Value.ref.inj q)) (by decide) (by decide) k) ?_
          show Goes _ _ _ _ _ _ _ (T7.setTop (mkF m 28 #[.val (.ref x0)] []))
          refine Goes.step (fun _ k => XS.aloadN X7.here hx rfl (hb hby d1_28) rfl rfl k) ?_
          show Goes _ _ _ _ _ _ _ (T7.setTop (mkF m 29 #[.val (.ref x0)] [(.ref x0)]))
          obtain ⟨T9, X9, e9, st9⟩ := getS2 X7 hx hZ hown (host := "") (Or.inl (hw _ (List.mem_of_getElem? (i := 34) rfl))) Via.refl e7 (S_FAILED.ext X00.2) (g := (mkF m 29 #[.val (.ref x0)] [(.ref x0)])) rfl (hb hby d1_29)
          refine Goes.step st9 ?_
          show Goes _ _ _ _ _ _ _ (T9.setTop (mkF m 32 #[.val (.ref x0)] [(.ref y_FAILED), (.ref x0)]))
          by_cases c32_10 : x0 = y_FAILED
          · refine Goes.step (fun _ k => Jvm.RoadKit.acmp X9 hx rfl rfl rfl (pc0 := 32) (pc' := 42) (same := true) rfl (hb hby d1_32) rfl (decide_eq_true (congrArg Value.ref c32_10)) (by decide) (by decide) k) ?_
            show Goes _ _ _ _ _ _ _ (T9.setTop (mkF m 42 #[.val (.ref x0)] []))
            refine Goes.step (fun _ k => XS.iconst X9.here hx rfl (hb hby d1_42) k) ?_
            show Goes _ _ _ _ _ _ _ (T9.setTop (mkF m 43 #[.val (.ref x0)] [(.int (1 : Int32))]))
            refine Goes.step (fun _ k => XS.goto X9.here hx rfl (pc0 := 43) (pc' := 47) rfl (hb hby d1_43) (by decide) (by decide) k) ?_
            show Goes _ _ _ _ _ _ _ (T9.setTop (mkF m 47 #[.val (.ref x0)] [(.int (1 : Int32))]))
            exact Goes.ret X9 hx (BodyLoose.notSynchronized Bd) Bd.returns rfl (Or.inl ⟨rfl, by simp, _, rfl⟩) (hb hby d1_47) (by show Q1 Z x0 y_COMMITTED y_ROLLED_BACK y_CONFIRMED y_CANCELLED y_FAILED y_COMPENSATED h0 n0 (some (.int (1 : Int32))) T9.heap _; rw [e9]; exact ⟨N0, rfl, Or.inr (Or.inr (Or.inr (Or.inr (Or.inl (⟨rfl, c4_2, c11_4, c18_6, c25_8, c32_10⟩)))))⟩) (by decide) (by decide)
          · refine Goes.step (fun _ k => Jvm.RoadKit.acmp X9 hx rfl rfl rfl (pc0 := 32) (pc' := 35) (same := false) rfl (hb hby d1_32) rfl (decide_eq_false fun q => c32_10 (Value.ref.inj q)) (by decide) (by decide) k) ?_
            show Goes _ _ _ _ _ _ _ (T9.setTop (mkF m 35 #[.val (.ref x0)] []))
            refine Goes.step (fun _ k => XS.aloadN X9.here hx rfl (hb hby d1_35) rfl rfl k) ?_
            show Goes _ _ _ _ _ _ _ (T9.setTop (mkF m 36 #[.val (.ref x0)] [(.ref x0)]))
            obtain ⟨T11, X11, e11, st11⟩ := getS2 X9 hx hZ hown (host := "") (Or.inl (hw _ (List.mem_of_getElem? (i := 35) rfl))) Via.refl e9 (S_COMPENSATED.ext X00.2) (g := (mkF m 36 #[.val (.ref x0)] [(.ref x0)])) rfl (hb hby d1_36)
            refine Goes.step st11 ?_
            show Goes _ _ _ _ _ _ _ (T11.setTop (mkF m 39 #[.val (.ref x0)] [(.ref y_COMPENSATED), (.ref x0)]))
            by_cases c39_12 : x0 = y_COMPENSATED
            · refine Goes.step (fun _ k => Jvm.RoadKit.acmp X11 hx rfl rfl rfl (pc0 := 39) (pc' := 42) (same := true) rfl (hb hby d1_39) rfl (decide_eq_true (congrArg Value.ref c39_12)) (by decide) (by decide) k) ?_
              show Goes _ _ _ _ _ _ _ (T11.setTop (mkF m 42 #[.val (.ref x0)] []))
              refine Goes.step (fun _ k => XS.iconst X11.here hx rfl (hb hby d1_42) k) ?_
              show Goes _ _ _ _ _ _ _ (T11.setTop (mkF m 43 #[.val (.ref x0)] [(.int (1 : Int32))]))
              refine Goes.step (fun _ k => XS.goto X11.here hx rfl (pc0 := 43) (pc' := 47) rfl (hb hby d1_43) (by decide) (by decide) k) ?_
              show Goes _ _ _ _ _ _ _ (T11.setTop (mkF m 47 #[.val (.ref x0)] [(.int (1 : Int32))]))
              exact Goes.ret X11 hx (BodyLoose.notSynchronized Bd) Bd.returns rfl (Or.inl ⟨rfl, by simp, _, rfl⟩) (hb hby d1_47) (by show Q1 Z x0 y_COMMITTED y_ROLLED_BACK y_CONFIRMED y_CANCELLED y_FAILED y_COMPENSATED h0 n0 (some (.int (1 : Int32))) T11.heap _; rw [e11]; exact ⟨N0, rfl, Or.inr (Or.inr (Or.inr (Or.inr (Or.inr (Or.inl (⟨rfl, c4_2, c11_4, c18_6, c25_8, c32_10, c39_12⟩))))))⟩) (by decide) (by decide)
            · refine Goes.step (fun _ k => Jvm.RoadKit.acmp X11 hx rfl rfl rfl (pc0 := 39) (pc' := 46) (same := false) rfl (hb hby d1_39) rfl (decide_eq_false fun q => c39_12 (Value.ref.inj q)) (by decide) (by decide) k) ?_
              show Goes _ _ _ _ _ _ _ (T11.setTop (mkF m 46 #[.val (.ref x0)] []))
              refine Goes.step (fun _ k => XS.iconst X11.here hx rfl (hb hby d1_46) k) ?_
              show Goes _ _ _ _ _ _ _ (T11.setTop (mkF m 47 #[.val (.ref x0)] [(.int (0 : Int32))]))
              exact Goes.ret X11 hx (BodyLoose.notSynchronized Bd) Bd.returns rfl (Or.inl ⟨rfl, by simp, _, rfl⟩) (hb hby d1_47) (by show Q1 Z x0 y_COMMITTED y_ROLLED_BACK y_CONFIRMED y_CANCELLED y_FAILED y_COMPENSATED h0 n0 (some (.int (0 : Int32))) T11.heap _; rw [e11]; exact ⟨N0, rfl, Or.inr (Or.inr (Or.inr (Or.inr (Or.inr (Or.inr (⟨rfl, c4_2, c11_4, c18_6, c25_8, c32_10, c39_12⟩))))))⟩) (by decide) (by decide)
theorem pn_0 : plainName "com/example/concordat/concordat/BranchStatusIsFinalPinLaw" = true := by first | (simp [plainName, overriddenIn]; done) | decide +kernel
theorem ef_0 (m : MethodId) (p0 : Int32) (a_REGISTERED : Addr) (a_PREPARED : Addr) (a_COMMITTED : Addr) (a_ROLLED_BACK : Addr) (a_CONFIRMED : Addr) (a_CANCELLED : Addr) (a_PENDING : Addr) (a_SUCCEEDED : Addr) (a_FAILED : Addr) (a_COMPENSATED : Addr)  : entryFrame m #[(.int p0)] maxLocals = mkF m 0 #[.val (.int p0), .unset, .unset, .unset, .unset] [] := by first | (simp [entryFrame, mkF, argsToLocals, Value.category, maxLocals]; done) | rfl
theorem pd_0 : parseMethodDescriptor "()Z" = some ⟨[], some .boolean⟩ := by decide +kernel
def Q0 (Z : State) (p0 : Int32) (a_REGISTERED : Addr) (a_PREPARED : Addr) (a_COMMITTED : Addr) (a_ROLLED_BACK : Addr) (a_CONFIRMED : Addr) (a_CANCELLED : Addr) (a_PENDING : Addr) (a_SUCCEEDED : Addr) (a_FAILED : Addr) (a_COMPENSATED : Addr) (h0 : Heap) (n0 : Nat) (v : Option Value) (h : Heap) (L : List Loc) : Prop := v = some (.int 1) ∧ Fr n0 L
set_option maxRecDepth 65536 in
set_option maxHeartbeats 40000000 in
theorem rm0 (l : Launch) (Z : State) (a0 : Array Value) (hw : ∀ d ∈ tables_1, d.before a0 Z = true) (ws : List Jvm.Cond) (p0 : Int32) (a_REGISTERED : Addr) (a_PREPARED : Addr) (a_COMMITTED : Addr) (a_ROLLED_BACK : Addr) (a_CONFIRMED : Addr) (a_CANCELLED : Addr) (a_PENDING : Addr) (a_SUCCEEDED : Addr) (a_FAILED : Addr) (a_COMPENSATED : Addr) (h0 : Heap) (n0 : Nat) (Z0 : n0 ≤ h0.size) (S_REGISTERED : Sta Z Z.heap "com/example/concordat/concordat/BranchStatus" "REGISTERED" "Lcom/example/concordat/concordat/BranchStatus;" (.ref a_REGISTERED)) (S_PREPARED : Sta Z Z.heap "com/example/concordat/concordat/BranchStatus" "PREPARED" "Lcom/example/concordat/concordat/BranchStatus;" (.ref a_PREPARED)) (S_COMMITTED : Sta Z Z.heap "com/example/concordat/concordat/BranchStatus" "COMMITTED" "Lcom/example/concordat/concordat/BranchStatus;" (.ref a_COMMITTED)) (S_ROLLED_BACK : Sta Z Z.heap "com/example/concordat/concordat/BranchStatus" "ROLLED_BACK" "Lcom/example/concordat/concordat/BranchStatus;" (.ref a_ROLLED_BACK)) (S_CONFIRMED : Sta Z Z.heap "com/example/concordat/concordat/BranchStatus" "CONFIRMED" "Lcom/example/concordat/concordat/BranchStatus;" (.ref a_CONFIRMED)) (S_CANCELLED : Sta Z Z.heap "com/example/concordat/concordat/BranchStatus" "CANCELLED" "Lcom/example/concordat/concordat/BranchStatus;" (.ref a_CANCELLED)) (S_PENDING : Sta Z Z.heap "com/example/concordat/concordat/BranchStatus" "PENDING" "Lcom/example/concordat/concordat/BranchStatus;" (.ref a_PENDING)) (S_SUCCEEDED : Sta Z Z.heap "com/example/concordat/concordat/BranchStatus" "SUCCEEDED" "Lcom/example/concordat/concordat/BranchStatus;" (.ref a_SUCCEEDED)) (S_FAILED : Sta Z Z.heap "com/example/concordat/concordat/BranchStatus" "FAILED" "Lcom/example/concordat/concordat/BranchStatus;" (.ref a_FAILED)) (S_COMPENSATED : Sta Z Z.heap "com/example/concordat/concordat/BranchStatus" "COMPENSATED" "Lcom/example/concordat/concordat/BranchStatus;" (.ref a_COMPENSATED)) (E_REGISTERED : Exa Z h0 a_REGISTERED "com/example/concordat/concordat/BranchStatus") (E_PREPARED : Exa Z h0 a_PREPARED "com/example/concordat/concordat/BranchStatus") (E_COMMITTED : Exa Z h0 a_COMMITTED "com/example/concordat/concordat/BranchStatus") (E_ROLLED_BACK : Exa Z h0 a_ROLLED_BACK "com/example/concordat/concordat/BranchStatus") (E_CONFIRMED : Exa Z h0 a_CONFIRMED "com/example/concordat/concordat/BranchStatus") (E_CANCELLED : Exa Z h0 a_CANCELLED "com/example/concordat/concordat/BranchStatus") (E_PENDING : Exa Z h0 a_PENDING "com/example/concordat/concordat/BranchStatus") (E_SUCCEEDED : Exa Z h0 a_SUCCEEDED "com/example/concordat/concordat/BranchStatus") (E_FAILED : Exa Z h0 a_FAILED "com/example/concordat/concordat/BranchStatus") (E_COMPENSATED : Exa Z h0 a_COMPENSATED "com/example/concordat/concordat/BranchStatus") (ne_PREPARED_REGISTERED : a_PREPARED ≠ a_REGISTERED) (ne_COMMITTED_REGISTERED : a_COMMITTED ≠ a_REGISTERED) (ne_COMMITTED_PREPARED : a_COMMITTED ≠ a_PREPARED) (ne_ROLLED_BACK_REGISTERED : a_ROLLED_BACK ≠ a_REGISTERED) (ne_ROLLED_BACK_PREPARED : a_ROLLED_BACK ≠ a_PREPARED) (ne_ROLLED_BACK_COMMITTED : a_ROLLED_BACK ≠ a_COMMITTED) (ne_CONFIRMED_REGISTERED : a_CONFIRMED ≠ a_REGISTERED) (ne_CONFIRMED_PREPARED : a_CONFIRMED ≠ a_PREPARED) (ne_CONFIRMED_COMMITTED : a_CONFIRMED ≠ a_COMMITTED) (ne_CONFIRMED_ROLLED_BACK : a_CONFIRMED ≠ a_ROLLED_BACK) (ne_CANCELLED_REGISTERED : a_CANCELLED ≠ a_REGISTERED) (ne_CANCELLED_PREPARED : a_CANCELLED ≠ a_PREPARED) (ne_CANCELLED_COMMITTED : a_CANCELLED ≠ a_COMMITTED) (ne_CANCELLED_ROLLED_BACK : a_CANCELLED ≠ a_ROLLED_BACK) (ne_CANCELLED_CONFIRMED : a_CANCELLED ≠ a_CONFIRMED) (ne_PENDING_REGISTERED : a_PENDING ≠ a_REGISTERED) (ne_PENDING_PREPARED : a_PENDING ≠ a_PREPARED) (ne_PENDING_COMMITTED : a_PENDING ≠ a_COMMITTED) (ne_PENDING_ROLLED_BACK : a_PENDING ≠ a_ROLLED_BACK) (ne_PENDING_CONFIRMED : a_PENDING ≠ a_CONFIRMED) (ne_PENDING_CANCELLED : a_PENDING ≠ a_CANCELLED) (ne_SUCCEEDED_REGISTERED : a_SUCCEEDED ≠ a_REGISTERED) (ne_SUCCEEDED_PREPARED : a_SUCCEEDED ≠ a_PREPARED) (ne_SUCCEEDED_COMMITTED : a_SUCCEEDED ≠ a_COMMITTED) (ne_SUCCEEDED_ROLLED_BACK : a_SUCCEEDED ≠ a_ROLLED_BACK) (ne_SUCCEEDED_CONFIRMED : a_SUCCEEDED ≠ a_CONFIRMED) (ne_SUCCEEDED_CANCELLED : a_SUCCEEDED ≠ a_CANCELLED) (ne_SUCCEEDED_PENDING : a_SUCCEEDED ≠ a_PENDING) (ne_FAILED_REGISTERED : a_FAILED ≠ a_REGISTERED) (ne_FAILED_PREPARED : a_FAILED ≠ a_PREPARED) (ne_FAILED_COMMITTED : a_FAILED ≠ a_COMMITTED) (ne_FAILED_ROLLED_BACK : a_FAILED ≠ a_ROLLED_BACK) (ne_FAILED_CONFIRMED : a_FAILED ≠ a_CONFIRMED) (ne_FAILED_CANCELLED : a_FAILED ≠ a_CANCELLED) (ne_FAILED_PENDING : a_FAILED ≠ a_PENDING) (ne_FAILED_SUCCEEDED : a_FAILED ≠ a_SUCCEEDED) (ne_COMPENSATED_REGISTERED : a_COMPENSATED ≠ a_REGISTERED) (ne_COMPENSATED_PREPARED : a_COMPENSATED ≠ a_PREPARED) (ne_COMPENSATED_COMMITTED : a_COMPENSATED ≠ a_COMMITTED) (ne_COMPENSATED_ROLLED_BACK : a_COMPENSATED ≠ a_ROLLED_BACK) (ne_COMPENSATED_CONFIRMED : a_COMPENSATED ≠ a_CONFIRMED) (ne_COMPENSATED_CANCELLED : a_COMPENSATED ≠ a_CANCELLED) (ne_COMPENSATED_PENDING : a_COMPENSATED ≠ a_PENDING) (ne_COMPENSATED_SUCCEEDED : a_COMPENSATED ≠ a_SUCCEEDED) (ne_COMPENSATED_FAILED : a_COMPENSATED ≠ a_FAILED) (X00 : Old Z n0 h0) :
    MetFree l x (head1 (Jvm.Cond.code x code maxLocals ret :: ws) room_1) (fun a U => a = #[(.int p0)] ∧ Z.Warmed39 U.vm ∧ U.heap = h0) (fun _ _ _ _ _ => True) (fun _ U o U' => ∃ v L, o = .returned v ∧ Q0 Z p0 a_REGISTERED a_PREPARED a_COMMITTED a_ROLLED_BACK a_CONFIRMED a_CANCELLED a_PENDING a_SUCCEEDED a_FAILED a_COMPENSATED h0 n0 v U'.heap L ∧ FrameEnd U o U' L room_1.cells room_1.slots) := by
  refine MetFree.of_bodySF (plainFor_of_name pn_0) hisR ?_
  intro p e s m args below meth c s₁ Bd hml0 hP hK
  obtain ⟨rfl, hZ, hh⟩ := hP
  have hx := Bd.exec
  have hby := Bd.bytes
  have hml : c.maxLocals = 5 := hml0
  have hown : s.vm.findClass "com/example/concordat/concordat/BranchStatusIsFinalPinLaw" = some m.cls := findClass_of_methodNamed Bd.named
  have hnm := (name_of_methodNamed Bd.named Bd.method).1
  have X0 : Stand p l e room_1 s m #[(.int p0)] below meth c s₁ [] 0 0 := Stand.of_body Bd
  have e0 : s₁.heap = h0 := by rw [← hh, Bd.state]; rfl
  have N0 := Fr.nil n0
  have K0 : Keep h0 h0 [] := Keep.refl h0 _
  refine (?_ : Goes p e below s room_1.cells room_1.slots (fun v h L => Q0 Z p0 a_REGISTERED a_PREPARED a_COMMITTED a_ROLLED_BACK a_CONFIRMED a_CANCELLED a_PENDING a_SUCCEEDED a_FAILED a_COMPENSATED h0 n0 v h L) (s₁.setTop (entryFrame m #[(.int p0)] maxLocals)))
  rw [ef_0 m p0 a_REGISTERED a_PREPARED a_COMMITTED a_ROLLED_BACK a_CONFIRMED a_CANCELLED a_PENDING a_SUCCEEDED a_FAILED a_COMPENSATED ]
  show Goes _ _ _ _ _ _ _ (s₁.setTop (mkF m 0 #[.val (.int p0), .unset, .unset, .unset, .unset] []))
  refine Goes.step (fun _ k => XS.bipush X0.here hx rfl (hb hby at_0) k) ?_
  show Goes _ _ _ _ _ _ _ (s₁.setTop (mkF m 2 #[.val (.int p0), .unset, .unset, .unset, .unset] [(.int (10 : Int32))]))
  obtain ⟨T1, h1, k1, X1, e1, E1, A1, O1, st1⟩ := newR X0 hx hZ hown (hw _ (List.mem_of_getElem? (i := 0) rfl)) (hw _ (List.mem_of_getElem? (i := 1) rfl)) e0 (g := (mkF m 2 #[.val (.int p0), .unset, .unset, .unset, .unset] [(.int (10 : Int32))])) rfl (hb hby at_2) rfl (by decide) (cap := 10) (by decide) (by decide) (by decide) (by decide)
  obtain ⟨b1, g1⟩ : ∃ z, z = h0.size := ⟨_, rfl⟩
  rw [← g1] at A1 st1
  refine Goes.step st1 ?_
  have g_b1 : n0 ≤ b1 := Nat.le_trans Z0 (Nat.le_of_eq g1.symm)
  have sz_b1 : h0.size ≤ b1 := Nat.le_trans K0.1 (Nat.le_of_eq g1.symm)
  have ne2 : a_REGISTERED ≠ b1 := Nat.ne_of_lt (Nat.lt_of_lt_of_le E_REGISTERED.lt (Nat.le_of_eq g1.symm))
  have ne3 : a_PREPARED ≠ b1 := Nat.ne_of_lt (Nat.lt_of_lt_of_le E_PREPARED.lt (Nat.le_of_eq g1.symm))
  have ne4 : a_COMMITTED ≠ b1 := Nat.ne_of_lt (Nat.lt_of_lt_of_le E_COMMITTED.lt (Nat.le_of_eq g1.symm))
  have ne5 : a_ROLLED_BACK ≠ b1 := Nat.ne_of_lt (Nat.lt_of_lt_of_le E_ROLLED_BACK.lt (Nat.le_of_eq g1.symm))
  have ne6 : a_CONFIRMED ≠ b1 := Nat.ne_of_lt (Nat.lt_of_lt_of_le E_CONFIRMED.lt (Nat.le_of_eq g1.symm))
  have ne7 : a_CANCELLED ≠ b1 := Nat.ne_of_lt (Nat.lt_of_lt_of_le E_CANCELLED.lt (Nat.le_of_eq g1.symm))
  have ne8 : a_PENDING ≠ b1 := Nat.ne_of_lt (Nat.lt_of_lt_of_le E_PENDING.lt (Nat.le_of_eq g1.symm))
  have ne9 : a_SUCCEEDED ≠ b1 := Nat.ne_of_lt (Nat.lt_of_lt_of_le E_SUCCEEDED.lt (Nat.le_of_eq g1.symm))
  have ne10 : a_FAILED ≠ b1 := Nat.ne_of_lt (Nat.lt_of_lt_of_le E_FAILED.lt (Nat.le_of_eq g1.symm))
  have ne11 : a_COMPENSATED ≠ b1 := Nat.ne_of_lt (Nat.lt_of_lt_of_le E_COMPENSATED.lt (Nat.le_of_eq g1.symm))
  have XO12 : Old Z n0 h1 := X00.ext E1
  have f13 := E_REGISTERED.ext E1
  have f14 := E_PREPARED.ext E1
  have f15 := E_COMMITTED.ext E1
  have f16 := E_ROLLED_BACK.ext E1
  have f17 := E_CONFIRMED.ext E1
  have f18 := E_CANCELLED.ext E1
  have f19 := E_PENDING.ext E1
  have f20 := E_SUCCEEDED.ext E1
  have f21 := E_FAILED.ext E1
  have f22 := E_COMPENSATED.ext E1
  have K23 : Keep h0 h1 [] := K0.ext E1
  have Z23 : n0 ≤ h1.size := Nat.le_trans Z0 E1.1
  have V_b1 : Arv Z h1 b1 k1 (.object "com/example/concordat/concordat/BranchStatus") (10 : Int32) [.null, .null, .null, .null, .null, .null, .null, .null, .null, .null] .null := (Arv.new A1 (by decide)).pad (pad_rep [] .null 10)
  show Goes _ _ _ _ _ _ _ (T1.setTop (mkF m 5 #[.val (.int p0), .unset, .unset, .unset, .unset] [(.ref b1)]))
  refine Goes.step (fun _ k => XS.dup X1.here hx rfl (hb hby at_5) rfl rfl k) ?_
  show Goes _ _ _ _ _ _ _ (T1.setTop (mkF m 6 #[.val (.int p0), .unset, .unset, .unset, .unset] [(.ref b1), (.ref b1)]))
  refine Goes.step (fun _ k => XS.iconst X1.here hx rfl (hb hby at_6) k) ?_
  show Goes _ _ _ _ _ _ _ (T1.setTop (mkF m 7 #[.val (.int p0), .unset, .unset, .unset, .unset] [(.int (0 : Int32)), (.ref b1), (.ref b1)]))
  obtain ⟨T24, X24, e24, st24⟩ := getS2 X1 hx hZ hown (host := "") (Or.inl (hw _ (List.mem_of_getElem? (i := 2) rfl))) Via.refl e1 (S_REGISTERED.ext XO12.2) (g := (mkF m 7 #[.val (.int p0), .unset, .unset, .unset, .unset] [(.int (0 : Int32)), (.ref b1), (.ref b1)])) rfl (hb hby at_7)
  refine Goes.step st24 ?_
  show Goes _ _ _ _ _ _ _ (T24.setTop (mkF m 10 #[.val (.int p0), .unset, .unset, .unset, .unset] [(.ref a_REGISTERED), (.int (0 : Int32)), (.ref b1), (.ref b1)]))
  obtain ⟨cl25, Ar25, q25, S25, P25, H25, G25⟩ := V_b1
  have hin25 : ¬ ((0 : Int32) < 0 ∨ cl25.slots.size ≤ ((0 : Int32)).toNatClampNeg) := inb_of S25 ⟨by decide, by decide⟩
  obtain ⟨T26, h26, X26, e26, W26, st26⟩ := stR X24 hx hZ e24 Ar25 (j := (0 : Int32)) hin25 rfl (Sto.ofV Ar25 q25 O1 (Ins.self f13)) (g := (mkF m 10 #[.val (.int p0), .unset, .unset, .unset, .unset] [(.ref a_REGISTERED), (.int (0 : Int32)), (.ref b1), (.ref b1)])) rfl rfl (hb hby at_10)
  refine Goes.step st26 ?_
  have V26 := Arv.set Ar25 q25 S25 P25 H25 G25 rfl W26 0 rfl (Nat.le_of_ble_eq_true rfl)
  have XO27 : Old Z n0 h26 := XO12.wr W26 g_b1
  have f28 := f13.wr W26
  have f29 := f14.wr W26
  have f30 := f15.wr W26
  have f31 := f16.wr W26
  have f32 := f17.wr W26
  have f33 := f18.wr W26
  have f34 := f19.wr W26
  have f35 := f20.wr W26
  have f36 := f21.wr W26
  have f37 := f22.wr W26
  have f38 := V26
  have K39 : Keep h0 h26 [] := K23.wr W26 (Or.inr sz_b1)
  have Z39 : n0 ≤ h26.size := by rw [Wr.size W26]; exact Z23
  have N39 := Fr.snoc X26 N0 g_b1
  show Goes _ _ _ _ _ _ _ (T26.setTop (mkF m 11 #[.val (.int p0), .unset, .unset, .unset, .unset] [(.ref b1)]))
  refine Goes.step (fun _ k => XS.dup X26.here hx rfl (hb hby at_11) rfl rfl k) ?_
  show Goes _ _ _ _ _ _ _ (T26.setTop (mkF m 12 #[.val (.int p0), .unset, .unset, .unset, .unset] [(.ref b1), (.ref b1)]))
  refine Goes.step (fun _ k => XS.iconst X26.here hx rfl (hb hby at_12) k) ?_
  show Goes _ _ _ _ _ _ _ (T26.setTop (mkF m 13 #[.val (.int p0), .unset, .unset, .unset, .unset] [(.int (1 : Int32)), (.ref b1), (.ref b1)]))
  obtain ⟨T40, X40, e40, st40⟩ := getS2 X26 hx hZ hown (host := "") (Or.inl (hw _ (List.mem_of_getElem? (i := 6) rfl))) Via.refl e26 (S_PREPARED.ext XO27.2) (g := (mkF m 13 #[.val (.int p0), .unset, .unset, .unset, .unset] [(.int (1 : Int32)), (.ref b1), (.ref b1)])) rfl (hb hby at_13)
  refine Goes.step st40 ?_
  show Goes _ _ _ _ _ _ _ (T40.setTop (mkF m 16 #[.val (.int p0), .unset, .unset, .unset, .unset] [(.ref a_PREPARED), (.int (1 : Int32)), (.ref b1), (.ref b1)]))
  obtain ⟨cl41, Ar41, q41, S41, P41, H41, G41⟩ := f38
  have hin41 : ¬ ((1 : Int32) < 0 ∨ cl41.slots.size ≤ ((1 : Int32)).toNatClampNeg) := inb_of S41 ⟨by decide, by decide⟩
  obtain ⟨T42, h42, X42, e42, W42, st42⟩ := stR X40 hx hZ e40 Ar41 (j := (1 : Int32)) hin41 rfl (Sto.ofV Ar41 q41 O1 (Ins.self f29)) (g := (mkF m 16 #[.val (.int p0), .unset, .unset, .unset, .unset] [(.ref a_PREPARED), (.int (1 : Int32)), (.ref b1), (.ref b1)])) rfl rfl (hb hby at_16)
  refine Goes.step st42 ?_
  have V42 := Arv.set Ar41 q41 S41 P41 H41 G41 rfl W42 1 rfl (Nat.le_of_ble_eq_true rfl)
  have XO43 : Old Z n0 h42 := XO27.wr W42 g_b1
  have f44 := f28.wr W42
  have f45 := f29.wr W42
  have f46 := f30.wr W42
  have f47 := f31.wr W42
  have f48 := f32.wr W42
  have f49 := f33.wr W42
  have f50 := f34.wr W42
  have f51 := f35.wr W42
  have f52 := f36.wr W42
  have f53 := f37.wr W42
  have f54 := V42
  have K55 : Keep h0 h42 [] := K39.wr W42 (Or.inr sz_b1)
  have Z55 : n0 ≤ h42.size := by rw [Wr.size W42]; exact Z39
  have N55 := Fr.snoc X42 N39 g_b1
  show Goes _ _ _ _ _ _ _ (T42.setTop (mkF m 17 #[.val (.int p0), .unset, .unset, .unset, .unset] [(.ref b1)]))
  refine Goes.step (fun _ k => XS.dup X42.here hx rfl (hb hby at_17) rfl rfl k) ?_
  show Goes _ _ _ _ _ _ _ (T42.setTop (mkF m 18 #[.val (.int p0), .unset, .unset, .unset, .unset] [(.ref b1), (.ref b1)]))
  refine Goes.step (fun _ k => XS.iconst X42.here hx rfl (hb hby at_18) k) ?_
  show Goes _ _ _ _ _ _ _ (T42.setTop (mkF m 19 #[.val (.int p0), .unset, .unset, .unset, .unset] [(.int (2 : Int32)), (.ref b1), (.ref b1)]))
  obtain ⟨T56, X56, e56, st56⟩ := getS2 X42 hx hZ hown (host := "") (Or.inl (hw _ (List.mem_of_getElem? (i := 8) rfl))) Via.refl e42 (S_COMMITTED.ext XO43.2) (g := (mkF m 19 #[.val (.int p0), .unset, .unset, .unset, .unset] [(.int (2 : Int32)), (.ref b1), (.ref b1)])) rfl (hb hby at_19)
  refine Goes.step st56 ?_
  show Goes _ _ _ _ _ _ _ (T56.setTop (mkF m 22 #[.val (.int p0), .unset, .unset, .unset, .unset] [(.ref a_COMMITTED), (.int (2 : Int32)), (.ref b1), (.ref b1)]))
  obtain ⟨cl57, Ar57, q57, S57, P57, H57, G57⟩ := f54
  have hin57 : ¬ ((2 : Int32) < 0 ∨ cl57.slots.size ≤ ((2 : Int32)).toNatClampNeg) := inb_of S57 ⟨by decide, by decide⟩
  obtain ⟨T58, h58, X58, e58, W58, st58⟩ := stR X56 hx hZ e56 Ar57 (j := (2 : Int32)) hin57 rfl (Sto.ofV Ar57 q57 O1 (Ins.self f46)) (g := (mkF m 22 #[.val (.int p0), .unset, .unset, .unset, .unset] [(.ref a_COMMITTED), (.int (2 : Int32)), (.ref b1), (.ref b1)])) rfl rfl (hb hby at_22)
  refine Goes.step st58 ?_
  have V58 := Arv.set Ar57 q57 S57 P57 H57 G57 rfl W58 2 rfl (Nat.le_of_ble_eq_true rfl)
  have XO59 : Old Z n0 h58 := XO43.wr W58 g_b1
  have f60 := f44.wr W58
  have f61 := f45.wr W58
  have f62 := f46.wr W58
  have f63 := f47.wr W58
  have f64 := f48.wr W58
  have f65 := f49.wr W58
  have f66 := f50.wr W58
  have f67 := f51.wr W58
  have f68 := f52.wr W58
  have f69 := f53.wr W58
  have f70 := V58
  have K71 : Keep h0 h58 [] := K55.wr W58 (Or.inr sz_b1)
  have Z71 : n0 ≤ h58.size := by rw [Wr.size W58]; exact Z55
  have N71 := Fr.snoc X58 N55 g_b1
  show Goes _ _ _ _ _ _ _ (T58.setTop (mkF m 23 #[.val (.int p0), .unset, .unset, .unset, .unset] [(.ref b1)]))
  refine Goes.step (fun _ k => XS.dup X58.here hx rfl (hb hby at_23) rfl rfl k) ?_
  show Goes _ _ _ _ _ _ _ (T58.setTop (mkF m 24 #[.val (.int p0), .unset, .unset, .unset, .unset] [(.ref b1), (.ref b1)]))
  refine Goes.step (fun _ k => XS.iconst X58.here hx rfl (hb hby at_24) k) ?_
  show Goes _ _ _ _ _ _ _ (T58.setTop (mkF m 25 #[.val (.int p0), .unset, .unset, .unset, .unset] [(.int (3 : Int32)), (.ref b1), (.ref b1)]))
  obtain ⟨T72, X72, e72, st72⟩ := getS2 X58 hx hZ hown (host := "") (Or.inl (hw _ (List.mem_of_getElem? (i := 10) rfl))) Via.refl e58 (S_ROLLED_BACK.ext XO59.2) (g := (mkF m 25 #[.val (.int p0), .unset, .unset, .unset, .unset] [(.int (3 : Int32)), (.ref b1), (.ref b1)])) rfl (hb hby at_25)
  refine Goes.step st72 ?_
  show Goes _ _ _ _ _ _ _ (T72.setTop (mkF m 28 #[.val (.int p0), .unset, .unset, .unset, .unset] [(.ref a_ROLLED_BACK), (.int (3 : Int32)), (.ref b1), (.ref b1)]))
  obtain ⟨cl73, Ar73, q73, S73, P73, H73, G73⟩ := f70
  have hin73 : ¬ ((3 : Int32) < 0 ∨ cl73.slots.size ≤ ((3 : Int32)).toNatClampNeg) := inb_of S73 ⟨by decide, by decide⟩
  obtain ⟨T74, h74, X74, e74, W74, st74⟩ := stR X72 hx hZ e72 Ar73 (j := (3 : Int32)) hin73 rfl (Sto.ofV Ar73 q73 O1 (Ins.self f63)) (g := (mkF m 28 #[.val (.int p0), .unset, .unset, .unset, .unset] [(.ref a_ROLLED_BACK), (.int (3 : Int32)), (.ref b1), (.ref b1)])) rfl rfl (hb hby at_28)
  refine Goes.step st74 ?_
  have V74 := Arv.set Ar73 q73 S73 P73 H73 G73 rfl W74 3 rfl (Nat.le_of_ble_eq_true rfl)
  have XO75 : Old Z n0 h74 := XO59.wr W74 g_b1
  have f76 := f60.wr W74
  have f77 := f61.wr W74
  have f78 := f62.wr W74
  have f79 := f63.wr W74
  have f80 := f64.wr W74
  have f81 := f65.wr W74
  have f82 := f66.wr W74
  have f83 := f67.wr W74
  have f84 := f68.wr W74
  have f85 := f69.wr W74
  have f86 := V74
  have K87 : Keep h0 h74 [] := K71.wr W74 (Or.inr sz_b1)
  have Z87 : n0 ≤ h74.size := by rw [Wr.size W74]; exact Z71
  have N87 := Fr.snoc X74 N71 g_b1
  show Goes _ _ _ _ _ _ _ (T74.setTop (mkF m 29 #[.val (.int p0), .unset, .unset, .unset, .unset] [(.ref b1)]))
  refine Goes.step (fun _ k => XS.dup X74.here hx rfl (hb hby at_29) rfl rfl k) ?_
  show Goes _ _ _ _ _ _ _ (T74.setTop (mkF m 30 #[.val (.int p0), .unset, .unset, .unset, .unset] [(.ref b1), (.ref b1)]))
  refine Goes.step (fun _ k => XS.iconst X74.here hx rfl (hb hby at_30) k) ?_
  show Goes _ _ _ _ _ _ _ (T74.setTop (mkF m 31 #[.val (.int p0), .unset, .unset, .unset, .unset] [(.int (4 : Int32)), (.ref b1), (.ref b1)]))
  obtain ⟨T88, X88, e88, st88⟩ := getS2 X74 hx hZ hown (host := "") (Or.inl (hw _ (List.mem_of_getElem? (i := 12) rfl))) Via.refl e74 (S_CONFIRMED.ext XO75.2) (g := (mkF m 31 #[.val (.int p0), .unset, .unset, .unset, .unset] [(.int (4 : Int32)), (.ref b1), (.ref b1)])) rfl (hb hby at_31)
  refine Goes.step st88 ?_
  show Goes _ _ _ _ _ _ _ (T88.setTop (mkF m 34 #[.val (.int p0), .unset, .unset, .unset, .unset] [(.ref a_CONFIRMED), (.int (4 : Int32)), (.ref b1), (.ref b1)]))
  obtain ⟨cl89, Ar89, q89, S89, P89, H89, G89⟩ := f86
  have hin89 : ¬ ((4 : Int32) < 0 ∨ cl89.slots.size ≤ ((4 : Int32)).toNatClampNeg) := inb_of S89 ⟨by decide, by decide⟩
  obtain ⟨T90, h90, X90, e90, W90, st90⟩ := stR X88 hx hZ e88 Ar89 (j := (4 : Int32)) hin89 rfl (Sto.ofV Ar89 q89 O1 (Ins.self f80)) (g := (mkF m 34 #[.val (.int p0), .unset, .unset, .unset, .unset] [(.ref a_CONFIRMED), (.int (4 : Int32)), (.ref b1), (.ref b1)])) rfl rfl (hb hby at_34)
  refine Goes.step st90 ?_
  have V90 := Arv.set Ar89 q89 S89 P89 H89 G89 rfl W90 4 rfl (Nat.le_of_ble_eq_true rfl)
  have XO91 : Old Z n0 h90 := XO75.wr W90 g_b1
  have f92 := f76.wr W90
  have f93 := f77.wr W90
  have f94 := f78.wr W90
  have f95 := f79.wr W90
  have f96 := f80.wr W90
  have f97 := f81.wr W90
  have f98 := f82.wr W90
  have f99 := f83.wr W90
  have f100 := f84.wr W90
  have f101 := f85.wr W90
  have f102 := V90
  have K103 : Keep h0 h90 [] := K87.wr W90 (Or.inr sz_b1)
  have Z103 : n0 ≤ h90.size := by rw [Wr.size W90]; exact Z87
  have N103 := Fr.snoc X90 N87 g_b1
  show Goes _ _ _ _ _ _ _ (T90.setTop (mkF m 35 #[.val (.int p0), .unset, .unset, .unset, .unset] [(.ref b1)]))
  refine Goes.step (fun _ k => XS.dup X90.here hx rfl (hb hby at_35) rfl rfl k) ?_
  show Goes _ _ _ _ _ _ _ (T90.setTop (mkF m 36 #[.val (.int p0), .unset, .unset, .unset, .unset] [(.ref b1), (.ref b1)]))
  refine Goes.step (fun _ k => XS.iconst X90.here hx rfl (hb hby at_36) k) ?_
  show Goes _ _ _ _ _ _ _ (T90.setTop (mkF m 37 #[.val (.int p0), .unset, .unset, .unset, .unset] [(.int (5 : Int32)), (.ref b1), (.ref b1)]))
  obtain ⟨T104, X104, e104, st104⟩ := getS2 X90 hx hZ hown (host := "") (Or.inl (hw _ (List.mem_of_getElem? (i := 14) rfl))) Via.refl e90 (S_CANCELLED.ext XO91.2) (g := (mkF m 37 #[.val (.int p0), .unset, .unset, .unset, .unset] [(.int (5 : Int32)), (.ref b1), (.ref b1)])) rfl (hb hby at_37)
  refine Goes.step st104 ?_
  show Goes _ _ _ _ _ _ _ (T104.setTop (mkF m 40 #[.val (.int p0), .unset, .unset, .unset, .unset] [(.ref a_CANCELLED), (.int (5 : Int32)), (.ref b1), (.ref b1)]))
  obtain ⟨cl105, Ar105, q105, S105, P105, H105, G105⟩ := f102
  have hin105 : ¬ ((5 : Int32) < 0 ∨ cl105.slots.size ≤ ((5 : Int32)).toNatClampNeg) := inb_of S105 ⟨by decide, by decide⟩
  obtain ⟨T106, h106, X106, e106, W106, st106⟩ := stR X104 hx hZ e104 Ar105 (j := (5 : Int32)) hin105 rfl (Sto.ofV Ar105 q105 O1 (Ins.self f97)) (g := (mkF m 40 #[.val (.int p0), .unset, .unset, .unset, .unset] [(.ref a_CANCELLED), (.int (5 : Int32)), (.ref b1), (.ref b1)])) rfl rfl (hb hby at_40)
  refine Goes.step st106 ?_
  have V106 := Arv.set Ar105 q105 S105 P105 H105 G105 rfl W106 5 rfl (Nat.le_of_ble_eq_true rfl)
  have XO107 : Old Z n0 h106 := XO91.wr W106 g_b1
  have f108 := f92.wr W106
  have f109 := f93.wr W106
  have f110 := f94.wr W106
  have f111 := f95.wr W106
  have f112 := f96.wr W106
  have f113 := f97.wr W106
  have f114 := f98.wr W106
  have f115 := f99.wr W106
  have f116 := f100.wr W106
  have f117 := f101.wr W106
  have f118 := V106
  have K119 : Keep h0 h106 [] := K103.wr W106 (Or.inr sz_b1)
  have Z119 : n0 ≤ h106.size := by rw [Wr.size W106]; exact Z103
  have N119 := Fr.snoc X106 N103 g_b1
  show Goes _ _ _ _ _ _ _ (T106.setTop (mkF m 41 #[.val (.int p0), .unset, .unset, .unset, .unset] [(.ref b1)]))
  refine Goes.step (fun _ k => XS.dup X106.here hx rfl (hb hby at_41) rfl rfl k) ?_
  show Goes _ _ _ _ _ _ _ (T106.setTop (mkF m 42 #[.val (.int p0), .unset, .unset, .unset, .unset] [(.ref b1), (.ref b1)]))
  refine Goes.step (fun _ k => XS.bipush X106.here hx rfl (hb hby at_42) k) ?_
  show Goes _ _ _ _ _ _ _ (T106.setTop (mkF m 44 #[.val (.int p0), .unset, .unset, .unset, .unset] [(.int (6 : Int32)), (.ref b1), (.ref b1)]))
  obtain ⟨T120, X120, e120, st120⟩ := getS2 X106 hx hZ hown (host := "") (Or.inl (hw _ (List.mem_of_getElem? (i := 16) rfl))) Via.refl e106 (S_PENDING.ext XO107.2) (g := (mkF m 44 #[.val (.int p0), .unset, .unset, .unset, .unset] [(.int (6 : Int32)), (.ref b1), (.ref b1)])) rfl (hb hby at_44)
  refine Goes.step st120 ?_
  show Goes _ _ _ _ _ _ _ (T120.setTop (mkF m 47 #[.val (.int p0), .unset, .unset, .unset, .unset] [(.ref a_PENDING), (.int (6 : Int32)), (.ref b1), (.ref b1)]))
  obtain ⟨cl121, Ar121, q121, S121, P121, H121, G121⟩ := f118
  have hin121 : ¬ ((6 : Int32) < 0 ∨ cl121.slots.size ≤ ((6 : Int32)).toNatClampNeg) := inb_of S121 ⟨by decide, by decide⟩
  obtain ⟨T122, h122, X122, e122, W122, st122⟩ := stR X120 hx hZ e120 Ar121 (j := (6 : Int32)) hin121 rfl (Sto.ofV Ar121 q121 O1 (Ins.self f114)) (g := (mkF m 47 #[.val (.int p0), .unset, .unset, .unset, .unset] [(.ref a_PENDING), (.int (6 : Int32)), (.ref b1), (.ref b1)])) rfl rfl (hb hby at_47)
  refine Goes.step st122 ?_
  have V122 := Arv.set Ar121 q121 S121 P121 H121 G121 rfl W122 6 rfl (Nat.le_of_ble_eq_true rfl)
  have XO123 : Old Z n0 h122 := XO107.wr W122 g_b1
  have f124 := f108.wr W122
  have f125 := f109.wr W122
  have f126 := f110.wr W122
  have f127 := f111.wr W122
  have f128 := f112.wr W122
  have f129 := f113.wr W122
  have f130 := f114.wr W122
  have f131 := f115.wr W122
  have f132 := f116.wr W122
  have f133 := f117.wr W122
  have f134 := V122
  have K135 : Keep h0 h122 [] := K119.wr W122 (Or.inr sz_b1)
  have Z135 : n0 ≤ h122.size := by rw [Wr.size W122]; exact Z119
  have N135 := Fr.snoc X122 N119 g_b1
  show Goes _ _ _ _ _ _ _ (T122.setTop (mkF m 48 #[.val (.int p0), .unset, .unset, .unset, .unset] [(.ref b1)]))
  refine Goes.step (fun _ k => XS.dup X122.here hx rfl (hb hby at_48) rfl rfl k) ?_
  show Goes _ _ _ _ _ _ _ (T122.setTop (mkF m 49 #[.val (.int p0), .unset, .unset, .unset, .unset] [(.ref b1), (.ref b1)]))
  refine Goes.step (fun _ k => XS.bipush X122.here hx rfl (hb hby at_49) k) ?_
  show Goes _ _ _ _ _ _ _ (T122.setTop (mkF m 51 #[.val (.int p0), .unset, .unset, .unset, .unset] [(.int (7 : Int32)), (.ref b1), (.ref b1)]))
  obtain ⟨T136, X136, e136, st136⟩ := getS2 X122 hx hZ hown (host := "") (Or.inl (hw _ (List.mem_of_getElem? (i := 18) rfl))) Via.refl e122 (S_SUCCEEDED.ext XO123.2) (g := (mkF m 51 #[.val (.int p0), .unset, .unset, .unset, .unset] [(.int (7 : Int32)), (.ref b1), (.ref b1)])) rfl (hb hby at_51)
  refine Goes.step st136 ?_
  show Goes _ _ _ _ _ _ _ (T136.setTop (mkF m 54 #[.val (.int p0), .unset, .unset, .unset, .unset] [(.ref a_SUCCEEDED), (.int (7 : Int32)), (.ref b1), (.ref b1)]))
  obtain ⟨cl137, Ar137, q137, S137, P137, H137, G137⟩ := f134
  have hin137 : ¬ ((7 : Int32) < 0 ∨ cl137.slots.size ≤ ((7 : Int32)).toNatClampNeg) := inb_of S137 ⟨by decide, by decide⟩
  obtain ⟨T138, h138, X138, e138, W138, st138⟩ := stR X136 hx hZ e136 Ar137 (j := (7 : Int32)) hin137 rfl (Sto.ofV Ar137 q137 O1 (Ins.self f131)) (g := (mkF m 54 #[.val (.int p0), .unset, .unset, .unset, .unset] [(.ref a_SUCCEEDED), (.int (7 : Int32)), (.ref b1), (.ref b1)])) rfl rfl (hb hby at_54)
  refine Goes.step st138 ?_
  have V138 := Arv.set Ar137 q137 S137 P137 H137 G137 rfl W138 7 rfl (Nat.le_of_ble_eq_true rfl)
  have XO139 : Old Z n0 h138 := XO123.wr W138 g_b1
  have f140 := f124.wr W138
  have f141 := f125.wr W138
  have f142 := f126.wr W138
  have f143 := f127.wr W138
  have f144 := f128.wr W138
  have f145 := f129.wr W138
  have f146 := f130.wr W138
  have f147 := f131.wr W138
  have f148 := f132.wr W138
  have f149 := f133.wr W138
  have f150 := V138
  have K151 : Keep h0 h138 [] := K135.wr W138 (Or.inr sz_b1)
  have Z151 : n0 ≤ h138.size := by rw [Wr.size W138]; exact Z135
  have N151 := Fr.snoc X138 N135 g_b1
  show Goes _ _ _ _ _ _ _ (T138.setTop (mkF m 55 #[.val (.int p0), .unset, .unset, .unset, .unset] [(.ref b1)]))
  refine Goes.step (fun _ k => XS.dup X138.here hx rfl (hb hby at_55) rfl rfl k) ?_
  show Goes _ _ _ _ _ _ _ (T138.setTop (mkF m 56 #[.val (.int p0), .unset, .unset, .unset, .unset] [(.ref b1), (.ref b1)]))
  refine Goes.step (fun _ k => XS.bipush X138.here hx rfl (hb hby at_56) k) ?_
  show Goes _ _ _ _ _ _ _ (T138.setTop (mkF m 58 #[.val (.int p0), .unset, .unset, .unset, .unset] [(.int (8 : Int32)), (.ref b1), (.ref b1)]))
  obtain ⟨T152, X152, e152, st152⟩ := getS2 X138 hx hZ hown (host := "") (Or.inl (hw _ (List.mem_of_getElem? (i := 20) rfl))) Via.refl e138 (S_FAILED.ext XO139.2) (g := (mkF m 58 #[.val (.int p0), .unset, .unset, .unset, .unset] [(.int (8 : Int32)), (.ref b1), (.ref b1)])) rfl (hb hby at_58)
  refine Goes.step st152 ?_
  show Goes _ _ _ _ _ _ _ (T152.setTop (mkF m 61 #[.val (.int p0), .unset, .unset, .unset, .unset] [(.ref a_FAILED), (.int (8 : Int32)), (.ref b1), (.ref b1)]))
  obtain ⟨cl153, Ar153, q153, S153, P153, H153, G153⟩ := f150
  have hin153 : ¬ ((8 : Int32) < 0 ∨ cl153.slots.size ≤ ((8 : Int32)).toNatClampNeg) := inb_of S153 ⟨by decide, by decide⟩
  obtain ⟨T154, h154, X154, e154, W154, st154⟩ := stR X152 hx hZ e152 Ar153 (j := (8 : Int32)) hin153 rfl (Sto.ofV Ar153 q153 O1 (Ins.self f148)) (g := (mkF m 61 #[.val (.int p0), .unset, .unset, .unset, .unset] [(.ref a_FAILED), (.int (8 : Int32)), (.ref b1), (.ref b1)])) rfl rfl (hb hby at_61)
  refine Goes.step st154 ?_
  have V154 := Arv.set Ar153 q153 S153 P153 H153 G153 rfl W154 8 rfl (Nat.le_of_ble_eq_true rfl)
  have XO155 : Old Z n0 h154 := XO139.wr W154 g_b1
  have f156 := f140.wr W154
  have f157 := f141.wr W154
  have f158 := f142.wr W154
  have f159 := f143.wr W154
  have f160 := f144.wr W154
  have f161 := f145.wr W154
  have f162 := f146.wr W154
  have f163 := f147.wr W154
  have f164 := f148.wr W154
  have f165 := f149.wr W154
  have f166 := V154
  have K167 : Keep h0 h154 [] := K151.wr W154 (Or.inr sz_b1)
  have Z167 : n0 ≤ h154.size := by rw [Wr.size W154]; exact Z151
  have N167 := Fr.snoc X154 N151 g_b1
  show Goes _ _ _ _ _ _ _ (T154.setTop (mkF m 62 #[.val (.int p0), .unset, .unset, .unset, .unset] [(.ref b1)]))
  refine Goes.step (fun _ k => XS.dup X154.here hx rfl (hb hby at_62) rfl rfl k) ?_
  show Goes _ _ _ _ _ _ _ (T154.setTop (mkF m 63 #[.val (.int p0), .unset, .unset, .unset, .unset] [(.ref b1), (.ref b1)]))
  refine Goes.step (fun _ k => XS.bipush X154.here hx rfl (hb hby at_63) k) ?_
  show Goes _ _ _ _ _ _ _ (T154.setTop (mkF m 65 #[.val (.int p0), .unset, .unset, .unset, .unset] [(.int (9 : Int32)), (.ref b1), (.ref b1)]))
  obtain ⟨T168, X168, e168, st168⟩ := getS2 X154 hx hZ hown (host := "") (Or.inl (hw _ (List.mem_of_getElem? (i := 22) rfl))) Via.refl e154 (S_COMPENSATED.ext XO155.2) (g := (mkF m 65 #[.val (.int p0), .unset, .unset, .unset, .unset] [(.int (9 : Int32)), (.ref b1), (.ref b1)])) rfl (hb hby at_65)
  refine Goes.step st168 ?_
  show Goes _ _ _ _ _ _ _ (T168.setTop (mkF m 68 #[.val (.int p0), .unset, .unset, .unset, .unset] [(.ref a_COMPENSATED), (.int (9 : Int32)), (.ref b1), (.ref b1)]))
  obtain ⟨cl169, Ar169, q169, S169, P169, H169, G169⟩ := f166
  have hin169 : ¬ ((9 : Int32) < 0 ∨ cl169.slots.size ≤ ((9 : Int32)).toNatClampNeg) := inb_of S169 ⟨by decide, by decide⟩
  obtain ⟨T170, h170, X170, e170, W170, st170⟩ := stR X168 hx hZ e168 Ar169 (j := (9 : Int32)) hin169 rfl (Sto.ofV Ar169 q169 O1 (Ins.self f165)) (g := (mkF m 68 #[.val (.int p0), .unset, .unset, .unset, .unset] [(.ref a_COMPENSATED), (.int (9 : Int32)), (.ref b1), (.ref b1)])) rfl rfl (hb hby at_68)
  refine Goes.step st170 ?_
  have V170 := Arv.set Ar169 q169 S169 P169 H169 G169 rfl W170 9 rfl (Nat.le_of_ble_eq_true rfl)
  have XO171 : Old Z n0 h170 := XO155.wr W170 g_b1
  have f172 := f156.wr W170
  have f173 := f157.wr W170
  have f174 := f158.wr W170
  have f175 := f159.wr W170
  have f176 := f160.wr W170
  have f177 := f161.wr W170
  have f178 := f162.wr W170
  have f179 := f163.wr W170
  have f180 := f164.wr W170
  have f181 := f165.wr W170
  have f182 := V170
  have K183 : Keep h0 h170 [] := K167.wr W170 (Or.inr sz_b1)
  have Z183 : n0 ≤ h170.size := by rw [Wr.size W170]; exact Z167
  have N183 := Fr.snoc X170 N167 g_b1
  show Goes _ _ _ _ _ _ _ (T170.setTop (mkF m 69 #[.val (.int p0), .unset, .unset, .unset, .unset] [(.ref b1)]))
  refine Goes.step (fun _ k => XS.astoreN X170.here hx rfl (hb hby at_69) rfl rfl (l' := #[.val (.int p0), .val (.ref b1), .unset, .unset, .unset]) rfl k) ?_
  show Goes _ _ _ _ _ _ _ (T170.setTop (mkF m 70 #[.val (.int p0), .val (.ref b1), .unset, .unset, .unset] []))
  refine Goes.step (fun _ k => XS.iloadN X170.here hx rfl (hb hby at_70) rfl  k) ?_
  show Goes _ _ _ _ _ _ _ (T170.setTop (mkF m 71 #[.val (.int p0), .val (.ref b1), .unset, .unset, .unset] [(.int p0)]))
  refine Goes.step (fun _ k => X170.ldcInt hx hown (mvT hZ (hw _ (List.mem_of_getElem? (i := 24) rfl))) (g := (mkF m 71 #[.val (.int p0), .val (.ref b1), .unset, .unset, .unset] [(.int p0)])) rfl (hb hby at_71) _ k) ?_
  show Goes _ _ _ _ _ _ _ (T170.setTop (mkF m 73 #[.val (.int p0), .val (.ref b1), .unset, .unset, .unset] [(.int (2147483647 : Int32)), (.int p0)]))
  refine Goes.step (fun _ k => XS.iand X170.here hx rfl (hb hby at_73) rfl k) ?_
  show Goes _ _ _ _ _ _ _ (T170.setTop (mkF m 74 #[.val (.int p0), .val (.ref b1), .unset, .unset, .unset] [(.int (p0 &&& (2147483647 : Int32)))]))
  refine Goes.step (fun _ k => XS.bipush X170.here hx rfl (hb hby at_74) k) ?_
  show Goes _ _ _ _ _ _ _ (T170.setTop (mkF m 76 #[.val (.int p0), .val (.ref b1), .unset, .unset, .unset] [(.int (10 : Int32)), (.int (p0 &&& (2147483647 : Int32)))]))
  refine Goes.step (fun _ k => iremM X170 hx rfl (hb hby at_76) rfl (by decide) k) ?_
  show Goes _ _ _ _ _ _ _ (T170.setTop (mkF m 77 #[.val (.int p0), .val (.ref b1), .unset, .unset, .unset] [(.int ((p0 &&& (2147483647 : Int32)) % (10 : Int32)))]))
  refine Goes.step (fun _ k => XS.istoreN X170.here hx rfl (hb hby at_77) rfl (l' := #[.val (.int p0), .val (.ref b1), .val (.int ((p0 &&& (2147483647 : Int32)) % (10 : Int32))), .unset, .unset]) rfl k) ?_
  show Goes _ _ _ _ _ _ _ (T170.setTop (mkF m 78 #[.val (.int p0), .val (.ref b1), .val (.int ((p0 &&& (2147483647 : Int32)) % (10 : Int32))), .unset, .unset] []))
  generalize hg_i2 : ((p0 &&& (2147483647 : Int32)) % (10 : Int32)) = i2
  show Goes _ _ _ _ _ _ _ (T170.setTop (mkF m 78 #[.val (.int p0), .val (.ref b1), .val (.int i2), .unset, .unset] []))
  rcases own_ten hg_i2 with rfl | rfl | rfl | rfl | rfl | rfl | rfl | rfl | rfl | rfl
  · show Goes _ _ _ _ _ _ _ (T170.setTop (mkF m 78 #[.val (.int p0), .val (.ref b1), .val (.int (0 : Int32)), .unset, .unset] []))
    refine Goes.step (fun _ k => XS.aloadN X170.here hx rfl (hb hby at_78) rfl rfl k) ?_
    show Goes _ _ _ _ _ _ _ (T170.setTop (mkF m 79 #[.val (.int p0), .val (.ref b1), .val (.int (0 : Int32)), .unset, .unset] [(.ref b1)]))
    refine Goes.step (fun _ k => XS.iloadN X170.here hx rfl (hb hby at_79) rfl  k) ?_
    show Goes _ _ _ _ _ _ _ (T170.setTop (mkF m 80 #[.val (.int p0), .val (.ref b1), .val (.int (0 : Int32)), .unset, .unset] [(.int (0 : Int32)), (.ref b1)]))
    obtain ⟨cl184, Ar184, q184, S184, P184, H184, G184⟩ := f182
    have hin184 : ¬ ((0 : Int32) < 0 ∨ cl184.slots.size ≤ ((0 : Int32)).toNatClampNeg) := inb_of S184 ⟨by decide, by decide⟩
    have hat184 : cl184.slots[((0 : Int32)).toNatClampNeg]? = some (.ref a_REGISTERED) := H184 _ (by rw [S184]; decide)
    refine Goes.step (fun _ k => X170.aaload hx (j := (0 : Int32)) (v := (.ref a_REGISTERED)) (by rw [e170]; exact Ar184.1) (State.isArrayOf_alike hZ.alike Ar184.2.1) rfl Ar184.2.2 hin184 hat184 (g := (mkF m 80 #[.val (.int p0), .val (.ref b1), .val (.int (0 : Int32)), .unset, .unset] [(.int (0 : Int32)), (.ref b1)])) rfl rfl (hb hby at_80) _ k) ?_
    show Goes _ _ _ _ _ _ _ (T170.setTop (mkF m 81 #[.val (.int p0), .val (.ref b1), .val (.int (0 : Int32)), .unset, .unset] [(.ref a_REGISTERED)]))
    refine Goes.step (fun _ k => XS.astoreN X170.here hx rfl (hb hby at_81) rfl rfl (l' := #[.val (.int p0), .val (.ref b1), .val (.int (0 : Int32)), .val (.ref a_REGISTERED), .unset]) rfl k) ?_
    show Goes _ _ _ _ _ _ _ (T170.setTop (mkF m 82 #[.val (.int p0), .val (.ref b1), .val (.int (0 : Int32)), .val (.ref a_REGISTERED), .unset] []))
    refine Goes.step (fun _ k => XS.aloadN X170.here hx rfl (hb hby at_82) rfl rfl k) ?_
    show Goes _ _ _ _ _ _ _ (T170.setTop (mkF m 83 #[.val (.int p0), .val (.ref b1), .val (.int (0 : Int32)), .val (.ref a_REGISTERED), .unset] [(.ref a_REGISTERED)]))
    obtain ⟨T185, X185, e185, st185⟩ := getS2 X170 hx hZ hown (host := "") (Or.inl (hw _ (List.mem_of_getElem? (i := 2) rfl))) Via.refl e170 (S_REGISTERED.ext XO171.2) (g := (mkF m 83 #[.val (.int p0), .val (.ref b1), .val (.int (0 : Int32)), .val (.ref a_REGISTERED), .unset] [(.ref a_REGISTERED)])) rfl (hb hby at_83)
    refine Goes.step st185 ?_
    show Goes _ _ _ _ _ _ _ (T185.setTop (mkF m 86 #[.val (.int p0), .val (.ref b1), .val (.int (0 : Int32)), .val (.ref a_REGISTERED), .unset] [(.ref a_REGISTERED), (.ref a_REGISTERED)]))
    refine Goes.step (fun _ k => Jvm.RoadKit.acmp X185 hx rfl rfl rfl (pc0 := 86) (pc' := 110) (same := true) rfl (hb hby at_86) rfl (decide_eq_true rfl) (by decide) (by decide) k) ?_
    show Goes _ _ _ _ _ _ _ (T185.setTop (mkF m 110 #[.val (.int p0), .val (.ref b1), .val (.int (0 : Int32)), .val (.ref a_REGISTERED), .unset] []))
    refine Goes.step (fun _ k => XS.iconst X185.here hx rfl (hb hby at_110) k) ?_
    show Goes _ _ _ _ _ _ _ (T185.setTop (mkF m 111 #[.val (.int p0), .val (.ref b1), .val (.int (0 : Int32)), .val (.ref a_REGISTERED), .unset] [(.int (1 : Int32))]))
    refine Goes.step (fun _ k => XS.goto X185.here hx rfl (pc0 := 111) (pc' := 115) rfl (hb hby at_111) (by decide) (by decide) k) ?_
    show Goes _ _ _ _ _ _ _ (T185.setTop (mkF m 115 #[.val (.int p0), .val (.ref b1), .val (.int (0 : Int32)), .val (.ref a_REGISTERED), .unset] [(.int (1 : Int32))]))
    refine Goes.step (fun _ k => XS.istore X185.here hx rfl (hb hby at_115) rfl (l' := #[.val (.int p0), .val (.ref b1), .val (.int (0 : Int32)), .val (.ref a_REGISTERED), .val (.int (1 : Int32))]) rfl k) ?_
    show Goes _ _ _ _ _ _ _ (T185.setTop (mkF m 117 #[.val (.int p0), .val (.ref b1), .val (.int (0 : Int32)), .val (.ref a_REGISTERED), .val (.int (1 : Int32))] []))
    refine Goes.step (fun _ k => XS.aloadN X185.here hx rfl (hb hby at_117) rfl rfl k) ?_
    show Goes _ _ _ _ _ _ _ (T185.setTop (mkF m 118 #[.val (.int p0), .val (.ref b1), .val (.int (0 : Int32)), .val (.ref a_REGISTERED), .val (.int (1 : Int32))] [(.ref a_REGISTERED)]))
    obtain ⟨cq186, kq186, q186a, q186b, q186c⟩ := isOf hZ e185 f172
    obtain ⟨_, _, ⟨T186, L186, k186, n186⟩, -, X186, ⟨Lc186, hQ186, l186, y186, z186⟩, st186⟩ := X185.virtualBack hx (y := (⟨"com/example/concordat/concordat/BranchStatus", "isFinal", "()Z"⟩ : MethodName)) (z := (⟨"com/example/concordat/concordat/BranchStatus", "isFinal", "()Z"⟩ : MethodName)) hown (mvT hZ (hw _ (List.mem_of_getElem? (i := 25) rfl))) (mvT hZ (hw _ (List.mem_of_getElem? (i := 26) rfl))) (notFace_of_selects (args := #[]) (mvT hZ (hw _ (List.mem_of_getElem? (i := 28) rfl)))) (mvT hZ (hw _ (List.mem_of_getElem? (i := 28) rfl))) (mvT hZ (hw _ (List.mem_of_getElem? (i := 27) rfl))) (by decide) (backOf (W := 0) (rm1 l Z a0 hw [] a_REGISTERED a_COMMITTED a_ROLLED_BACK a_CONFIRMED a_CANCELLED a_FAILED a_COMPENSATED h170 n0 Z183 S_COMMITTED S_ROLLED_BACK S_CONFIRMED S_CANCELLED S_FAILED S_COMPENSATED XO171) hZ (hw _ (List.mem_of_getElem? (i := 29) rfl)) (hw _ (List.mem_of_getElem? (i := 3) rfl)) (by decide) (by decide)) q186a q186c (g := (mkF m 118 #[.val (.int p0), .val (.ref b1), .val (.int (0 : Int32)), .val (.ref a_REGISTERED), .val (.int (1 : Int32))] [(.ref a_REGISTERED)])) rfl (by rw [hml]; rfl) (Steps.refl _) (argsL := []) (rest := []) (lenOf pd_0 rfl) rfl (by show 2 * 0 + _ ≤ _; exact Nat.le_of_eq rfl) (hb hby at_118) (fun _ _ => ⟨rfl, e185, (by decide : 1 + 0 ≤ _), (by decide : 10 + 0 ≤ _)⟩)
    dsimp only [Pt.U, Pt.locs, Pt.cells, Pt.slots] at X186 l186 y186 z186 st186 hQ186
    subst l186 y186 z186
    obtain ⟨N186, eh186, hR186⟩ := hQ186
    have NA186 := Fr.app N183 N186
    rcases hR186 with ⟨rfl, u186_0_0⟩ | ⟨rfl, u186_1_0, u186_1_1⟩ | ⟨rfl, u186_2_0, u186_2_1, u186_2_2⟩ | ⟨rfl, u186_3_0, u186_3_1, u186_3_2, u186_3_3⟩ | ⟨rfl, u186_4_0, u186_4_1, u186_4_2, u186_4_3, u186_4_4⟩ | ⟨rfl, u186_5_0, u186_5_1, u186_5_2, u186_5_3, u186_5_4, u186_5_5⟩ | ⟨rfl, u186_6_0, u186_6_1, u186_6_2, u186_6_3, u186_6_4, u186_6_5⟩
    · exact absurd u186_0_0 (Ne.symm ne_COMMITTED_REGISTERED)
    · exact absurd u186_1_1 (Ne.symm ne_ROLLED_BACK_REGISTERED)
    · exact absurd u186_2_2 (Ne.symm ne_CONFIRMED_REGISTERED)
    · exact absurd u186_3_3 (Ne.symm ne_CANCELLED_REGISTERED)
    · exact absurd u186_4_4 (Ne.symm ne_FAILED_REGISTERED)
    · exact absurd u186_5_5 (Ne.symm ne_COMPENSATED_REGISTERED)
    · refine Goes.back st186 ?_
      show Goes _ _ _ _ _ _ _ (T186.setTop (mkF m 121 #[.val (.int p0), .val (.ref b1), .val (.int (0 : Int32)), .val (.ref a_REGISTERED), .val (.int (1 : Int32))] [(.int (0 : Int32))]))
      refine Goes.step (fun _ k => XS.iload X186.here hx rfl (hb hby at_121) rfl  k) ?_
      show Goes _ _ _ _ _ _ _ (T186.setTop (mkF m 123 #[.val (.int p0), .val (.ref b1), .val (.int (0 : Int32)), .val (.ref a_REGISTERED), .val (.int (1 : Int32))] [(.int (1 : Int32)), (.int (0 : Int32))]))
      refine Goes.step (fun _ k => XS.ifYes X186.here hx rfl (pc0 := 123) (pc' := 130) rfl (hb hby at_123) rfl ((if0 _ _).trans (feq (by decide : ¬ ((1 : Int32) = (0 : Int32)))).2) (by decide) (by decide) k) ?_
      show Goes _ _ _ _ _ _ _ (T186.setTop (mkF m 130 #[.val (.int p0), .val (.ref b1), .val (.int (0 : Int32)), .val (.ref a_REGISTERED), .val (.int (1 : Int32))] [(.int (0 : Int32))]))
      refine Goes.step (fun _ k => XS.iconst X186.here hx rfl (hb hby at_130) k) ?_
      show Goes _ _ _ _ _ _ _ (T186.setTop (mkF m 131 #[.val (.int p0), .val (.ref b1), .val (.int (0 : Int32)), .val (.ref a_REGISTERED), .val (.int (1 : Int32))] [(.int (0 : Int32)), (.int (0 : Int32))]))
      refine Goes.step (fun _ k => XS.icmpNo X186.here hx rfl (hb hby at_131) rfl (teq (by decide : (0 : Int32) = (0 : Int32))).2 k) ?_
      show Goes _ _ _ _ _ _ _ (T186.setTop (mkF m 134 #[.val (.int p0), .val (.ref b1), .val (.int (0 : Int32)), .val (.ref a_REGISTERED), .val (.int (1 : Int32))] []))
      refine Goes.step (fun _ k => XS.iconst X186.here hx rfl (hb hby at_134) k) ?_
      show Goes _ _ _ _ _ _ _ (T186.setTop (mkF m 135 #[.val (.int p0), .val (.ref b1), .val (.int (0 : Int32)), .val (.ref a_REGISTERED), .val (.int (1 : Int32))] [(.int (1 : Int32))]))
      refine Goes.step (fun _ k => XS.goto X186.here hx rfl (pc0 := 135) (pc' := 139) rfl (hb hby at_135) (by decide) (by decide) k) ?_
      show Goes _ _ _ _ _ _ _ (T186.setTop (mkF m 139 #[.val (.int p0), .val (.ref b1), .val (.int (0 : Int32)), .val (.ref a_REGISTERED), .val (.int (1 : Int32))] [(.int (1 : Int32))]))
      exact Goes.ret X186 hx (BodyLoose.notSynchronized Bd) Bd.returns rfl (Or.inl ⟨rfl, by simp, _, rfl⟩) (hb hby at_139) (by show Q0 Z p0 a_REGISTERED a_PREPARED a_COMMITTED a_ROLLED_BACK a_CONFIRMED a_CANCELLED a_PENDING a_SUCCEEDED a_FAILED a_COMPENSATED h0 n0 (some (.int (1 : Int32))) T186.heap _; rw [eh186]; exact ⟨rfl, NA186⟩) (by decide) (by decide)
  · show Goes _ _ _ _ _ _ _ (T170.setTop (mkF m 78 #[.val (.int p0), .val (.ref b1), .val (.int (1 : Int32)), .unset, .unset] []))
    refine Goes.step (fun _ k => XS.aloadN X170.here hx rfl (hb hby at_78) rfl rfl k) ?_
    show Goes _ _ _ _ _ _ _ (T170.setTop (mkF m 79 #[.val (.int p0), .val (.ref b1), .val (.int (1 : Int32)), .unset, .unset] [(.ref b1)]))
    refine Goes.step (fun _ k => XS.iloadN X170.here hx rfl (hb hby at_79) rfl  k) ?_
    show Goes _ _ _ _ _ _ _ (T170.setTop (mkF m 80 #[.val (.int p0), .val (.ref b1), .val (.int (1 : Int32)), .unset, .unset] [(.int (1 : Int32)), (.ref b1)]))
    obtain ⟨cl187, Ar187, q187, S187, P187, H187, G187⟩ := f182
    have hin187 : ¬ ((1 : Int32) < 0 ∨ cl187.slots.size ≤ ((1 : Int32)).toNatClampNeg) := inb_of S187 ⟨by decide, by decide⟩
    have hat187 : cl187.slots[((1 : Int32)).toNatClampNeg]? = some (.ref a_PREPARED) := H187 _ (by rw [S187]; decide)
    refine Goes.step (fun _ k => X170.aaload hx (j := (1 : Int32)) (v := (.ref a_PREPARED)) (by rw [e170]; exact Ar187.1) (State.isArrayOf_alike hZ.alike Ar187.2.1) rfl Ar187.2.2 hin187 hat187 (g := (mkF m 80 #[.val (.int p0), .val (.ref b1), .val (.int (1 : Int32)), .unset, .unset] [(.int (1 : Int32)), (.ref b1)])) rfl rfl (hb hby at_80) _ k) ?_
    show Goes _ _ _ _ _ _ _ (T170.setTop (mkF m 81 #[.val (.int p0), .val (.ref b1), .val (.int (1 : Int32)), .unset, .unset] [(.ref a_PREPARED)]))
    refine Goes.step (fun _ k => XS.astoreN X170.here hx rfl (hb hby at_81) rfl rfl (l' := #[.val (.int p0), .val (.ref b1), .val (.int (1 : Int32)), .val (.ref a_PREPARED), .unset]) rfl k) ?_
    show Goes _ _ _ _ _ _ _ (T170.setTop (mkF m 82 #[.val (.int p0), .val (.ref b1), .val (.int (1 : Int32)), .val (.ref a_PREPARED), .unset] []))
    refine Goes.step (fun _ k => XS.aloadN X170.here hx rfl (hb hby at_82) rfl rfl k) ?_
    show Goes _ _ _ _ _ _ _ (T170.setTop (mkF m 83 #[.val (.int p0), .val (.ref b1), .val (.int (1 : Int32)), .val (.ref a_PREPARED), .unset] [(.ref a_PREPARED)]))
    obtain ⟨T188, X188, e188, st188⟩ := getS2 X170 hx hZ hown (host := "") (Or.inl (hw _ (List.mem_of_getElem? (i := 2) rfl))) Via.refl e170 (S_REGISTERED.ext XO171.2) (g := (mkF m 83 #[.val (.int p0), .val (.ref b1), .val (.int (1 : Int32)), .val (.ref a_PREPARED), .unset] [(.ref a_PREPARED)])) rfl (hb hby at_83)
    refine Goes.step st188 ?_
    show Goes _ _ _ _ _ _ _ (T188.setTop (mkF m 86 #[.val (.int p0), .val (.ref b1), .val (.int (1 : Int32)), .val (.ref a_PREPARED), .unset] [(.ref a_REGISTERED), (.ref a_PREPARED)]))
    refine Goes.step (fun _ k => Jvm.RoadKit.acmp X188 hx rfl rfl rfl (pc0 := 86) (pc' := 89) (same := false) rfl (hb hby at_86) rfl (decide_eq_false fun q => ne_PREPARED_REGISTERED (Value.ref.inj q)) (by decide) (by decide) k) ?_
    show Goes _ _ _ _ _ _ _ (T188.setTop (mkF m 89 #[.val (.int p0), .val (.ref b1), .val (.int (1 : Int32)), .val (.ref a_PREPARED), .unset] []))
    refine Goes.step (fun _ k => XS.aloadN X188.here hx rfl (hb hby at_89) rfl rfl k) ?_
    show Goes _ _ _ _ _ _ _ (T188.setTop (mkF m 90 #[.val (.int p0), .val (.ref b1), .val (.int (1 : Int32)), .val (.ref a_PREPARED), .unset] [(.ref a_PREPARED)]))
    obtain ⟨T189, X189, e189, st189⟩ := getS2 X188 hx hZ hown (host := "") (Or.inl (hw _ (List.mem_of_getElem? (i := 6) rfl))) Via.refl e188 (S_PREPARED.ext XO171.2) (g := (mkF m 90 #[.val (.int p0), .val (.ref b1), .val (.int (1 : Int32)), .val (.ref a_PREPARED), .unset] [(.ref a_PREPARED)])) rfl (hb hby at_90)
    refine Goes.step st189 ?_
    show Goes _ _ _ _ _ _ _ (T189.setTop (mkF m 93 #[.val (.int p0), .val (.ref b1), .val (.int (1 : Int32)), .val (.ref a_PREPARED), .unset] [(.ref a_PREPARED), (.ref a_PREPARED)]))
    refine Goes.step (fun _ k => Jvm.RoadKit.acmp X189 hx rfl rfl rfl (pc0 := 93) (pc' := 110) (same := true) rfl (hb hby at_93) rfl (decide_eq_true rfl) (by decide) (by decide) k) ?_
    show Goes _ _ _ _ _ _ _ (T189.setTop (mkF m 110 #[.val (.int p0), .val (.ref b1), .val (.int (1 : Int32)), .val (.ref a_PREPARED), .unset] []))
    refine Goes.step (fun _ k => XS.iconst X189.here hx rfl (hb hby at_110) k) ?_
    show Goes _ _ _ _ _ _ _ (T189.setTop (mkF m 111 #[.val (.int p0), .val (.ref b1), .val (.int (1 : Int32)), .val (.ref a_PREPARED), .unset] [(.int (1 : Int32))]))
    refine Goes.step (fun _ k => XS.goto X189.here hx rfl (pc0 := 111) (pc' := 115) rfl (hb hby at_111) (by decide) (by decide) k) ?_
    show Goes _ _ _ _ _ _ _ (T189.setTop (mkF m 115 #[.val (.int p0), .val (.ref b1), .val (.int (1 : Int32)), .val (.ref a_PREPARED), .unset] [(.int (1 : Int32))]))
    refine Goes.step (fun _ k => XS.istore X189.here hx rfl (hb hby at_115) rfl (l' := #[.val (.int p0), .val (.ref b1), .val (.int (1 : Int32)), .val (.ref a_PREPARED), .val (.int (1 : Int32))]) rfl k) ?_
    show Goes _ _ _ _ _ _ _ (T189.setTop (mkF m 117 #[.val (.int p0), .val (.ref b1), .val (.int (1 : Int32)), .val (.ref a_PREPARED), .val (.int (1 : Int32))] []))
    refine Goes.step (fun _ k => XS.aloadN X189.here hx rfl (hb hby at_117) rfl rfl k) ?_
    show Goes _ _ _ _ _ _ _ (T189.setTop (mkF m 118 #[.val (.int p0), .val (.ref b1), .val (.int (1 : Int32)), .val (.ref a_PREPARED), .val (.int (1 : Int32))] [(.ref a_PREPARED)]))
    obtain ⟨cq190, kq190, q190a, q190b, q190c⟩ := isOf hZ e189 f173
    obtain ⟨_, _, ⟨T190, L190, k190, n190⟩, -, X190, ⟨Lc190, hQ190, l190, y190, z190⟩, st190⟩ := X189.virtualBack hx (y := (⟨"com/example/concordat/concordat/BranchStatus", "isFinal", "()Z"⟩ : MethodName)) (z := (⟨"com/example/concordat/concordat/BranchStatus", "isFinal", "()Z"⟩ : MethodName)) hown (mvT hZ (hw _ (List.mem_of_getElem? (i := 25) rfl))) (mvT hZ (hw _ (List.mem_of_getElem? (i := 26) rfl))) (notFace_of_selects (args := #[]) (mvT hZ (hw _ (List.mem_of_getElem? (i := 28) rfl)))) (mvT hZ (hw _ (List.mem_of_getElem? (i := 28) rfl))) (mvT hZ (hw _ (List.mem_of_getElem? (i := 27) rfl))) (by decide) (backOf (W := 0) (rm1 l Z a0 hw [] a_PREPARED a_COMMITTED a_ROLLED_BACK a_CONFIRMED a_CANCELLED a_FAILED a_COMPENSATED h170 n0 Z183 S_COMMITTED S_ROLLED_BACK S_CONFIRMED S_CANCELLED S_FAILED S_COMPENSATED XO171) hZ (hw _ (List.mem_of_getElem? (i := 29) rfl)) (hw _ (List.mem_of_getElem? (i := 3) rfl)) (by decide) (by decide)) q190a q190c (g := (mkF m 118 #[.val (.int p0), .val (.ref b1), .val (.int (1 : Int32)), .val (.ref a_PREPARED), .val (.int (1 : Int32))] [(.ref a_PREPARED)])) rfl (by rw [hml]; rfl) (Steps.refl _) (argsL := []) (rest := []) (lenOf pd_0 rfl) rfl (by show 2 * 0 + _ ≤ _; exact Nat.le_of_eq rfl) (hb hby at_118) (fun _ _ => ⟨rfl, e189, (by decide : 1 + 0 ≤ _), (by decide : 10 + 0 ≤ _)⟩)
    dsimp only [Pt.U, Pt.locs, Pt.cells, Pt.slots] at X190 l190 y190 z190 st190 hQ190
    subst l190 y190 z190
    obtain ⟨N190, eh190, hR190⟩ := hQ190
    have NA190 := Fr.app N183 N190
    rcases hR190 with ⟨rfl, u190_0_0⟩ | ⟨rfl, u190_1_0, u190_1_1⟩ | ⟨rfl, u190_2_0, u190_2_1, u190_2_2⟩ | ⟨rfl, u190_3_0, u190_3_1, u190_3_2, u190_3_3⟩ | ⟨rfl, u190_4_0, u190_4_1, u190_4_2, u190_4_3, u190_4_4⟩ | ⟨rfl, u190_5_0, u190_5_1, u190_5_2, u190_5_3, u190_5_4, u190_5_5⟩ | ⟨rfl, u190_6_0, u190_6_1, u190_6_2, u190_6_3, u190_6_4, u190_6_5⟩
    · exact absurd u190_0_0 (Ne.symm ne_COMMITTED_PREPARED)
    · exact absurd u190_1_1 (Ne.symm ne_ROLLED_BACK_PREPARED)
    · exact absurd u190_2_2 (Ne.symm ne_CONFIRMED_PREPARED)
    · exact absurd u190_3_3 (Ne.symm ne_CANCELLED_PREPARED)
    · exact absurd u190_4_4 (Ne.symm ne_FAILED_PREPARED)
    · exact absurd u190_5_5 (Ne.symm ne_COMPENSATED_PREPARED)
    · refine Goes.back st190 ?_
      show Goes _ _ _ _ _ _ _ (T190.setTop (mkF m 121 #[.val (.int p0), .val (.ref b1), .val (.int (1 : Int32)), .val (.ref a_PREPARED), .val (.int (1 : Int32))] [(.int (0 : Int32))]))
      refine Goes.step (fun _ k => XS.iload X190.here hx rfl (hb hby at_121) rfl  k) ?_
      show Goes _ _ _ _ _ _ _ (T190.setTop (mkF m 123 #[.val (.int p0), .val (.ref b1), .val (.int (1 : Int32)), .val (.ref a_PREPARED), .val (.int (1 : Int32))] [(.int (1 : Int32)), (.int (0 : Int32))]))
      refine Goes.step (fun _ k => XS.ifYes X190.here hx rfl (pc0 := 123) (pc' := 130) rfl (hb hby at_123) rfl ((if0 _ _).trans (feq (by decide : ¬ ((1 : Int32) = (0 : Int32)))).2) (by decide) (by decide) k) ?_
      show Goes _ _ _ _ _ _ _ (T190.setTop (mkF m 130 #[.val (.int p0), .val (.ref b1), .val (.int (1 : Int32)), .val (.ref a_PREPARED), .val (.int (1 : Int32))] [(.int (0 : Int32))]))
      refine Goes.step (fun _ k => XS.iconst X190.here hx rfl (hb hby at_130) k) ?_
      show Goes _ _ _ _ _ _ _ (T190.setTop (mkF m 131 #[.val (.int p0), .val (.ref b1), .val (.int (1 : Int32)), .val (.ref a_PREPARED), .val (.int (1 : Int32))] [(.int (0 : Int32)), (.int (0 : Int32))]))
      refine Goes.step (fun _ k => XS.icmpNo X190.here hx rfl (hb hby at_131) rfl (teq (by decide : (0 : Int32) = (0 : Int32))).2 k) ?_
      show Goes _ _ _ _ _ _ _ (T190.setTop (mkF m 134 #[.val (.int p0), .val (.ref b1), .val (.int (1 : Int32)), .val (.ref a_PREPARED), .val (.int (1 : Int32))] []))
      refine Goes.step (fun _ k => XS.iconst X190.here hx rfl (hb hby at_134) k) ?_
      show Goes _ _ _ _ _ _ _ (T190.setTop (mkF m 135 #[.val (.int p0), .val (.ref b1), .val (.int (1 : Int32)), .val (.ref a_PREPARED), .val (.int (1 : Int32))] [(.int (1 : Int32))]))
      refine Goes.step (fun _ k => XS.goto X190.here hx rfl (pc0 := 135) (pc' := 139) rfl (hb hby at_135) (by decide) (by decide) k) ?_
      show Goes _ _ _ _ _ _ _ (T190.setTop (mkF m 139 #[.val (.int p0), .val (.ref b1), .val (.int (1 : Int32)), .val (.ref a_PREPARED), .val (.int (1 : Int32))] [(.int (1 : Int32))]))
      exact Goes.ret X190 hx (BodyLoose.notSynchronized Bd) Bd.returns rfl (Or.inl ⟨rfl, by simp, _, rfl⟩) (hb hby at_139) (by show Q0 Z p0 a_REGISTERED a_PREPARED a_COMMITTED a_ROLLED_BACK a_CONFIRMED a_CANCELLED a_PENDING a_SUCCEEDED a_FAILED a_COMPENSATED h0 n0 (some (.int (1 : Int32))) T190.heap _; rw [eh190]; exact ⟨rfl, NA190⟩) (by decide) (by decide)
  · show Goes _ _ _ _ _ _ _ (T170.setTop (mkF m 78 #[.val (.int p0), .val (.ref b1), .val (.int (2 : Int32)), .unset, .unset] []))
    refine Goes.step (fun _ k => XS.aloadN X170.here hx rfl (hb hby at_78) rfl rfl k) ?_
    show Goes _ _ _ _ _ _ _ (T170.setTop (mkF m 79 #[.val (.int p0), .val (.ref b1), .val (.int (2 : Int32)), .unset, .unset] [(.ref b1)]))
    refine Goes.step (fun _ k => XS.iloadN X170.here hx rfl (hb hby at_79) rfl  k) ?_
    show Goes _ _ _ _ _ _ _ (T170.setTop (mkF m 80 #[.val (.int p0), .val (.ref b1), .val (.int (2 : Int32)), .unset, .unset] [(.int (2 : Int32)), (.ref b1)]))
    obtain ⟨cl191, Ar191, q191, S191, P191, H191, G191⟩ := f182
    have hin191 : ¬ ((2 : Int32) < 0 ∨ cl191.slots.size ≤ ((2 : Int32)).toNatClampNeg) := inb_of S191 ⟨by decide, by decide⟩
    have hat191 : cl191.slots[((2 : Int32)).toNatClampNeg]? = some (.ref a_COMMITTED) := H191 _ (by rw [S191]; decide)
    refine Goes.step (fun _ k => X170.aaload hx (j := (2 : Int32)) (v := (.ref a_COMMITTED)) (by rw [e170]; exact Ar191.1) (State.isArrayOf_alike hZ.alike Ar191.2.1) rfl Ar191.2.2 hin191 hat191 (g := (mkF m 80 #[.val (.int p0), .val (.ref b1), .val (.int (2 : Int32)), .unset, .unset] [(.int (2 : Int32)), (.ref b1)])) rfl rfl (hb hby at_80) _ k) ?_
    show Goes _ _ _ _ _ _ _ (T170.setTop (mkF m 81 #[.val (.int p0), .val (.ref b1), .val (.int (2 : Int32)), .unset, .unset] [(.ref a_COMMITTED)]))
    refine Goes.step (fun _ k => XS.astoreN X170.here hx rfl (hb hby at_81) rfl rfl (l' := #[.val (.int p0), .val (.ref b1), .val (.int (2 : Int32)), .val (.ref a_COMMITTED), .unset]) rfl k) ?_
    show Goes _ _ _ _ _ _ _ (T170.setTop (mkF m 82 #[.val (.int p0), .val (.ref b1), .val (.int (2 : Int32)), .val (.ref a_COMMITTED), .unset] []))
    refine Goes.step (fun _ k => XS.aloadN X170.here hx rfl (hb hby at_82) rfl rfl k) ?_
    show Goes _ _ _ _ _ _ _ (T170.setTop (mkF m 83 #[.val (.int p0), .val (.ref b1), .val (.int (2 : Int32)), .val (.ref a_COMMITTED), .unset] [(.ref a_COMMITTED)]))
    obtain ⟨T192, X192, e192, st192⟩ := getS2 X170 hx hZ hown (host := "") (Or.inl (hw _ (List.mem_of_getElem? (i := 2) rfl))) Via.refl e170 (S_REGISTERED.ext XO171.2) (g := (mkF m 83 #[.val (.int p0), .val (.ref b1), .val (.int (2 : Int32)), .val (.ref a_COMMITTED), .unset] [(.ref a_COMMITTED)])) rfl (hb hby at_83)
    refine Goes.step st192 ?_
    show Goes _ _ _ _ _ _ _ (T192.setTop (mkF m 86 #[.val (.int p0), .val (.ref b1), .val (.int (2 : Int32)), .val (.ref a_COMMITTED), .unset] [(.ref a_REGISTERED), (.ref a_COMMITTED)]))
    refine Goes.step (fun _ k => Jvm.RoadKit.acmp X192 hx rfl rfl rfl (pc0 := 86) (pc' := 89) (same := false) rfl (hb hby at_86) rfl (decide_eq_false fun q => ne_COMMITTED_REGISTERED (Value.ref.inj q)) (by decide) (by decide) k) ?_
    show Goes _ _ _ _ _ _ _ (T192.setTop (mkF m 89 #[.val (.int p0), .val (.ref b1), .val (.int (2 : Int32)), .val (.ref a_COMMITTED), .unset] []))
    refine Goes.step (fun _ k => XS.aloadN X192.here hx rfl (hb hby at_89) rfl rfl k) ?_
    show Goes _ _ _ _ _ _ _ (T192.setTop (mkF m 90 #[.val (.int p0), .val (.ref b1), .val (.int (2 : Int32)), .val (.ref a_COMMITTED), .unset] [(.ref a_COMMITTED)]))
    obtain ⟨T193, X193, e193, st193⟩ := getS2 X192 hx hZ hown (host := "") (Or.inl (hw _ (List.mem_of_getElem? (i := 6) rfl))) Via.refl e192 (S_PREPARED.ext XO171.2) (g := (mkF m 90 #[.val (.int p0), .val (.ref b1), .val (.int (2 : Int32)), .val (.ref a_COMMITTED), .unset] [(.ref a_COMMITTED)])) rfl (hb hby at_90)
    refine Goes.step st193 ?_
    show Goes _ _ _ _ _ _ _ (T193.setTop (mkF m 93 #[.val (.int p0), .val (.ref b1), .val (.int (2 : Int32)), .val (.ref a_COMMITTED), .unset] [(.ref a_PREPARED), (.ref a_COMMITTED)]))
    refine Goes.step (fun _ k => Jvm.RoadKit.acmp X193 hx rfl rfl rfl (pc0 := 93) (pc' := 96) (same := false) rfl (hb hby at_93) rfl (decide_eq_false fun q => ne_COMMITTED_PREPARED (Value.ref.inj q)) (by decide) (by decide) k) ?_
    show Goes _ _ _ _ _ _ _ (T193.setTop (mkF m 96 #[.val (.int p0), .val (.ref b1), .val (.int (2 : Int32)), .val (.ref a_COMMITTED), .unset] []))
    refine Goes.step (fun _ k => XS.aloadN X193.here hx rfl (hb hby at_96) rfl rfl k) ?_
    show Goes _ _ _ _ _ _ _ (T193.setTop (mkF m 97 #[.val (.int p0), .val (.ref b1), .val (.int (2 : Int32)), .val (.ref a_COMMITTED), .unset] [(.ref a_COMMITTED)]))
    obtain ⟨T194, X194, e194, st194⟩ := getS2 X193 hx hZ hown (host := "") (Or.inl (hw _ (List.mem_of_getElem? (i := 16) rfl))) Via.refl e193 (S_PENDING.ext XO171.2) (g := (mkF m 97 #[.val (.int p0), .val (.ref b1), .val (.int (2 : Int32)), .val (.ref a_COMMITTED), .unset] [(.ref a_COMMITTED)])) rfl (hb hby at_97)
    refine Goes.step st194 ?_
    show Goes _ _ _ _ _ _ _ (T194.setTop (mkF m 100 #[.val (.int p0), .val (.ref b1), .val (.int (2 : Int32)), .val (.ref a_COMMITTED), .unset] [(.ref a_PENDING), (.ref a_COMMITTED)]))
    refine Goes.step (fun _ k => Jvm.RoadKit.acmp X194 hx rfl rfl rfl (pc0 := 100) (pc' := 103) (same := false) rfl (hb hby at_100) rfl (decide_eq_false fun q => ne_PENDING_COMMITTED (Value.ref.inj q).symm) (by decide) (by decide) k) ?_
    show Goes _ _ _ _ _ _ _ (T194.setTop (mkF m 103 #[.val (.int p0), .val (.ref b1), .val (.int (2 : Int32)), .val (.ref a_COMMITTED), .unset] []))
    refine Goes.step (fun _ k => XS.aloadN X194.here hx rfl (hb hby at_103) rfl rfl k) ?_
    show Goes _ _ _ _ _ _ _ (T194.setTop (mkF m 104 #[.val (.int p0), .val (.ref b1), .val (.int (2 : Int32)), .val (.ref a_COMMITTED), .unset] [(.ref a_COMMITTED)]))
    obtain ⟨T195, X195, e195, st195⟩ := getS2 X194 hx hZ hown (host := "") (Or.inl (hw _ (List.mem_of_getElem? (i := 18) rfl))) Via.refl e194 (S_SUCCEEDED.ext XO171.2) (g := (mkF m 104 #[.val (.int p0), .val (.ref b1), .val (.int (2 : Int32)), .val (.ref a_COMMITTED), .unset] [(.ref a_COMMITTED)])) rfl (hb hby at_104)
    refine Goes.step st195 ?_
    show Goes _ _ _ _ _ _ _ (T195.setTop (mkF m 107 #[.val (.int p0), .val (.ref b1), .val (.int (2 : Int32)), .val (.ref a_COMMITTED), .unset] [(.ref a_SUCCEEDED), (.ref a_COMMITTED)]))
    refine Goes.step (fun _ k => Jvm.RoadKit.acmp X195 hx rfl rfl rfl (pc0 := 107) (pc' := 114) (same := false) rfl (hb hby at_107) rfl (decide_eq_false fun q => ne_SUCCEEDED_COMMITTED (Value.ref.inj q).symm) (by decide) (by decide) k) ?_
    show Goes _ _ _ _ _ _ _ (T195.setTop (mkF m 114 #[.val (.int p0), .val (.ref b1), .val (.int (2 : Int32)), .val (.ref a_COMMITTED), .unset] []))
    refine Goes.step (fun _ k => XS.iconst X195.here hx rfl (hb hby at_114) k) ?_
    show Goes _ _ _ _ _ _ _ (T195.setTop (mkF m 115 #[.val (.int p0), .val (.ref b1), .val (.int (2 : Int32)), .val (.ref a_COMMITTED), .unset] [(.int (0 : Int32))]))
    refine Goes.step (fun _ k => XS.istore X195.here hx rfl (hb hby at_115) rfl (l' := #[.val (.int p0), .val (.ref b1), .val (.int (2 : Int32)), .val (.ref a_COMMITTED), .val (.int (0 : Int32))]) rfl k) ?_
    show Goes _ _ _ _ _ _ _ (T195.setTop (mkF m 117 #[.val (.int p0), .val (.ref b1), .val (.int (2 : Int32)), .val (.ref a_COMMITTED), .val (.int (0 : Int32))] []))
    refine Goes.step (fun _ k => XS.aloadN X195.here hx rfl (hb hby at_117) rfl rfl k) ?_
    show Goes _ _ _ _ _ _ _ (T195.setTop (mkF m 118 #[.val (.int p0), .val (.ref b1), .val (.int (2 : Int32)), .val (.ref a_COMMITTED), .val (.int (0 : Int32))] [(.ref a_COMMITTED)]))
    obtain ⟨cq196, kq196, q196a, q196b, q196c⟩ := isOf hZ e195 f174
    obtain ⟨_, _, ⟨T196, L196, k196, n196⟩, -, X196, ⟨Lc196, hQ196, l196, y196, z196⟩, st196⟩ := X195.virtualBack hx (y := (⟨"com/example/concordat/concordat/BranchStatus", "isFinal", "()Z"⟩ : MethodName)) (z := (⟨"com/example/concordat/concordat/BranchStatus", "isFinal", "()Z"⟩ : MethodName)) hown (mvT hZ (hw _ (List.mem_of_getElem? (i := 25) rfl))) (mvT hZ (hw _ (List.mem_of_getElem? (i := 26) rfl))) (notFace_of_selects (args := #[]) (mvT hZ (hw _ (List.mem_of_getElem? (i := 28) rfl)))) (mvT hZ (hw _ (List.mem_of_getElem? (i := 28) rfl))) (mvT hZ (hw _ (List.mem_of_getElem? (i := 27) rfl))) (by decide) (backOf (W := 0) (rm1 l Z a0 hw [] a_COMMITTED a_COMMITTED a_ROLLED_BACK a_CONFIRMED a_CANCELLED a_FAILED a_COMPENSATED h170 n0 Z183 S_COMMITTED S_ROLLED_BACK S_CONFIRMED S_CANCELLED S_FAILED S_COMPENSATED XO171) hZ (hw _ (List.mem_of_getElem? (i := 29) rfl)) (hw _ (List.mem_of_getElem? (i := 3) rfl)) (by decide) (by decide)) q196a q196c (g := (mkF m 118 #[.val (.int p0), .val (.ref b1), .val (.int (2 : Int32)), .val (.ref a_COMMITTED), .val (.int (0 : Int32))] [(.ref a_COMMITTED)])) rfl (by rw [hml]; rfl) (Steps.refl _) (argsL := []) (rest := []) (lenOf pd_0 rfl) rfl (by show 2 * 0 + _ ≤ _; exact Nat.le_of_eq rfl) (hb hby at_118) (fun _ _ => ⟨rfl, e195, (by decide : 1 + 0 ≤ _), (by decide : 10 + 0 ≤ _)⟩)
    dsimp only [Pt.U, Pt.locs, Pt.cells, Pt.slots] at X196 l196 y196 z196 st196 hQ196
    subst l196 y196 z196
    obtain ⟨N196, eh196, hR196⟩ := hQ196
    have NA196 := Fr.app N183 N196
    rcases hR196 with ⟨rfl, u196_0_0⟩ | ⟨rfl, u196_1_0, u196_1_1⟩ | ⟨rfl, u196_2_0, u196_2_1, u196_2_2⟩ | ⟨rfl, u196_3_0, u196_3_1, u196_3_2, u196_3_3⟩ | ⟨rfl, u196_4_0, u196_4_1, u196_4_2, u196_4_3, u196_4_4⟩ | ⟨rfl, u196_5_0, u196_5_1, u196_5_2, u196_5_3, u196_5_4, u196_5_5⟩ | ⟨rfl, u196_6_0, u196_6_1, u196_6_2, u196_6_3, u196_6_4, u196_6_5⟩
    · refine Goes.back st196 ?_
      show Goes _ _ _ _ _ _ _ (T196.setTop (mkF m 121 #[.val (.int p0), .val (.ref b1), .val (.int (2 : Int32)), .val (.ref a_COMMITTED), .val (.int (0 : Int32))] [(.int (1 : Int32))]))
      refine Goes.step (fun _ k => XS.iload X196.here hx rfl (hb hby at_121) rfl  k) ?_
      show Goes _ _ _ _ _ _ _ (T196.setTop (mkF m 123 #[.val (.int p0), .val (.ref b1), .val (.int (2 : Int32)), .val (.ref a_COMMITTED), .val (.int (0 : Int32))] [(.int (0 : Int32)), (.int (1 : Int32))]))
      refine Goes.step (fun _ k => XS.ifNo X196.here hx rfl (hb hby at_123) rfl ((if0 _ _).trans (teq (by decide : (0 : Int32) = (0 : Int32))).2) k) ?_
      show Goes _ _ _ _ _ _ _ (T196.setTop (mkF m 126 #[.val (.int p0), .val (.ref b1), .val (.int (2 : Int32)), .val (.ref a_COMMITTED), .val (.int (0 : Int32))] [(.int (1 : Int32))]))
      refine Goes.step (fun _ k => XS.iconst X196.here hx rfl (hb hby at_126) k) ?_
      show Goes _ _ _ _ _ _ _ (T196.setTop (mkF m 127 #[.val (.int p0), .val (.ref b1), .val (.int (2 : Int32)), .val (.ref a_COMMITTED), .val (.int (0 : Int32))] [(.int (1 : Int32)), (.int (1 : Int32))]))
      refine Goes.step (fun _ k => XS.goto X196.here hx rfl (pc0 := 127) (pc' := 131) rfl (hb hby at_127) (by decide) (by decide) k) ?_
      show Goes _ _ _ _ _ _ _ (T196.setTop (mkF m 131 #[.val (.int p0), .val (.ref b1), .val (.int (2 : Int32)), .val (.ref a_COMMITTED), .val (.int (0 : Int32))] [(.int (1 : Int32)), (.int (1 : Int32))]))
      refine Goes.step (fun _ k => XS.icmpNo X196.here hx rfl (hb hby at_131) rfl (teq (by decide : (1 : Int32) = (1 : Int32))).2 k) ?_
      show Goes _ _ _ _ _ _ _ (T196.setTop (mkF m 134 #[.val (.int p0), .val (.ref b1), .val (.int (2 : Int32)), .val (.ref a_COMMITTED), .val (.int (0 : Int32))] []))
      refine Goes.step (fun _ k => XS.iconst X196.here hx rfl (hb hby at_134) k) ?_
      show Goes _ _ _ _ _ _ _ (T196.setTop (mkF m 135 #[.val (.int p0), .val (.ref b1), .val (.int (2 : Int32)), .val (.ref a_COMMITTED), .val (.int (0 : Int32))] [(.int (1 : Int32))]))
      refine Goes.step (fun _ k => XS.goto X196.here hx rfl (pc0 := 135) (pc' := 139) rfl (hb hby at_135) (by decide) (by decide) k) ?_
      show Goes _ _ _ _ _ _ _ (T196.setTop (mkF m 139 #[.val (.int p0), .val (.ref b1), .val (.int (2 : Int32)), .val (.ref a_COMMITTED), .val (.int (0 : Int32))] [(.int (1 : Int32))]))
      exact Goes.ret X196 hx (BodyLoose.notSynchronized Bd) Bd.returns rfl (Or.inl ⟨rfl, by simp, _, rfl⟩) (hb hby at_139) (by show Q0 Z p0 a_REGISTERED a_PREPARED a_COMMITTED a_ROLLED_BACK a_CONFIRMED a_CANCELLED a_PENDING a_SUCCEEDED a_FAILED a_COMPENSATED h0 n0 (some (.int (1 : Int32))) T196.heap _; rw [eh196]; exact ⟨rfl, NA196⟩) (by decide) (by decide)
    · exact absurd (rfl : a_COMMITTED = a_COMMITTED) u196_1_0
    · exact absurd (rfl : a_COMMITTED = a_COMMITTED) u196_2_0
    · exact absurd (rfl : a_COMMITTED = a_COMMITTED) u196_3_0
    · exact absurd (rfl : a_COMMITTED = a_COMMITTED) u196_4_0
    · exact absurd (rfl : a_COMMITTED = a_COMMITTED) u196_5_0
    · exact absurd (rfl : a_COMMITTED = a_COMMITTED) u196_6_0
  · show Goes _ _ _ _ _ _ _ (T170.setTop (mkF m 78 #[.val (.int p0), .val (.ref b1), .val (.int (3 : Int32)), .unset, .unset] []))
    refine Goes.step (fun _ k => XS.aloadN X170.here hx rfl (hb hby at_78) rfl rfl k) ?_
    show Goes _ _ _ _ _ _ _ (T170.setTop (mkF m 79 #[.val (.int p0), .val (.ref b1), .val (.int (3 : Int32)), .unset, .unset] [(.ref b1)]))
    refine Goes.step (fun _ k => XS.iloadN X170.here hx rfl (hb hby at_79) rfl  k) ?_
    show Goes _ _ _ _ _ _ _ (T170.setTop (mkF m 80 #[.val (.int p0), .val (.ref b1), .val (.int (3 : Int32)), .unset, .unset] [(.int (3 : Int32)), (.ref b1)]))
    obtain ⟨cl197, Ar197, q197, S197, P197, H197, G197⟩ := f182
    have hin197 : ¬ ((3 : Int32) < 0 ∨ cl197.slots.size ≤ ((3 : Int32)).toNatClampNeg) := inb_of S197 ⟨by decide, by decide⟩
    have hat197 : cl197.slots[((3 : Int32)).toNatClampNeg]? = some (.ref a_ROLLED_BACK) := H197 _ (by rw [S197]; decide)
    refine Goes.step (fun _ k => X170.aaload hx (j := (3 : Int32)) (v := (.ref a_ROLLED_BACK)) (by rw [e170]; exact Ar197.1) (State.isArrayOf_alike hZ.alike Ar197.2.1) rfl Ar197.2.2 hin197 hat197 (g := (mkF m 80 #[.val (.int p0), .val (.ref b1), .val (.int (3 : Int32)), .unset, .unset] [(.int (3 : Int32)), (.ref b1)])) rfl rfl (hb hby at_80) _ k) ?_
    show Goes _ _ _ _ _ _ _ (T170.setTop (mkF m 81 #[.val (.int p0), .val (.ref b1), .val (.int (3 : Int32)), .unset, .unset] [(.ref a_ROLLED_BACK)]))
    refine Goes.step (fun _ k => XS.astoreN X170.here hx rfl (hb hby at_81) rfl rfl (l' := #[.val (.int p0), .val (.ref b1), .val (.int (3 : Int32)), .val (.ref a_ROLLED_BACK), .unset]) rfl k) ?_
    show Goes _ _ _ _ _ _ _ (T170.setTop (mkF m 82 #[.val (.int p0), .val (.ref b1), .val (.int (3 : Int32)), .val (.ref a_ROLLED_BACK), .unset] []))
    refine Goes.step (fun _ k => XS.aloadN X170.here hx rfl (hb hby at_82) rfl rfl k) ?_
    show Goes _ _ _ _ _ _ _ (T170.setTop (mkF m 83 #[.val (.int p0), .val (.ref b1), .val (.int (3 : Int32)), .val (.ref a_ROLLED_BACK), .unset] [(.ref a_ROLLED_BACK)]))
    obtain ⟨T198, X198, e198, st198⟩ := getS2 X170 hx hZ hown (host := "") (Or.inl (hw _ (List.mem_of_getElem? (i := 2) rfl))) Via.refl e170 (S_REGISTERED.ext XO171.2) (g := (mkF m 83 #[.val (.int p0), .val (.ref b1), .val (.int (3 : Int32)), .val (.ref a_ROLLED_BACK), .unset] [(.ref a_ROLLED_BACK)])) rfl (hb hby at_83)
    refine Goes.step st198 ?_
    show Goes _ _ _ _ _ _ _ (T198.setTop (mkF m 86 #[.val (.int p0), .val (.ref b1), .val (.int (3 : Int32)), .val (.ref a_ROLLED_BACK), .unset] [(.ref a_REGISTERED), (.ref a_ROLLED_BACK)]))
    refine Goes.step (fun _ k => Jvm.RoadKit.acmp X198 hx rfl rfl rfl (pc0 := 86) (pc' := 89) (same := false) rfl (hb hby at_86) rfl (decide_eq_false fun q => ne_ROLLED_BACK_REGISTERED (Value.ref.inj q)) (by decide) (by decide) k) ?_
    show Goes _ _ _ _ _ _ _ (T198.setTop (mkF m 89 #[.val (.int p0), .val (.ref b1), .val (.int (3 : Int32)), .val (.ref a_ROLLED_BACK), .unset] []))
    refine Goes.step (fun _ k => XS.aloadN X198.here hx rfl (hb hby at_89) rfl rfl k) ?_
    show Goes _ _ _ _ _ _ _ (T198.setTop (mkF m 90 #[.val (.int p0), .val (.ref b1), .val (.int (3 : Int32)), .val (.ref a_ROLLED_BACK), .unset] [(.ref a_ROLLED_BACK)]))
    obtain ⟨T199, X199, e199, st199⟩ := getS2 X198 hx hZ hown (host := "") (Or.inl (hw _ (List.mem_of_getElem? (i := 6) rfl))) Via.refl e198 (S_PREPARED.ext XO171.2) (g := (mkF m 90 #[.val (.int p0), .val (.ref b1), .val (.int (3 : Int32)), .val (.ref a_ROLLED_BACK), .unset] [(.ref a_ROLLED_BACK)])) rfl (hb hby at_90)
    refine Goes.step st199 ?_
    show Goes _ _ _ _ _ _ _ (T199.setTop (mkF m 93 #[.val (.int p0), .val (.ref b1), .val (.int (3 : Int32)), .val (.ref a_ROLLED_BACK), .unset] [(.ref a_PREPARED), (.ref a_ROLLED_BACK)]))
    refine Goes.step (fun _ k => Jvm.RoadKit.acmp X199 hx rfl rfl rfl (pc0 := 93) (pc' := 96) (same := false) rfl (hb hby at_93) rfl (decide_eq_false fun q => ne_ROLLED_BACK_PREPARED (Value.ref.inj q)) (by decide) (by decide) k) ?_
    show Goes _ _ _ _ _ _ _ (T199.setTop (mkF m 96 #[.val (.int p0), .val (.ref b1), .val (.int (3 : Int32)), .val (.ref a_ROLLED_BACK), .unset] []))
    refine Goes.step (fun _ k => XS.aloadN X199.here hx rfl (hb hby at_96) rfl rfl k) ?_
    show Goes _ _ _ _ _ _ _ (T199.setTop (mkF m 97 #[.val (.int p0), .val (.ref b1), .val (.int (3 : Int32)), .val (.ref a_ROLLED_BACK), .unset] [(.ref a_ROLLED_BACK)]))
    obtain ⟨T200, X200, e200, st200⟩ := getS2 X199 hx hZ hown (host := "") (Or.inl (hw _ (List.mem_of_getElem? (i := 16) rfl))) Via.refl e199 (S_PENDING.ext XO171.2) (g := (mkF m 97 #[.val (.int p0), .val (.ref b1), .val (.int (3 : Int32)), .val (.ref a_ROLLED_BACK), .unset] [(.ref a_ROLLED_BACK)])) rfl (hb hby at_97)
    refine Goes.step st200 ?_
    show Goes _ _ _ _ _ _ _ (T200.setTop (mkF m 100 #[.val (.int p0), .val (.ref b1), .val (.int (3 : Int32)), .val (.ref a_ROLLED_BACK), .unset] [(.ref a_PENDING), (.ref a_ROLLED_BACK)]))
    refine Goes.step (fun _ k => Jvm.RoadKit.acmp X200 hx rfl rfl rfl (pc0 := 100) (pc' := 103) (same := false) rfl (hb hby at_100) rfl (decide_eq_false fun q => ne_PENDING_ROLLED_BACK (Value.ref.inj q).symm) (by decide) (by decide) k) ?_
    show Goes _ _ _ _ _ _ _ (T200.setTop (mkF m 103 #[.val (.int p0), .val (.ref b1), .val (.int (3 : Int32)), .val (.ref a_ROLLED_BACK), .unset] []))
    refine Goes.step (fun _ k => XS.aloadN X200.here hx rfl (hb hby at_103) rfl rfl k) ?_
    show Goes _ _ _ _ _ _ _ (T200.setTop (mkF m 104 #[.val (.int p0), .val (.ref b1), .val (.int (3 : Int32)), .val (.ref a_ROLLED_BACK), .unset] [(.ref a_ROLLED_BACK)]))
    obtain ⟨T201, X201, e201, st201⟩ := getS2 X200 hx hZ hown (host := "") (Or.inl (hw _ (List.mem_of_getElem? (i := 18) rfl))) Via.refl e200 (S_SUCCEEDED.ext XO171.2) (g := (mkF m 104 #[.val (.int p0), .val (.ref b1), .val (.int (3 : Int32)), .val (.ref a_ROLLED_BACK), .unset] [(.ref a_ROLLED_BACK)])) rfl (hb hby at_104)
    refine Goes.step st201 ?_
    show Goes _ _ _ _ _ _ _ (T201.setTop (mkF m 107 #[.val (.int p0), .val (.ref b1), .val (.int (3 : Int32)), .val (.ref a_ROLLED_BACK), .unset] [(.ref a_SUCCEEDED), (.ref a_ROLLED_BACK)]))
    refine Goes.step (fun _ k => Jvm.RoadKit.acmp X201 hx rfl rfl rfl (pc0 := 107) (pc' := 114) (same := false) rfl (hb hby at_107) rfl (decide_eq_false fun q => ne_SUCCEEDED_ROLLED_BACK (Value.ref.inj q).symm) (by decide) (by decide) k) ?_
    show Goes _ _ _ _ _ _ _ (T201.setTop (mkF m 114 #[.val (.int p0), .val (.ref b1), .val (.int (3 : Int32)), .val (.ref a_ROLLED_BACK), .unset] []))
    refine Goes.step (fun _ k => XS.iconst X201.here hx rfl (hb hby at_114) k) ?_
    show Goes _ _ _ _ _ _ _ (T201.setTop (mkF m 115 #[.val (.int p0), .val (.ref b1), .val (.int (3 : Int32)), .val (.ref a_ROLLED_BACK), .unset] [(.int (0 : Int32))]))
    refine Goes.step (fun _ k => XS.istore X201.here hx rfl (hb hby at_115) rfl (l' := #[.val (.int p0), .val (.ref b1), .val (.int (3 : Int32)), .val (.ref a_ROLLED_BACK), .val (.int (0 : Int32))]) rfl k) ?_
    show Goes _ _ _ _ _ _ _ (T201.setTop (mkF m 117 #[.val (.int p0), .val (.ref b1), .val (.int (3 : Int32)), .val (.ref a_ROLLED_BACK), .val (.int (0 : Int32))] []))
    refine Goes.step (fun _ k => XS.aloadN X201.here hx rfl (hb hby at_117) rfl rfl k) ?_
    show Goes _ _ _ _ _ _ _ (T201.setTop (mkF m 118 #[.val (.int p0), .val (.ref b1), .val (.int (3 : Int32)), .val (.ref a_ROLLED_BACK), .val (.int (0 : Int32))] [(.ref a_ROLLED_BACK)]))
    obtain ⟨cq202, kq202, q202a, q202b, q202c⟩ := isOf hZ e201 f175
    obtain ⟨_, _, ⟨T202, L202, k202, n202⟩, -, X202, ⟨Lc202, hQ202, l202, y202, z202⟩, st202⟩ := X201.virtualBack hx (y := (⟨"com/example/concordat/concordat/BranchStatus", "isFinal", "()Z"⟩ : MethodName)) (z := (⟨"com/example/concordat/concordat/BranchStatus", "isFinal", "()Z"⟩ : MethodName)) hown (mvT hZ (hw _ (List.mem_of_getElem? (i := 25) rfl))) (mvT hZ (hw _ (List.mem_of_getElem? (i := 26) rfl))) (notFace_of_selects (args := #[]) (mvT hZ (hw _ (List.mem_of_getElem? (i := 28) rfl)))) (mvT hZ (hw _ (List.mem_of_getElem? (i := 28) rfl))) (mvT hZ (hw _ (List.mem_of_getElem? (i := 27) rfl))) (by decide) (backOf (W := 0) (rm1 l Z a0 hw [] a_ROLLED_BACK a_COMMITTED a_ROLLED_BACK a_CONFIRMED a_CANCELLED a_FAILED a_COMPENSATED h170 n0 Z183 S_COMMITTED S_ROLLED_BACK S_CONFIRMED S_CANCELLED S_FAILED S_COMPENSATED XO171) hZ (hw _ (List.mem_of_getElem? (i := 29) rfl)) (hw _ (List.mem_of_getElem? (i := 3) rfl)) (by decide) (by decide)) q202a q202c (g := (mkF m 118 #[.val (.int p0), .val (.ref b1), .val (.int (3 : Int32)), .val (.ref a_ROLLED_BACK), .val (.int (0 : Int32))] [(.ref a_ROLLED_BACK)])) rfl (by rw [hml]; rfl) (Steps.refl _) (argsL := []) (rest := []) (lenOf pd_0 rfl) rfl (by show 2 * 0 + _ ≤ _; exact Nat.le_of_eq rfl) (hb hby at_118) (fun _ _ => ⟨rfl, e201, (by decide : 1 + 0 ≤ _), (by decide : 10 + 0 ≤ _)⟩)
    dsimp only [Pt.U, Pt.locs, Pt.cells, Pt.slots] at X202 l202 y202 z202 st202 hQ202
    subst l202 y202 z202
    obtain ⟨N202, eh202, hR202⟩ := hQ202
    have NA202 := Fr.app N183 N202
    rcases hR202 with ⟨rfl, u202_0_0⟩ | ⟨rfl, u202_1_0, u202_1_1⟩ | ⟨rfl, u202_2_0, u202_2_1, u202_2_2⟩ | ⟨rfl, u202_3_0, u202_3_1, u202_3_2, u202_3_3⟩ | ⟨rfl, u202_4_0, u202_4_1, u202_4_2, u202_4_3, u202_4_4⟩ | ⟨rfl, u202_5_0, u202_5_1, u202_5_2, u202_5_3, u202_5_4, u202_5_5⟩ | ⟨rfl, u202_6_0, u202_6_1, u202_6_2, u202_6_3, u202_6_4, u202_6_5⟩
    · exact absurd u202_0_0 ne_ROLLED_BACK_COMMITTED
    · refine Goes.back st202 ?_
      show Goes _ _ _ _ _ _ _ (T202.setTop (mkF m 121 #[.val (.int p0), .val (.ref b1), .val (.int (3 : Int32)), .val (.ref a_ROLLED_BACK), .val (.int (0 : Int32))] [(.int (1 : Int32))]))
      refine Goes.step (fun _ k => XS.iload X202.here hx rfl (hb hby at_121) rfl  k) ?_
      show Goes _ _ _ _ _ _ _ (T202.setTop (mkF m 123 #[.val (.int p0), .val (.ref b1), .val (.int (3 : Int32)), .val (.ref a_ROLLED_BACK), .val (.int (0 : Int32))] [(.int (0 : Int32)), (.int (1 : Int32))]))
      refine Goes.step (fun _ k => XS.ifNo X202.here hx rfl (hb hby at_123) rfl ((if0 _ _).trans (teq (by decide : (0 : Int32) = (0 : Int32))).2) k) ?_
      show Goes _ _ _ _ _ _ _ (T202.setTop (mkF m 126 #[.val (.int p0), .val (.ref b1), .val (.int (3 : Int32)), .val (.ref a_ROLLED_BACK), .val (.int (0 : Int32))] [(.int (1 : Int32))]))
      refine Goes.step (fun _ k => XS.iconst X202.here hx rfl (hb hby at_126) k) ?_
      show Goes _ _ _ _ _ _ _ (T202.setTop (mkF m 127 #[.val (.int p0), .val (.ref b1), .val (.int (3 : Int32)), .val (.ref a_ROLLED_BACK), .val (.int (0 : Int32))] [(.int (1 : Int32)), (.int (1 : Int32))]))
      refine Goes.step (fun _ k => XS.goto X202.here hx rfl (pc0 := 127) (pc' := 131) rfl (hb hby at_127) (by decide) (by decide) k) ?_
      show Goes _ _ _ _ _ _ _ (T202.setTop (mkF m 131 #[.val (.int p0), .val (.ref b1), .val (.int (3 : Int32)), .val (.ref a_ROLLED_BACK), .val (.int (0 : Int32))] [(.int (1 : Int32)), (.int (1 : Int32))]))
      refine Goes.step (fun _ k => XS.icmpNo X202.here hx rfl (hb hby at_131) rfl (teq (by decide : (1 : Int32) = (1 : Int32))).2 k) ?_
      show Goes _ _ _ _ _ _ _ (T202.setTop (mkF m 134 #[.val (.int p0), .val (.ref b1), .val (.int (3 : Int32)), .val (.ref a_ROLLED_BACK), .val (.int (0 : Int32))] []))
      refine Goes.step (fun _ k => XS.iconst X202.here hx rfl (hb hby at_134) k) ?_
      show Goes _ _ _ _ _ _ _ (T202.setTop (mkF m 135 #[.val (.int p0), .val (.ref b1), .val (.int (3 : Int32)), .val (.ref a_ROLLED_BACK), .val (.int (0 : Int32))] [(.int (1 : Int32))]))
      refine Goes.step (fun _ k => XS.goto X202.here hx rfl (pc0 := 135) (pc' := 139) rfl (hb hby at_135) (by decide) (by decide) k) ?_
      show Goes _ _ _ _ _ _ _ (T202.setTop (mkF m 139 #[.val (.int p0), .val (.ref b1), .val (.int (3 : Int32)), .val (.ref a_ROLLED_BACK), .val (.int (0 : Int32))] [(.int (1 : Int32))]))
      exact Goes.ret X202 hx (BodyLoose.notSynchronized Bd) Bd.returns rfl (Or.inl ⟨rfl, by simp, _, rfl⟩) (hb hby at_139) (by show Q0 Z p0 a_REGISTERED a_PREPARED a_COMMITTED a_ROLLED_BACK a_CONFIRMED a_CANCELLED a_PENDING a_SUCCEEDED a_FAILED a_COMPENSATED h0 n0 (some (.int (1 : Int32))) T202.heap _; rw [eh202]; exact ⟨rfl, NA202⟩) (by decide) (by decide)
    · exact absurd (rfl : a_ROLLED_BACK = a_ROLLED_BACK) u202_2_1
    · exact absurd (rfl : a_ROLLED_BACK = a_ROLLED_BACK) u202_3_1
    · exact absurd (rfl : a_ROLLED_BACK = a_ROLLED_BACK) u202_4_1
    · exact absurd (rfl : a_ROLLED_BACK = a_ROLLED_BACK) u202_5_1
    · exact absurd (rfl : a_ROLLED_BACK = a_ROLLED_BACK) u202_6_1
  · show Goes _ _ _ _ _ _ _ (T170.setTop (mkF m 78 #[.val (.int p0), .val (.ref b1), .val (.int (4 : Int32)), .unset, .unset] []))
    refine Goes.step (fun _ k => XS.aloadN X170.here hx rfl (hb hby at_78) rfl rfl k) ?_
    show Goes _ _ _ _ _ _ _ (T170.setTop (mkF m 79 #[.val (.int p0), .val (.ref b1), .val (.int (4 : Int32)), .unset, .unset] [(.ref b1)]))
    refine Goes.step (fun _ k => XS.iloadN X170.here hx rfl (hb hby at_79) rfl  k) ?_
    show Goes _ _ _ _ _ _ _ (T170.setTop (mkF m 80 #[.val (.int p0), .val (.ref b1), .val (.int (4 : Int32)), .unset, .unset] [(.int (4 : Int32)), (.ref b1)]))
    obtain ⟨cl203, Ar203, q203, S203, P203, H203, G203⟩ := f182
    have hin203 : ¬ ((4 : Int32) < 0 ∨ cl203.slots.size ≤ ((4 : Int32)).toNatClampNeg) := inb_of S203 ⟨by decide, by decide⟩
    have hat203 : cl203.slots[((4 : Int32)).toNatClampNeg]? = some (.ref a_CONFIRMED) := H203 _ (by rw [S203]; decide)
    refine Goes.step (fun _ k => X170.aaload hx (j := (4 : Int32)) (v := (.ref a_CONFIRMED)) (by rw [e170]; exact Ar203.1) (State.isArrayOf_alike hZ.alike Ar203.2.1) rfl Ar203.2.2 hin203 hat203 (g := (mkF m 80 #[.val (.int p0), .val (.ref b1), .val (.int (4 : Int32)), .unset, .unset] [(.int (4 : Int32)), (.ref b1)])) rfl rfl (hb hby at_80) _ k) ?_
    show Goes _ _ _ _ _ _ _ (T170.setTop (mkF m 81 #[.val (.int p0), .val (.ref b1), .val (.int (4 : Int32)), .unset, .unset] [(.ref a_CONFIRMED)]))
    refine Goes.step (fun _ k => XS.astoreN X170.here hx rfl (hb hby at_81) rfl rfl (l' := #[.val (.int p0), .val (.ref b1), .val (.int (4 : Int32)), .val (.ref a_CONFIRMED), .unset]) rfl k) ?_
    show Goes _ _ _ _ _ _ _ (T170.setTop (mkF m 82 #[.val (.int p0), .val (.ref b1), .val (.int (4 : Int32)), .val (.ref a_CONFIRMED), .unset] []))
    refine Goes.step (fun _ k => XS.aloadN X170.here hx rfl (hb hby at_82) rfl rfl k) ?_
    show Goes _ _ _ _ _ _ _ (T170.setTop (mkF m 83 #[.val (.int p0), .val (.ref b1), .val (.int (4 : Int32)), .val (.ref a_CONFIRMED), .unset] [(.ref a_CONFIRMED)]))
    obtain ⟨T204, X204, e204, st204⟩ := getS2 X170 hx hZ hown (host := "") (Or.inl (hw _ (List.mem_of_getElem? (i := 2) rfl))) Via.refl e170 (S_REGISTERED.ext XO171.2) (g := (mkF m 83 #[.val (.int p0), .val (.ref b1), .val (.int (4 : Int32)), .val (.ref a_CONFIRMED), .unset] [(.ref a_CONFIRMED)])) rfl (hb hby at_83)
    refine Goes.step st204 ?_
    show Goes _ _ _ _ _ _ _ (T204.setTop (mkF m 86 #[.val (.int p0), .val (.ref b1), .val (.int (4 : Int32)), .val (.ref a_CONFIRMED), .unset] [(.ref a_REGISTERED), (.ref a_CONFIRMED)]))
    refine Goes.step (fun _ k => Jvm.RoadKit.acmp X204 hx rfl rfl rfl (pc0 := 86) (pc' := 89) (same := false) rfl (hb hby at_86) rfl (decide_eq_false fun q => ne_CONFIRMED_REGISTERED (Value.ref.inj q)) (by decide) (by decide) k) ?_
    show Goes _ _ _ _ _ _ _ (T204.setTop (mkF m 89 #[.val (.int p0), .val (.ref b1), .val (.int (4 : Int32)), .val (.ref a_CONFIRMED), .unset] []))
    refine Goes.step (fun _ k => XS.aloadN X204.here hx rfl (hb hby at_89) rfl rfl k) ?_
    show Goes _ _ _ _ _ _ _ (T204.setTop (mkF m 90 #[.val (.int p0), .val (.ref b1), .val (.int (4 : Int32)), .val (.ref a_CONFIRMED), .unset] [(.ref a_CONFIRMED)]))
    obtain ⟨T205, X205, e205, st205⟩ := getS2 X204 hx hZ hown (host := "") (Or.inl (hw _ (List.mem_of_getElem? (i := 6) rfl))) Via.refl e204 (S_PREPARED.ext XO171.2) (g := (mkF m 90 #[.val (.int p0), .val (.ref b1), .val (.int (4 : Int32)), .val (.ref a_CONFIRMED), .unset] [(.ref a_CONFIRMED)])) rfl (hb hby at_90)
    refine Goes.step st205 ?_
    show Goes _ _ _ _ _ _ _ (T205.setTop (mkF m 93 #[.val (.int p0), .val (.ref b1), .val (.int (4 : Int32)), .val (.ref a_CONFIRMED), .unset] [(.ref a_PREPARED), (.ref a_CONFIRMED)]))
    refine Goes.step (fun _ k => Jvm.RoadKit.acmp X205 hx rfl rfl rfl (pc0 := 93) (pc' := 96) (same := false) rfl (hb hby at_93) rfl (decide_eq_false fun q => ne_CONFIRMED_PREPARED (Value.ref.inj q)) (by decide) (by decide) k) ?_
    show Goes _ _ _ _ _ _ _ (T205.setTop (mkF m 96 #[.val (.int p0), .val (.ref b1), .val (.int (4 : Int32)), .val (.ref a_CONFIRMED), .unset] []))
    refine Goes.step (fun _ k => XS.aloadN X205.here hx rfl (hb hby at_96) rfl rfl k) ?_
    show Goes _ _ _ _ _ _ _ (T205.setTop (mkF m 97 #[.val (.int p0), .val (.ref b1), .val (.int (4 : Int32)), .val (.ref a_CONFIRMED), .unset] [(.ref a_CONFIRMED)]))
    obtain ⟨T206, X206, e206, st206⟩ := getS2 X205 hx hZ hown (host := "") (Or.inl (hw _ (List.mem_of_getElem? (i := 16) rfl))) Via.refl e205 (S_PENDING.ext XO171.2) (g := (mkF m 97 #[.val (.int p0), .val (.ref b1), .val (.int (4 : Int32)), .val (.ref a_CONFIRMED), .unset] [(.ref a_CONFIRMED)])) rfl (hb hby at_97)
    refine Goes.step st206 ?_
    show Goes _ _ _ _ _ _ _ (T206.setTop (mkF m 100 #[.val (.int p0), .val (.ref b1), .val (.int (4 : Int32)), .val (.ref a_CONFIRMED), .unset] [(.ref a_PENDING), (.ref a_CONFIRMED)]))
    refine Goes.step (fun _ k => Jvm.RoadKit.acmp X206 hx rfl rfl rfl (pc0 := 100) (pc' := 103) (same := false) rfl (hb hby at_100) rfl (decide_eq_false fun q => ne_PENDING_CONFIRMED (Value.ref.inj q).symm) (by decide) (by decide) k) ?_
    show Goes _ _ _ _ _ _ _ (T206.setTop (mkF m 103 #[.val (.int p0), .val (.ref b1), .val (.int (4 : Int32)), .val (.ref a_CONFIRMED), .unset] []))
    refine Goes.step (fun _ k => XS.aloadN X206.here hx rfl (hb hby at_103) rfl rfl k) ?_
    show Goes _ _ _ _ _ _ _ (T206.setTop (mkF m 104 #[.val (.int p0), .val (.ref b1), .val (.int (4 : Int32)), .val (.ref a_CONFIRMED), .unset] [(.ref a_CONFIRMED)]))
    obtain ⟨T207, X207, e207, st207⟩ := getS2 X206 hx hZ hown (host := "") (Or.inl (hw _ (List.mem_of_getElem? (i := 18) rfl))) Via.refl e206 (S_SUCCEEDED.ext XO171.2) (g := (mkF m 104 #[.val (.int p0), .val (.ref b1), .val (.int (4 : Int32)), .val (.ref a_CONFIRMED), .unset] [(.ref a_CONFIRMED)])) rfl (hb hby at_104)
    refine Goes.step st207 ?_
    show Goes _ _ _ _ _ _ _ (T207.setTop (mkF m 107 #[.val (.int p0), .val (.ref b1), .val (.int (4 : Int32)), .val (.ref a_CONFIRMED), .unset] [(.ref a_SUCCEEDED), (.ref a_CONFIRMED)]))
    refine Goes.step (fun _ k => Jvm.RoadKit.acmp X207 hx rfl rfl rfl (pc0 := 107) (pc' := 114) (same := false) rfl (hb hby at_107) rfl (decide_eq_false fun q => ne_SUCCEEDED_CONFIRMED (Value.ref.inj q).symm) (by decide) (by decide) k) ?_
    show Goes _ _ _ _ _ _ _ (T207.setTop (mkF m 114 #[.val (.int p0), .val (.ref b1), .val (.int (4 : Int32)), .val (.ref a_CONFIRMED), .unset] []))
    refine Goes.step (fun _ k => XS.iconst X207.here hx rfl (hb hby at_114) k) ?_
    show Goes _ _ _ _ _ _ _ (T207.setTop (mkF m 115 #[.val (.int p0), .val (.ref b1), .val (.int (4 : Int32)), .val (.ref a_CONFIRMED), .unset] [(.int (0 : Int32))]))
    refine Goes.step (fun _ k => XS.istore X207.here hx rfl (hb hby at_115) rfl (l' := #[.val (.int p0), .val (.ref b1), .val (.int (4 : Int32)), .val (.ref a_CONFIRMED), .val (.int (0 : Int32))]) rfl k) ?_
    show Goes _ _ _ _ _ _ _ (T207.setTop (mkF m 117 #[.val (.int p0), .val (.ref b1), .val (.int (4 : Int32)), .val (.ref a_CONFIRMED), .val (.int (0 : Int32))] []))
    refine Goes.step (fun _ k => XS.aloadN X207.here hx rfl (hb hby at_117) rfl rfl k) ?_
    show Goes _ _ _ _ _ _ _ (T207.setTop (mkF m 118 #[.val (.int p0), .val (.ref b1), .val (.int (4 : Int32)), .val (.ref a_CONFIRMED), .val (.int (0 : Int32))] [(.ref a_CONFIRMED)]))
    obtain ⟨cq208, kq208, q208a, q208b, q208c⟩ := isOf hZ e207 f176
    obtain ⟨_, _, ⟨T208, L208, k208, n208⟩, -, X208, ⟨Lc208, hQ208, l208, y208, z208⟩, st208⟩ := X207.virtualBack hx (y := (⟨"com/example/concordat/concordat/BranchStatus", "isFinal", "()Z"⟩ : MethodName)) (z := (⟨"com/example/concordat/concordat/BranchStatus", "isFinal", "()Z"⟩ : MethodName)) hown (mvT hZ (hw _ (List.mem_of_getElem? (i := 25) rfl))) (mvT hZ (hw _ (List.mem_of_getElem? (i := 26) rfl))) (notFace_of_selects (args := #[]) (mvT hZ (hw _ (List.mem_of_getElem? (i := 28) rfl)))) (mvT hZ (hw _ (List.mem_of_getElem? (i := 28) rfl))) (mvT hZ (hw _ (List.mem_of_getElem? (i := 27) rfl))) (by decide) (backOf (W := 0) (rm1 l Z a0 hw [] a_CONFIRMED a_COMMITTED a_ROLLED_BACK a_CONFIRMED a_CANCELLED a_FAILED a_COMPENSATED h170 n0 Z183 S_COMMITTED S_ROLLED_BACK S_CONFIRMED S_CANCELLED S_FAILED S_COMPENSATED XO171) hZ (hw _ (List.mem_of_getElem? (i := 29) rfl)) (hw _ (List.mem_of_getElem? (i := 3) rfl)) (by decide) (by decide)) q208a q208c (g := (mkF m 118 #[.val (.int p0), .val (.ref b1), .val (.int (4 : Int32)), .val (.ref a_CONFIRMED), .val (.int (0 : Int32))] [(.ref a_CONFIRMED)])) rfl (by rw [hml]; rfl) (Steps.refl _) (argsL := []) (rest := []) (lenOf pd_0 rfl) rfl (by show 2 * 0 + _ ≤ _; exact Nat.le_of_eq rfl) (hb hby at_118) (fun _ _ => ⟨rfl, e207, (by decide : 1 + 0 ≤ _), (by decide : 10 + 0 ≤ _)⟩)
    dsimp only [Pt.U, Pt.locs, Pt.cells, Pt.slots] at X208 l208 y208 z208 st208 hQ208
    subst l208 y208 z208
    obtain ⟨N208, eh208, hR208⟩ := hQ208
    have NA208 := Fr.app N183 N208
    rcases hR208 with ⟨rfl, u208_0_0⟩ | ⟨rfl, u208_1_0, u208_1_1⟩ | ⟨rfl, u208_2_0, u208_2_1, u208_2_2⟩ | ⟨rfl, u208_3_0, u208_3_1, u208_3_2, u208_3_3⟩ | ⟨rfl, u208_4_0, u208_4_1, u208_4_2, u208_4_3, u208_4_4⟩ | ⟨rfl, u208_5_0, u208_5_1, u208_5_2, u208_5_3, u208_5_4, u208_5_5⟩ | ⟨rfl, u208_6_0, u208_6_1, u208_6_2, u208_6_3, u208_6_4, u208_6_5⟩
    · exact absurd u208_0_0 ne_CONFIRMED_COMMITTED
    · exact absurd u208_1_1 ne_CONFIRMED_ROLLED_BACK
    · refine Goes.back st208 ?_
      show Goes _ _ _ _ _ _ _ (T208.setTop (mkF m 121 #[.val (.int p0), .val (.ref b1), .val (.int (4 : Int32)), .val (.ref a_CONFIRMED), .val (.int (0 : Int32))] [(.int (1 : Int32))]))
      refine Goes.step (fun _ k => XS.iload X208.here hx rfl (hb hby at_121) rfl  k) ?_
      show Goes _ _ _ _ _ _ _ (T208.setTop (mkF m 123 #[.val (.int p0), .val (.ref b1), .val (.int (4 : Int32)), .val (.ref a_CONFIRMED), .val (.int (0 : Int32))] [(.int (0 : Int32)), (.int (1 : Int32))]))
      refine Goes.step (fun _ k => XS.ifNo X208.here hx rfl (hb hby at_123) rfl ((if0 _ _).trans (teq (by decide : (0 : Int32) = (0 : Int32))).2) k) ?_
      show Goes _ _ _ _ _ _ _ (T208.setTop (mkF m 126 #[.val (.int p0), .val (.ref b1), .val (.int (4 : Int32)), .val (.ref a_CONFIRMED), .val (.int (0 : Int32))] [(.int (1 : Int32))]))
      refine Goes.step (fun _ k => XS.iconst X208.here hx rfl (hb hby at_126) k) ?_
      show Goes _ _ _ _ _ _ _ (T208.setTop (mkF m 127 #[.val (.int p0), .val (.ref b1), .val (.int (4 : Int32)), .val (.ref a_CONFIRMED), .val (.int (0 : Int32))] [(.int (1 : Int32)), (.int (1 : Int32))]))
      refine Goes.step (fun _ k => XS.goto X208.here hx rfl (pc0 := 127) (pc' := 131) rfl (hb hby at_127) (by decide) (by decide) k) ?_
      show Goes _ _ _ _ _ _ _ (T208.setTop (mkF m 131 #[.val (.int p0), .val (.ref b1), .val (.int (4 : Int32)), .val (.ref a_CONFIRMED), .val (.int (0 : Int32))] [(.int (1 : Int32)), (.int (1 : Int32))]))
      refine Goes.step (fun _ k => XS.icmpNo X208.here hx rfl (hb hby at_131) rfl (teq (by decide : (1 : Int32) = (1 : Int32))).2 k) ?_
      show Goes _ _ _ _ _ _ _ (T208.setTop (mkF m 134 #[.val (.int p0), .val (.ref b1), .val (.int (4 : Int32)), .val (.ref a_CONFIRMED), .val (.int (0 : Int32))] []))
      refine Goes.step (fun _ k => XS.iconst X208.here hx rfl (hb hby at_134) k) ?_
      show Goes _ _ _ _ _ _ _ (T208.setTop (mkF m 135 #[.val (.int p0), .val (.ref b1), .val (.int (4 : Int32)), .val (.ref a_CONFIRMED), .val (.int (0 : Int32))] [(.int (1 : Int32))]))
      refine Goes.step (fun _ k => XS.goto X208.here hx rfl (pc0 := 135) (pc' := 139) rfl (hb hby at_135) (by decide) (by decide) k) ?_
      show Goes _ _ _ _ _ _ _ (T208.setTop (mkF m 139 #[.val (.int p0), .val (.ref b1), .val (.int (4 : Int32)), .val (.ref a_CONFIRMED), .val (.int (0 : Int32))] [(.int (1 : Int32))]))
      exact Goes.ret X208 hx (BodyLoose.notSynchronized Bd) Bd.returns rfl (Or.inl ⟨rfl, by simp, _, rfl⟩) (hb hby at_139) (by show Q0 Z p0 a_REGISTERED a_PREPARED a_COMMITTED a_ROLLED_BACK a_CONFIRMED a_CANCELLED a_PENDING a_SUCCEEDED a_FAILED a_COMPENSATED h0 n0 (some (.int (1 : Int32))) T208.heap _; rw [eh208]; exact ⟨rfl, NA208⟩) (by decide) (by decide)
    · exact absurd (rfl : a_CONFIRMED = a_CONFIRMED) u208_3_2
    · exact absurd (rfl : a_CONFIRMED = a_CONFIRMED) u208_4_2
    · exact absurd (rfl : a_CONFIRMED = a_CONFIRMED) u208_5_2
    · exact absurd (rfl : a_CONFIRMED = a_CONFIRMED) u208_6_2
  · show Goes _ _ _ _ _ _ _ (T170.setTop (mkF m 78 #[.val (.int p0), .val (.ref b1), .val (.int (5 : Int32)), .unset, .unset] []))
    refine Goes.step (fun _ k => XS.aloadN X170.here hx rfl (hb hby at_78) rfl rfl k) ?_
    show Goes _ _ _ _ _ _ _ (T170.setTop (mkF m 79 #[.val (.int p0), .val (.ref b1), .val (.int (5 : Int32)), .unset, .unset] [(.ref b1)]))
    refine Goes.step (fun _ k => XS.iloadN X170.here hx rfl (hb hby at_79) rfl  k) ?_
    show Goes _ _ _ _ _ _ _ (T170.setTop (mkF m 80 #[.val (.int p0), .val (.ref b1), .val (.int (5 : Int32)), .unset, .unset] [(.int (5 : Int32)), (.ref b1)]))
    obtain ⟨cl209, Ar209, q209, S209, P209, H209, G209⟩ := f182
    have hin209 : ¬ ((5 : Int32) < 0 ∨ cl209.slots.size ≤ ((5 : Int32)).toNatClampNeg) := inb_of S209 ⟨by decide, by decide⟩
    have hat209 : cl209.slots[((5 : Int32)).toNatClampNeg]? = some (.ref a_CANCELLED) := H209 _ (by rw [S209]; decide)
    refine Goes.step (fun _ k => X170.aaload hx (j := (5 : Int32)) (v := (.ref a_CANCELLED)) (by rw [e170]; exact Ar209.1) (State.isArrayOf_alike hZ.alike Ar209.2.1) rfl Ar209.2.2 hin209 hat209 (g := (mkF m 80 #[.val (.int p0), .val (.ref b1), .val (.int (5 : Int32)), .unset, .unset] [(.int (5 : Int32)), (.ref b1)])) rfl rfl (hb hby at_80) _ k) ?_
    show Goes _ _ _ _ _ _ _ (T170.setTop (mkF m 81 #[.val (.int p0), .val (.ref b1), .val (.int (5 : Int32)), .unset, .unset] [(.ref a_CANCELLED)]))
    refine Goes.step (fun _ k => XS.astoreN X170.here hx rfl (hb hby at_81) rfl rfl (l' := #[.val (.int p0), .val (.ref b1), .val (.int (5 : Int32)), .val (.ref a_CANCELLED), .unset]) rfl k) ?_
    show Goes _ _ _ _ _ _ _ (T170.setTop (mkF m 82 #[.val (.int p0), .val (.ref b1), .val (.int (5 : Int32)), .val (.ref a_CANCELLED), .unset] []))
    refine Goes.step (fun _ k => XS.aloadN X170.here hx rfl (hb hby at_82) rfl rfl k) ?_
    show Goes _ _ _ _ _ _ _ (T170.setTop (mkF m 83 #[.val (.int p0), .val (.ref b1), .val (.int (5 : Int32)), .val (.ref a_CANCELLED), .unset] [(.ref a_CANCELLED)]))
    obtain ⟨T210, X210, e210, st210⟩ := getS2 X170 hx hZ hown (host := "") (Or.inl (hw _ (List.mem_of_getElem? (i := 2) rfl))) Via.refl e170 (S_REGISTERED.ext XO171.2) (g := (mkF m 83 #[.val (.int p0), .val (.ref b1), .val (.int (5 : Int32)), .val (.ref a_CANCELLED), .unset] [(.ref a_CANCELLED)])) rfl (hb hby at_83)
    refine Goes.step st210 ?_
    show Goes _ _ _ _ _ _ _ (T210.setTop (mkF m 86 #[.val (.int p0), .val (.ref b1), .val (.int (5 : Int32)), .val (.ref a_CANCELLED), .unset] [(.ref a_REGISTERED), (.ref a_CANCELLED)]))
    refine Goes.step (fun _ k => Jvm.RoadKit.acmp X210 hx rfl rfl rfl (pc0 := 86) (pc' := 89) (same := false) rfl (hb hby at_86) rfl (decide_eq_false fun q => ne_CANCELLED_REGISTERED (Value.ref.inj q)) (by decide) (by decide) k) ?_
    show Goes _ _ _ _ _ _ _ (T210.setTop (mkF m 89 #[.val (.int p0), .val (.ref b1), .val (.int (5 : Int32)), .val (.ref a_CANCELLED), .unset] []))
    refine Goes.step (fun _ k => XS.aloadN X210.here hx rfl (hb hby at_89) rfl rfl k) ?_
    show Goes _ _ _ _ _ _ _ (T210.setTop (mkF m 90 #[.val (.int p0), .val (.ref b1), .val (.int (5 : Int32)), .val (.ref a_CANCELLED), .unset] [(.ref a_CANCELLED)]))
    obtain ⟨T211, X211, e211, st211⟩ := getS2 X210 hx hZ hown (host := "") (Or.inl (hw _ (List.mem_of_getElem? (i := 6) rfl))) Via.refl e210 (S_PREPARED.ext XO171.2) (g := (mkF m 90 #[.val (.int p0), .val (.ref b1), .val (.int (5 : Int32)), .val (.ref a_CANCELLED), .unset] [(.ref a_CANCELLED)])) rfl (hb hby at_90)
    refine Goes.step st211 ?_
    show Goes _ _ _ _ _ _ _ (T211.setTop (mkF m 93 #[.val (.int p0), .val (.ref b1), .val (.int (5 : Int32)), .val (.ref a_CANCELLED), .unset] [(.ref a_PREPARED), (.ref a_CANCELLED)]))
    refine Goes.step (fun _ k => Jvm.RoadKit.acmp X211 hx rfl rfl rfl (pc0 := 93) (pc' := 96) (same := false) rfl (hb hby at_93) rfl (decide_eq_false fun q => ne_CANCELLED_PREPARED (Value.ref.inj q)) (by decide) (by decide) k) ?_
    show Goes _ _ _ _ _ _ _ (T211.setTop (mkF m 96 #[.val (.int p0), .val (.ref b1), .val (.int (5 : Int32)), .val (.ref a_CANCELLED), .unset] []))
    refine Goes.step (fun _ k => XS.aloadN X211.here hx rfl (hb hby at_96) rfl rfl k) ?_
    show Goes _ _ _ _ _ _ _ (T211.setTop (mkF m 97 #[.val (.int p0), .val (.ref b1), .val (.int (5 : Int32)), .val (.ref a_CANCELLED), .unset] [(.ref a_CANCELLED)]))
    obtain ⟨T212, X212, e212, st212⟩ := getS2 X211 hx hZ hown (host := "") (Or.inl (hw _ (List.mem_of_getElem? (i := 16) rfl))) Via.refl e211 (S_PENDING.ext XO171.2) (g := (mkF m 97 #[.val (.int p0), .val (.ref b1), .val (.int (5 : Int32)), .val (.ref a_CANCELLED), .unset] [(.ref a_CANCELLED)])) rfl (hb hby at_97)
    refine Goes.step st212 ?_
    show Goes _ _ _ _ _ _ _ (T212.setTop (mkF m 100 #[.val (.int p0), .val (.ref b1), .val (.int (5 : Int32)), .val (.ref a_CANCELLED), .unset] [(.ref a_PENDING), (.ref a_CANCELLED)]))
    refine Goes.step (fun _ k => Jvm.RoadKit.acmp X212 hx rfl rfl rfl (pc0 := 100) (pc' := 103) (same := false) rfl (hb hby at_100) rfl (decide_eq_false fun q => ne_PENDING_CANCELLED (Value.ref.inj q).symm) (by decide) (by decide) k) ?_
    show Goes _ _ _ _ _ _ _ (T212.setTop (mkF m 103 #[.val (.int p0), .val (.ref b1), .val (.int (5 : Int32)), .val (.ref a_CANCELLED), .unset] []))
    refine Goes.step (fun _ k => XS.aloadN X212.here hx rfl (hb hby at_103) rfl rfl k) ?_
    show Goes _ _ _ _ _ _ _ (T212.setTop (mkF m 104 #[.val (.int p0), .val (.ref b1), .val (.int (5 : Int32)), .val (.ref a_CANCELLED), .unset] [(.ref a_CANCELLED)]))
    obtain ⟨T213, X213, e213, st213⟩ := getS2 X212 hx hZ hown (host := "") (Or.inl (hw _ (List.mem_of_getElem? (i := 18) rfl))) Via.refl e212 (S_SUCCEEDED.ext XO171.2) (g := (mkF m 104 #[.val (.int p0), .val (.ref b1), .val (.int (5 : Int32)), .val (.ref a_CANCELLED), .unset] [(.ref a_CANCELLED)])) rfl (hb hby at_104)
    refine Goes.step st213 ?_
    show Goes _ _ _ _ _ _ _ (T213.setTop (mkF m 107 #[.val (.int p0), .val (.ref b1), .val (.int (5 : Int32)), .val (.ref a_CANCELLED), .unset] [(.ref a_SUCCEEDED), (.ref a_CANCELLED)]))
    refine Goes.step (fun _ k => Jvm.RoadKit.acmp X213 hx rfl rfl rfl (pc0 := 107) (pc' := 114) (same := false) rfl (hb hby at_107) rfl (decide_eq_false fun q => ne_SUCCEEDED_CANCELLED (Value.ref.inj q).symm) (by decide) (by decide) k) ?_
    show Goes _ _ _ _ _ _ _ (T213.setTop (mkF m 114 #[.val (.int p0), .val (.ref b1), .val (.int (5 : Int32)), .val (.ref a_CANCELLED), .unset] []))
    refine Goes.step (fun _ k => XS.iconst X213.here hx rfl (hb hby at_114) k) ?_
    show Goes _ _ _ _ _ _ _ (T213.setTop (mkF m 115 #[.val (.int p0), .val (.ref b1), .val (.int (5 : Int32)), .val (.ref a_CANCELLED), .unset] [(.int (0 : Int32))]))
    refine Goes.step (fun _ k => XS.istore X213.here hx rfl (hb hby at_115) rfl (l' := #[.val (.int p0), .val (.ref b1), .val (.int (5 : Int32)), .val (.ref a_CANCELLED), .val (.int (0 : Int32))]) rfl k) ?_
    show Goes _ _ _ _ _ _ _ (T213.setTop (mkF m 117 #[.val (.int p0), .val (.ref b1), .val (.int (5 : Int32)), .val (.ref a_CANCELLED), .val (.int (0 : Int32))] []))
    refine Goes.step (fun _ k => XS.aloadN X213.here hx rfl (hb hby at_117) rfl rfl k) ?_
    show Goes _ _ _ _ _ _ _ (T213.setTop (mkF m 118 #[.val (.int p0), .val (.ref b1), .val (.int (5 : Int32)), .val (.ref a_CANCELLED), .val (.int (0 : Int32))] [(.ref a_CANCELLED)]))
    obtain ⟨cq214, kq214, q214a, q214b, q214c⟩ := isOf hZ e213 f177
    obtain ⟨_, _, ⟨T214, L214, k214, n214⟩, -, X214, ⟨Lc214, hQ214, l214, y214, z214⟩, st214⟩ := X213.virtualBack hx (y := (⟨"com/example/concordat/concordat/BranchStatus", "isFinal", "()Z"⟩ : MethodName)) (z := (⟨"com/example/concordat/concordat/BranchStatus", "isFinal", "()Z"⟩ : MethodName)) hown (mvT hZ (hw _ (List.mem_of_getElem? (i := 25) rfl))) (mvT hZ (hw _ (List.mem_of_getElem? (i := 26) rfl))) (notFace_of_selects (args := #[]) (mvT hZ (hw _ (List.mem_of_getElem? (i := 28) rfl)))) (mvT hZ (hw _ (List.mem_of_getElem? (i := 28) rfl))) (mvT hZ (hw _ (List.mem_of_getElem? (i := 27) rfl))) (by decide) (backOf (W := 0) (rm1 l Z a0 hw [] a_CANCELLED a_COMMITTED a_ROLLED_BACK a_CONFIRMED a_CANCELLED a_FAILED a_COMPENSATED h170 n0 Z183 S_COMMITTED S_ROLLED_BACK S_CONFIRMED S_CANCELLED S_FAILED S_COMPENSATED XO171) hZ (hw _ (List.mem_of_getElem? (i := 29) rfl)) (hw _ (List.mem_of_getElem? (i := 3) rfl)) (by decide) (by decide)) q214a q214c (g := (mkF m 118 #[.val (.int p0), .val (.ref b1), .val (.int (5 : Int32)), .val (.ref a_CANCELLED), .val (.int (0 : Int32))] [(.ref a_CANCELLED)])) rfl (by rw [hml]; rfl) (Steps.refl _) (argsL := []) (rest := []) (lenOf pd_0 rfl) rfl (by show 2 * 0 + _ ≤ _; exact Nat.le_of_eq rfl) (hb hby at_118) (fun _ _ => ⟨rfl, e213, (by decide : 1 + 0 ≤ _), (by decide : 10 + 0 ≤ _)⟩)
    dsimp only [Pt.U, Pt.locs, Pt.cells, Pt.slots] at X214 l214 y214 z214 st214 hQ214
    subst l214 y214 z214
    obtain ⟨N214, eh214, hR214⟩ := hQ214
    have NA214 := Fr.app N183 N214
    rcases hR214 with ⟨rfl, u214_0_0⟩ | ⟨rfl, u214_1_0, u214_1_1⟩ | ⟨rfl, u214_2_0, u214_2_1, u214_2_2⟩ | ⟨rfl, u214_3_0, u214_3_1, u214_3_2, u214_3_3⟩ | ⟨rfl, u214_4_0, u214_4_1, u214_4_2, u214_4_3, u214_4_4⟩ | ⟨rfl, u214_5_0, u214_5_1, u214_5_2, u214_5_3, u214_5_4, u214_5_5⟩ | ⟨rfl, u214_6_0, u214_6_1, u214_6_2, u214_6_3, u214_6_4, u214_6_5⟩
    · exact absurd u214_0_0 ne_CANCELLED_COMMITTED
    · exact absurd u214_1_1 ne_CANCELLED_ROLLED_BACK
    · exact absurd u214_2_2 ne_CANCELLED_CONFIRMED
    · refine Goes.back st214 ?_
      show Goes _ _ _ _ _ _ _ (T214.setTop (mkF m 121 #[.val (.int p0), .val (.ref b1), .val (.int (5 : Int32)), .val (.ref a_CANCELLED), .val (.int (0 : Int32))] [(.int (1 : Int32))]))
      refine Goes.step (fun _ k => XS.iload X214.here hx rfl (hb hby at_121) rfl  k) ?_
      show Goes _ _ _ _ _ _ _ (T214.setTop (mkF m 123 #[.val (.int p0), .val (.ref b1), .val (.int (5 : Int32)), .val (.ref a_CANCELLED), .val (.int (0 : Int32))] [(.int (0 : Int32)), (.int (1 : Int32))]))
      refine Goes.step (fun _ k => XS.ifNo X214.here hx rfl (hb hby at_123) rfl ((if0 _ _).trans (teq (by decide : (0 : Int32) = (0 : Int32))).2) k) ?_
      show Goes _ _ _ _ _ _ _ (T214.setTop (mkF m 126 #[.val (.int p0), .val (.ref b1), .val (.int (5 : Int32)), .val (.ref a_CANCELLED), .val (.int (0 : Int32))] [(.int (1 : Int32))]))
      refine Goes.step (fun _ k => XS.iconst X214.here hx rfl (hb hby at_126) k) ?_
      show Goes _ _ _ _ _ _ _ (T214.setTop (mkF m 127 #[.val (.int p0), .val (.ref b1), .val (.int (5 : Int32)), .val (.ref a_CANCELLED), .val (.int (0 : Int32))] [(.int (1 : Int32)), (.int (1 : Int32))]))
      refine Goes.step (fun _ k => XS.goto X214.here hx rfl (pc0 := 127) (pc' := 131) rfl (hb hby at_127) (by decide) (by decide) k) ?_
      show Goes _ _ _ _ _ _ _ (T214.setTop (mkF m 131 #[.val (.int p0), .val (.ref b1), .val (.int (5 : Int32)), .val (.ref a_CANCELLED), .val (.int (0 : Int32))] [(.int (1 : Int32)), (.int (1 : Int32))]))
      refine Goes.step (fun _ k => XS.icmpNo X214.here hx rfl (hb hby at_131) rfl (teq (by decide : (1 : Int32) = (1 : Int32))).2 k) ?_
      show Goes _ _ _ _ _ _ _ (T214.setTop (mkF m 134 #[.val (.int p0), .val (.ref b1), .val (.int (5 : Int32)), .val (.ref a_CANCELLED), .val (.int (0 : Int32))] []))
      refine Goes.step (fun _ k => XS.iconst X214.here hx rfl (hb hby at_134) k) ?_
      show Goes _ _ _ _ _ _ _ (T214.setTop (mkF m 135 #[.val (.int p0), .val (.ref b1), .val (.int (5 : Int32)), .val (.ref a_CANCELLED), .val (.int (0 : Int32))] [(.int (1 : Int32))]))
      refine Goes.step (fun _ k => XS.goto X214.here hx rfl (pc0 := 135) (pc' := 139) rfl (hb hby at_135) (by decide) (by decide) k) ?_
      show Goes _ _ _ _ _ _ _ (T214.setTop (mkF m 139 #[.val (.int p0), .val (.ref b1), .val (.int (5 : Int32)), .val (.ref a_CANCELLED), .val (.int (0 : Int32))] [(.int (1 : Int32))]))
      exact Goes.ret X214 hx (BodyLoose.notSynchronized Bd) Bd.returns rfl (Or.inl ⟨rfl, by simp, _, rfl⟩) (hb hby at_139) (by show Q0 Z p0 a_REGISTERED a_PREPARED a_COMMITTED a_ROLLED_BACK a_CONFIRMED a_CANCELLED a_PENDING a_SUCCEEDED a_FAILED a_COMPENSATED h0 n0 (some (.int (1 : Int32))) T214.heap _; rw [eh214]; exact ⟨rfl, NA214⟩) (by decide) (by decide)
    · exact absurd (rfl : a_CANCELLED = a_CANCELLED) u214_4_3
    · exact absurd (rfl : a_CANCELLED = a_CANCELLED) u214_5_3
    · exact absurd (rfl : a_CANCELLED = a_CANCELLED) u214_6_3
  · show Goes _ _ _ _ _ _ _ (T170.setTop (mkF m 78 #[.val (.int p0), .val (.ref b1), .val (.int (6 : Int32)), .unset, .unset] []))
    refine Goes.step (fun _ k => XS.aloadN X170.here hx rfl (hb hby at_78) rfl rfl k) ?_
    show Goes _ _ _ _ _ _ _ (T170.setTop (mkF m 79 #[.val (.int p0), .val (.ref b1), .val (.int (6 : Int32)), .unset, .unset] [(.ref b1)]))
    refine Goes.step (fun _ k => XS.iloadN X170.here hx rfl (hb hby at_79) rfl  k) ?_
    show Goes _ _ _ _ _ _ _ (T170.setTop (mkF m 80 #[.val (.int p0), .val (.ref b1), .val (.int (6 : Int32)), .unset, .unset] [(.int (6 : Int32)), (.ref b1)]))
    obtain ⟨cl215, Ar215, q215, S215, P215, H215, G215⟩ := f182
    have hin215 : ¬ ((6 : Int32) < 0 ∨ cl215.slots.size ≤ ((6 : Int32)).toNatClampNeg) := inb_of S215 ⟨by decide, by decide⟩
    have hat215 : cl215.slots[((6 : Int32)).toNatClampNeg]? = some (.ref a_PENDING) := H215 _ (by rw [S215]; decide)
    refine Goes.step (fun _ k => X170.aaload hx (j := (6 : Int32)) (v := (.ref a_PENDING)) (by rw [e170]; exact Ar215.1) (State.isArrayOf_alike hZ.alike Ar215.2.1) rfl Ar215.2.2 hin215 hat215 (g := (mkF m 80 #[.val (.int p0), .val (.ref b1), .val (.int (6 : Int32)), .unset, .unset] [(.int (6 : Int32)), (.ref b1)])) rfl rfl (hb hby at_80) _ k) ?_
    show Goes _ _ _ _ _ _ _ (T170.setTop (mkF m 81 #[.val (.int p0), .val (.ref b1), .val (.int (6 : Int32)), .unset, .unset] [(.ref a_PENDING)]))
    refine Goes.step (fun _ k => XS.astoreN X170.here hx rfl (hb hby at_81) rfl rfl (l' := #[.val (.int p0), .val (.ref b1), .val (.int (6 : Int32)), .val (.ref a_PENDING), .unset]) rfl k) ?_
    show Goes _ _ _ _ _ _ _ (T170.setTop (mkF m 82 #[.val (.int p0), .val (.ref b1), .val (.int (6 : Int32)), .val (.ref a_PENDING), .unset] []))
    refine Goes.step (fun _ k => XS.aloadN X170.here hx rfl (hb hby at_82) rfl rfl k) ?_
    show Goes _ _ _ _ _ _ _ (T170.setTop (mkF m 83 #[.val (.int p0), .val (.ref b1), .val (.int (6 : Int32)), .val (.ref a_PENDING), .unset] [(.ref a_PENDING)]))
    obtain ⟨T216, X216, e216, st216⟩ := getS2 X170 hx hZ hown (host := "") (Or.inl (hw _ (List.mem_of_getElem? (i := 2) rfl))) Via.refl e170 (S_REGISTERED.ext XO171.2) (g := (mkF m 83 #[.val (.int p0), .val (.ref b1), .val (.int (6 : Int32)), .val (.ref a_PENDING), .unset] [(.ref a_PENDING)])) rfl (hb hby at_83)
    refine Goes.step st216 ?_
    show Goes _ _ _ _ _ _ _ (T216.setTop (mkF m 86 #[.val (.int p0), .val (.ref b1), .val (.int (6 : Int32)), .val (.ref a_PENDING), .unset] [(.ref a_REGISTERED), (.ref a_PENDING)]))
    refine Goes.step (fun _ k => Jvm.RoadKit.acmp X216 hx rfl rfl rfl (pc0 := 86) (pc' := 89) (same := false) rfl (hb hby at_86) rfl (decide_eq_false fun q => ne_PENDING_REGISTERED (Value.ref.inj q)) (by decide) (by decide) k) ?_
    show Goes _ _ _ _ _ _ _ (T216.setTop (mkF m 89 #[.val (.int p0), .val (.ref b1), .val (.int (6 : Int32)), .val (.ref a_PENDING), .unset] []))
    refine Goes.step (fun _ k => XS.aloadN X216.here hx rfl (hb hby at_89) rfl rfl k) ?_
    show Goes _ _ _ _ _ _ _ (T216.setTop (mkF m 90 #[.val (.int p0), .val (.ref b1), .val (.int (6 : Int32)), .val (.ref a_PENDING), .unset] [(.ref a_PENDING)]))
    obtain ⟨T217, X217, e217, st217⟩ := getS2 X216 hx hZ hown (host := "") (Or.inl (hw _ (List.mem_of_getElem? (i := 6) rfl))) Via.refl e216 (S_PREPARED.ext XO171.2) (g := (mkF m 90 #[.val (.int p0), .val (.ref b1), .val (.int (6 : Int32)), .val (.ref a_PENDING), .unset] [(.ref a_PENDING)])) rfl (hb hby at_90)
    refine Goes.step st217 ?_
    show Goes _ _ _ _ _ _ _ (T217.setTop (mkF m 93 #[.val (.int p0), .val (.ref b1), .val (.int (6 : Int32)), .val (.ref a_PENDING), .unset] [(.ref a_PREPARED), (.ref a_PENDING)]))
    refine Goes.step (fun _ k => Jvm.RoadKit.acmp X217 hx rfl rfl rfl (pc0 := 93) (pc' := 96) (same := false) rfl (hb hby at_93) rfl (decide_eq_false fun q => ne_PENDING_PREPARED (Value.ref.inj q)) (by decide) (by decide) k) ?_
    show Goes _ _ _ _ _ _ _ (T217.setTop (mkF m 96 #[.val (.int p0), .val (.ref b1), .val (.int (6 : Int32)), .val (.ref a_PENDING), .unset] []))
    refine Goes.step (fun _ k => XS.aloadN X217.here hx rfl (hb hby at_96) rfl rfl k) ?_
    show Goes _ _ _ _ _ _ _ (T217.setTop (mkF m 97 #[.val (.int p0), .val (.ref b1), .val (.int (6 : Int32)), .val (.ref a_PENDING), .unset] [(.ref a_PENDING)]))
    obtain ⟨T218, X218, e218, st218⟩ := getS2 X217 hx hZ hown (host := "") (Or.inl (hw _ (List.mem_of_getElem? (i := 16) rfl))) Via.refl e217 (S_PENDING.ext XO171.2) (g := (mkF m 97 #[.val (.int p0), .val (.ref b1), .val (.int (6 : Int32)), .val (.ref a_PENDING), .unset] [(.ref a_PENDING)])) rfl (hb hby at_97)
    refine Goes.step st218 ?_
    show Goes _ _ _ _ _ _ _ (T218.setTop (mkF m 100 #[.val (.int p0), .val (.ref b1), .val (.int (6 : Int32)), .val (.ref a_PENDING), .unset] [(.ref a_PENDING), (.ref a_PENDING)]))
    refine Goes.step (fun _ k => Jvm.RoadKit.acmp X218 hx rfl rfl rfl (pc0 := 100) (pc' := 110) (same := true) rfl (hb hby at_100) rfl (decide_eq_true rfl) (by decide) (by decide) k) ?_
    show Goes _ _ _ _ _ _ _ (T218.setTop (mkF m 110 #[.val (.int p0), .val (.ref b1), .val (.int (6 : Int32)), .val (.ref a_PENDING), .unset] []))
    refine Goes.step (fun _ k => XS.iconst X218.here hx rfl (hb hby at_110) k) ?_
    show Goes _ _ _ _ _ _ _ (T218.setTop (mkF m 111 #[.val (.int p0), .val (.ref b1), .val (.int (6 : Int32)), .val (.ref a_PENDING), .unset] [(.int (1 : Int32))]))
    refine Goes.step (fun _ k => XS.goto X218.here hx rfl (pc0 := 111) (pc' := 115) rfl (hb hby at_111) (by decide) (by decide) k) ?_
    show Goes _ _ _ _ _ _ _ (T218.setTop (mkF m 115 #[.val (.int p0), .val (.ref b1), .val (.int (6 : Int32)), .val (.ref a_PENDING), .unset] [(.int (1 : Int32))]))
    refine Goes.step (fun _ k => XS.istore X218.here hx rfl (hb hby at_115) rfl (l' := #[.val (.int p0), .val (.ref b1), .val (.int (6 : Int32)), .val (.ref a_PENDING), .val (.int (1 : Int32))]) rfl k) ?_
    show Goes _ _ _ _ _ _ _ (T218.setTop (mkF m 117 #[.val (.int p0), .val (.ref b1), .val (.int (6 : Int32)), .val (.ref a_PENDING), .val (.int (1 : Int32))] []))
    refine Goes.step (fun _ k => XS.aloadN X218.here hx rfl (hb hby at_117) rfl rfl k) ?_
    show Goes _ _ _ _ _ _ _ (T218.setTop (mkF m 118 #[.val (.int p0), .val (.ref b1), .val (.int (6 : Int32)), .val (.ref a_PENDING), .val (.int (1 : Int32))] [(.ref a_PENDING)]))
    obtain ⟨cq219, kq219, q219a, q219b, q219c⟩ := isOf hZ e218 f178
    obtain ⟨_, _, ⟨T219, L219, k219, n219⟩, -, X219, ⟨Lc219, hQ219, l219, y219, z219⟩, st219⟩ := X218.virtualBack hx (y := (⟨"com/example/concordat/concordat/BranchStatus", "isFinal", "()Z"⟩ : MethodName)) (z := (⟨"com/example/concordat/concordat/BranchStatus", "isFinal", "()Z"⟩ : MethodName)) hown (mvT hZ (hw _ (List.mem_of_getElem? (i := 25) rfl))) (mvT hZ (hw _ (List.mem_of_getElem? (i := 26) rfl))) (notFace_of_selects (args := #[]) (mvT hZ (hw _ (List.mem_of_getElem? (i := 28) rfl)))) (mvT hZ (hw _ (List.mem_of_getElem? (i := 28) rfl))) (mvT hZ (hw _ (List.mem_of_getElem? (i := 27) rfl))) (by decide) (backOf (W := 0) (rm1 l Z a0 hw [] a_PENDING a_COMMITTED a_ROLLED_BACK a_CONFIRMED a_CANCELLED a_FAILED a_COMPENSATED h170 n0 Z183 S_COMMITTED S_ROLLED_BACK S_CONFIRMED S_CANCELLED S_FAILED S_COMPENSATED XO171) hZ (hw _ (List.mem_of_getElem? (i := 29) rfl)) (hw _ (List.mem_of_getElem? (i := 3) rfl)) (by decide) (by decide)) q219a q219c (g := (mkF m 118 #[.val (.int p0), .val (.ref b1), .val (.int (6 : Int32)), .val (.ref a_PENDING), .val (.int (1 : Int32))] [(.ref a_PENDING)])) rfl (by rw [hml]; rfl) (Steps.refl _) (argsL := []) (rest := []) (lenOf pd_0 rfl) rfl (by show 2 * 0 + _ ≤ _; exact Nat.le_of_eq rfl) (hb hby at_118) (fun _ _ => ⟨rfl, e218, (by decide : 1 + 0 ≤ _), (by decide : 10 + 0 ≤ _)⟩)
    dsimp only [Pt.U, Pt.locs, Pt.cells, Pt.slots] at X219 l219 y219 z219 st219 hQ219
    subst l219 y219 z219
    obtain ⟨N219, eh219, hR219⟩ := hQ219
    have NA219 := Fr.app N183 N219
    rcases hR219 with ⟨rfl, u219_0_0⟩ | ⟨rfl, u219_1_0, u219_1_1⟩ | ⟨rfl, u219_2_0, u219_2_1, u219_2_2⟩ | ⟨rfl, u219_3_0, u219_3_1, u219_3_2, u219_3_3⟩ | ⟨rfl, u219_4_0, u219_4_1, u219_4_2, u219_4_3, u219_4_4⟩ | ⟨rfl, u219_5_0, u219_5_1, u219_5_2, u219_5_3, u219_5_4, u219_5_5⟩ | ⟨rfl, u219_6_0, u219_6_1, u219_6_2, u219_6_3, u219_6_4, u219_6_5⟩
    · exact absurd u219_0_0 ne_PENDING_COMMITTED
    · exact absurd u219_1_1 ne_PENDING_ROLLED_BACK
    · exact absurd u219_2_2 ne_PENDING_CONFIRMED
    · exact absurd u219_3_3 ne_PENDING_CANCELLED
    · exact absurd u219_4_4 (Ne.symm ne_FAILED_PENDING)
    · exact absurd u219_5_5 (Ne.symm ne_COMPENSATED_PENDING)
    · refine Goes.back st219 ?_
      show Goes _ _ _ _ _ _ _ (T219.setTop (mkF m 121 #[.val (.int p0), .val (.ref b1), .val (.int (6 : Int32)), .val (.ref a_PENDING), .val (.int (1 : Int32))] [(.int (0 : Int32))]))
      refine Goes.step (fun _ k => XS.iload X219.here hx rfl (hb hby at_121) rfl  k) ?_
      show Goes _ _ _ _ _ _ _ (T219.setTop (mkF m 123 #[.val (.int p0), .val (.ref b1), .val (.int (6 : Int32)), .val (.ref a_PENDING), .val (.int (1 : Int32))] [(.int (1 : Int32)), (.int (0 : Int32))]))
      refine Goes.step (fun _ k => XS.ifYes X219.here hx rfl (pc0 := 123) (pc' := 130) rfl (hb hby at_123) rfl ((if0 _ _).trans (feq (by decide : ¬ ((1 : Int32) = (0 : Int32)))).2) (by decide) (by decide) k) ?_
      show Goes _ _ _ _ _ _ _ (T219.setTop (mkF m 130 #[.val (.int p0), .val (.ref b1), .val (.int (6 : Int32)), .val (.ref a_PENDING), .val (.int (1 : Int32))] [(.int (0 : Int32))]))
      refine Goes.step (fun _ k => XS.iconst X219.here hx rfl (hb hby at_130) k) ?_
      show Goes _ _ _ _ _ _ _ (T219.setTop (mkF m 131 #[.val (.int p0), .val (.ref b1), .val (.int (6 : Int32)), .val (.ref a_PENDING), .val (.int (1 : Int32))] [(.int (0 : Int32)), (.int (0 : Int32))]))
      refine Goes.step (fun _ k => XS.icmpNo X219.here hx rfl (hb hby at_131) rfl (teq (by decide : (0 : Int32) = (0 : Int32))).2 k) ?_
      show Goes _ _ _ _ _ _ _ (T219.setTop (mkF m 134 #[.val (.int p0), .val (.ref b1), .val (.int (6 : Int32)), .val (.ref a_PENDING), .val (.int (1 : Int32))] []))
      refine Goes.step (fun _ k => XS.iconst X219.here hx rfl (hb hby at_134) k) ?_
      show Goes _ _ _ _ _ _ _ (T219.setTop (mkF m 135 #[.val (.int p0), .val (.ref b1), .val (.int (6 : Int32)), .val (.ref a_PENDING), .val (.int (1 : Int32))] [(.int (1 : Int32))]))
      refine Goes.step (fun _ k => XS.goto X219.here hx rfl (pc0 := 135) (pc' := 139) rfl (hb hby at_135) (by decide) (by decide) k) ?_
      show Goes _ _ _ _ _ _ _ (T219.setTop (mkF m 139 #[.val (.int p0), .val (.ref b1), .val (.int (6 : Int32)), .val (.ref a_PENDING), .val (.int (1 : Int32))] [(.int (1 : Int32))]))
      exact Goes.ret X219 hx (BodyLoose.notSynchronized Bd) Bd.returns rfl (Or.inl ⟨rfl, by simp, _, rfl⟩) (hb hby at_139) (by show Q0 Z p0 a_REGISTERED a_PREPARED a_COMMITTED a_ROLLED_BACK a_CONFIRMED a_CANCELLED a_PENDING a_SUCCEEDED a_FAILED a_COMPENSATED h0 n0 (some (.int (1 : Int32))) T219.heap _; rw [eh219]; exact ⟨rfl, NA219⟩) (by decide) (by decide)
  · show Goes _ _ _ _ _ _ _ (T170.setTop (mkF m 78 #[.val (.int p0), .val (.ref b1), .val (.int (7 : Int32)), .unset, .unset] []))
    refine Goes.step (fun _ k => XS.aloadN X170.here hx rfl (hb hby at_78) rfl rfl k) ?_
    show Goes _ _ _ _ _ _ _ (T170.setTop (mkF m 79 #[.val (.int p0), .val (.ref b1), .val (.int (7 : Int32)), .unset, .unset] [(.ref b1)]))
    refine Goes.step (fun _ k => XS.iloadN X170.here hx rfl (hb hby at_79) rfl  k) ?_
    show Goes _ _ _ _ _ _ _ (T170.setTop (mkF m 80 #[.val (.int p0), .val (.ref b1), .val (.int (7 : Int32)), .unset, .unset] [(.int (7 : Int32)), (.ref b1)]))
    obtain ⟨cl220, Ar220, q220, S220, P220, H220, G220⟩ := f182
    have hin220 : ¬ ((7 : Int32) < 0 ∨ cl220.slots.size ≤ ((7 : Int32)).toNatClampNeg) := inb_of S220 ⟨by decide, by decide⟩
    have hat220 : cl220.slots[((7 : Int32)).toNatClampNeg]? = some (.ref a_SUCCEEDED) := H220 _ (by rw [S220]; decide)
    refine Goes.step (fun _ k => X170.aaload hx (j := (7 : Int32)) (v := (.ref a_SUCCEEDED)) (by rw [e170]; exact Ar220.1) (State.isArrayOf_alike hZ.alike Ar220.2.1) rfl Ar220.2.2 hin220 hat220 (g := (mkF m 80 #[.val (.int p0), .val (.ref b1), .val (.int (7 : Int32)), .unset, .unset] [(.int (7 : Int32)), (.ref b1)])) rfl rfl (hb hby at_80) _ k) ?_
    show Goes _ _ _ _ _ _ _ (T170.setTop (mkF m 81 #[.val (.int p0), .val (.ref b1), .val (.int (7 : Int32)), .unset, .unset] [(.ref a_SUCCEEDED)]))
    refine Goes.step (fun _ k => XS.astoreN X170.here hx rfl (hb hby at_81) rfl rfl (l' := #[.val (.int p0), .val (.ref b1), .val (.int (7 : Int32)), .val (.ref a_SUCCEEDED), .unset]) rfl k) ?_
    show Goes _ _ _ _ _ _ _ (T170.setTop (mkF m 82 #[.val (.int p0), .val (.ref b1), .val (.int (7 : Int32)), .val (.ref a_SUCCEEDED), .unset] []))
    refine Goes.step (fun _ k => XS.aloadN X170.here hx rfl (hb hby at_82) rfl rfl k) ?_
    show Goes _ _ _ _ _ _ _ (T170.setTop (mkF m 83 #[.val (.int p0), .val (.ref b1), .val (.int (7 : Int32)), .val (.ref a_SUCCEEDED), .unset] [(.ref a_SUCCEEDED)]))
    obtain ⟨T221, X221, e221, st221⟩ := getS2 X170 hx hZ hown (host := "") (Or.inl (hw _ (List.mem_of_getElem? (i := 2) rfl))) Via.refl e170 (S_REGISTERED.ext XO171.2) (g := (mkF m 83 #[.val (.int p0), .val (.ref b1), .val (.int (7 : Int32)), .val (.ref a_SUCCEEDED), .unset] [(.ref a_SUCCEEDED)])) rfl (hb hby at_83)
    refine Goes.step st221 ?_
    show Goes _ _ _ _ _ _ _ (T221.setTop (mkF m 86 #[.val (.int p0), .val (.ref b1), .val (.int (7 : Int32)), .val (.ref a_SUCCEEDED), .unset] [(.ref a_REGISTERED), (.ref a_SUCCEEDED)]))
    refine Goes.step (fun _ k => Jvm.RoadKit.acmp X221 hx rfl rfl rfl (pc0 := 86) (pc' := 89) (same := false) rfl (hb hby at_86) rfl (decide_eq_false fun q => ne_SUCCEEDED_REGISTERED (Value.ref.inj q)) (by decide) (by decide) k) ?_
    show Goes _ _ _ _ _ _ _ (T221.setTop (mkF m 89 #[.val (.int p0), .val (.ref b1), .val (.int (7 : Int32)), .val (.ref a_SUCCEEDED), .unset] []))
    refine Goes.step (fun _ k => XS.aloadN X221.here hx rfl (hb hby at_89) rfl rfl k) ?_
    show Goes _ _ _ _ _ _ _ (T221.setTop (mkF m 90 #[.val (.int p0), .val (.ref b1), .val (.int (7 : Int32)), .val (.ref a_SUCCEEDED), .unset] [(.ref a_SUCCEEDED)]))
    obtain ⟨T222, X222, e222, st222⟩ := getS2 X221 hx hZ hown (host := "") (Or.inl (hw _ (List.mem_of_getElem? (i := 6) rfl))) Via.refl e221 (S_PREPARED.ext XO171.2) (g := (mkF m 90 #[.val (.int p0), .val (.ref b1), .val (.int (7 : Int32)), .val (.ref a_SUCCEEDED), .unset] [(.ref a_SUCCEEDED)])) rfl (hb hby at_90)
    refine Goes.step st222 ?_
    show Goes _ _ _ _ _ _ _ (T222.setTop (mkF m 93 #[.val (.int p0), .val (.ref b1), .val (.int (7 : Int32)), .val (.ref a_SUCCEEDED), .unset] [(.ref a_PREPARED), (.ref a_SUCCEEDED)]))
    refine Goes.step (fun _ k => Jvm.RoadKit.acmp X222 hx rfl rfl rfl (pc0 := 93) (pc' := 96) (same := false) rfl (hb hby at_93) rfl (decide_eq_false fun q => ne_SUCCEEDED_PREPARED (Value.ref.inj q)) (by decide) (by decide) k) ?_
    show Goes _ _ _ _ _ _ _ (T222.setTop (mkF m 96 #[.val (.int p0), .val (.ref b1), .val (.int (7 : Int32)), .val (.ref a_SUCCEEDED), .unset] []))
    refine Goes.step (fun _ k => XS.aloadN X222.here hx rfl (hb hby at_96) rfl rfl k) ?_
    show Goes _ _ _ _ _ _ _ (T222.setTop (mkF m 97 #[.val (.int p0), .val (.ref b1), .val (.int (7 : Int32)), .val (.ref a_SUCCEEDED), .unset] [(.ref a_SUCCEEDED)]))
    obtain ⟨T223, X223, e223, st223⟩ := getS2 X222 hx hZ hown (host := "") (Or.inl (hw _ (List.mem_of_getElem? (i := 16) rfl))) Via.refl e222 (S_PENDING.ext XO171.2) (g := (mkF m 97 #[.val (.int p0), .val (.ref b1), .val (.int (7 : Int32)), .val (.ref a_SUCCEEDED), .unset] [(.ref a_SUCCEEDED)])) rfl (hb hby at_97)
    refine Goes.step st223 ?_
    show Goes _ _ _ _ _ _ _ (T223.setTop (mkF m 100 #[.val (.int p0), .val (.ref b1), .val (.int (7 : Int32)), .val (.ref a_SUCCEEDED), .unset] [(.ref a_PENDING), (.ref a_SUCCEEDED)]))
    refine Goes.step (fun _ k => Jvm.RoadKit.acmp X223 hx rfl rfl rfl (pc0 := 100) (pc' := 103) (same := false) rfl (hb hby at_100) rfl (decide_eq_false fun q => ne_SUCCEEDED_PENDING (Value.ref.inj q)) (by decide) (by decide) k) ?_
    show Goes _ _ _ _ _ _ _ (T223.setTop (mkF m 103 #[.val (.int p0), .val (.ref b1), .val (.int (7 : Int32)), .val (.ref a_SUCCEEDED), .unset] []))
    refine Goes.step (fun _ k => XS.aloadN X223.here hx rfl (hb hby at_103) rfl rfl k) ?_
    show Goes _ _ _ _ _ _ _ (T223.setTop (mkF m 104 #[.val (.int p0), .val (.ref b1), .val (.int (7 : Int32)), .val (.ref a_SUCCEEDED), .unset] [(.ref a_SUCCEEDED)]))
    obtain ⟨T224, X224, e224, st224⟩ := getS2 X223 hx hZ hown (host := "") (Or.inl (hw _ (List.mem_of_getElem? (i := 18) rfl))) Via.refl e223 (S_SUCCEEDED.ext XO171.2) (g := (mkF m 104 #[.val (.int p0), .val (.ref b1), .val (.int (7 : Int32)), .val (.ref a_SUCCEEDED), .unset] [(.ref a_SUCCEEDED)])) rfl (hb hby at_104)
    refine Goes.step st224 ?_
    show Goes _ _ _ _ _ _ _ (T224.setTop (mkF m 107 #[.val (.int p0), .val (.ref b1), .val (.int (7 : Int32)), .val (.ref a_SUCCEEDED), .unset] [(.ref a_SUCCEEDED), (.ref a_SUCCEEDED)]))
    refine Goes.step (fun _ k => Jvm.RoadKit.acmp X224 hx rfl rfl rfl (pc0 := 107) (pc' := 110) (same := true) rfl (hb hby at_107) rfl (decide_eq_true rfl) (by decide) (by decide) k) ?_
    show Goes _ _ _ _ _ _ _ (T224.setTop (mkF m 110 #[.val (.int p0), .val (.ref b1), .val (.int (7 : Int32)), .val (.ref a_SUCCEEDED), .unset] []))
    refine Goes.step (fun _ k => XS.iconst X224.here hx rfl (hb hby at_110) k) ?_
    show Goes _ _ _ _ _ _ _ (T224.setTop (mkF m 111 #[.val (.int p0), .val (.ref b1), .val (.int (7 : Int32)), .val (.ref a_SUCCEEDED), .unset] [(.int (1 : Int32))]))
    refine Goes.step (fun _ k => XS.goto X224.here hx rfl (pc0 := 111) (pc' := 115) rfl (hb hby at_111) (by decide) (by decide) k) ?_
    show Goes _ _ _ _ _ _ _ (T224.setTop (mkF m 115 #[.val (.int p0), .val (.ref b1), .val (.int (7 : Int32)), .val (.ref a_SUCCEEDED), .unset] [(.int (1 : Int32))]))
    refine Goes.step (fun _ k => XS.istore X224.here hx rfl (hb hby at_115) rfl (l' := #[.val (.int p0), .val (.ref b1), .val (.int (7 : Int32)), .val (.ref a_SUCCEEDED), .val (.int (1 : Int32))]) rfl k) ?_
    show Goes _ _ _ _ _ _ _ (T224.setTop (mkF m 117 #[.val (.int p0), .val (.ref b1), .val (.int (7 : Int32)), .val (.ref a_SUCCEEDED), .val (.int (1 : Int32))] []))
    refine Goes.step (fun _ k => XS.aloadN X224.here hx rfl (hb hby at_117) rfl rfl k) ?_
    show Goes _ _ _ _ _ _ _ (T224.setTop (mkF m 118 #[.val (.int p0), .val (.ref b1), .val (.int (7 : Int32)), .val (.ref a_SUCCEEDED), .val (.int (1 : Int32))] [(.ref a_SUCCEEDED)]))
    obtain ⟨cq225, kq225, q225a, q225b, q225c⟩ := isOf hZ e224 f179
    obtain ⟨_, _, ⟨T225, L225, k225, n225⟩, -, X225, ⟨Lc225, hQ225, l225, y225, z225⟩, st225⟩ := X224.virtualBack hx (y := (⟨"com/example/concordat/concordat/BranchStatus", "isFinal", "()Z"⟩ : MethodName)) (z := (⟨"com/example/concordat/concordat/BranchStatus", "isFinal", "()Z"⟩ : MethodName)) hown (mvT hZ (hw _ (List.mem_of_getElem? (i := 25) rfl))) (mvT hZ (hw _ (List.mem_of_getElem? (i := 26) rfl))) (notFace_of_selects (args := #[]) (mvT hZ (hw _ (List.mem_of_getElem? (i := 28) rfl)))) (mvT hZ (hw _ (List.mem_of_getElem? (i := 28) rfl))) (mvT hZ (hw _ (List.mem_of_getElem? (i := 27) rfl))) (by decide) (backOf (W := 0) (rm1 l Z a0 hw [] a_SUCCEEDED a_COMMITTED a_ROLLED_BACK a_CONFIRMED a_CANCELLED a_FAILED a_COMPENSATED h170 n0 Z183 S_COMMITTED S_ROLLED_BACK S_CONFIRMED S_CANCELLED S_FAILED S_COMPENSATED XO171) hZ (hw _ (List.mem_of_getElem? (i := 29) rfl)) (hw _ (List.mem_of_getElem? (i := 3) rfl)) (by decide) (by decide)) q225a q225c (g := (mkF m 118 #[.val (.int p0), .val (.ref b1), .val (.int (7 : Int32)), .val (.ref a_SUCCEEDED), .val (.int (1 : Int32))] [(.ref a_SUCCEEDED)])) rfl (by rw [hml]; rfl) (Steps.refl _) (argsL := []) (rest := []) (lenOf pd_0 rfl) rfl (by show 2 * 0 + _ ≤ _; exact Nat.le_of_eq rfl) (hb hby at_118) (fun _ _ => ⟨rfl, e224, (by decide : 1 + 0 ≤ _), (by decide : 10 + 0 ≤ _)⟩)
    dsimp only [Pt.U, Pt.locs, Pt.cells, Pt.slots] at X225 l225 y225 z225 st225 hQ225
    subst l225 y225 z225
    obtain ⟨N225, eh225, hR225⟩ := hQ225
    have NA225 := Fr.app N183 N225
    rcases hR225 with ⟨rfl, u225_0_0⟩ | ⟨rfl, u225_1_0, u225_1_1⟩ | ⟨rfl, u225_2_0, u225_2_1, u225_2_2⟩ | ⟨rfl, u225_3_0, u225_3_1, u225_3_2, u225_3_3⟩ | ⟨rfl, u225_4_0, u225_4_1, u225_4_2, u225_4_3, u225_4_4⟩ | ⟨rfl, u225_5_0, u225_5_1, u225_5_2, u225_5_3, u225_5_4, u225_5_5⟩ | ⟨rfl, u225_6_0, u225_6_1, u225_6_2, u225_6_3, u225_6_4, u225_6_5⟩
    · exact absurd u225_0_0 ne_SUCCEEDED_COMMITTED
    · exact absurd u225_1_1 ne_SUCCEEDED_ROLLED_BACK
    · exact absurd u225_2_2 ne_SUCCEEDED_CONFIRMED
    · exact absurd u225_3_3 ne_SUCCEEDED_CANCELLED
    · exact absurd u225_4_4 (Ne.symm ne_FAILED_SUCCEEDED)
    · exact absurd u225_5_5 (Ne.symm ne_COMPENSATED_SUCCEEDED)
    · refine Goes.back st225 ?_
      show Goes _ _ _ _ _ _ _ (T225.setTop (mkF m 121 #[.val (.int p0), .val (.ref b1), .val (.int (7 : Int32)), .val (.ref a_SUCCEEDED), .val (.int (1 : Int32))] [(.int (0 : Int32))]))
      refine Goes.step (fun _ k => XS.iload X225.here hx rfl (hb hby at_121) rfl  k) ?_
      show Goes _ _ _ _ _ _ _ (T225.setTop (mkF m 123 #[.val (.int p0), .val (.ref b1), .val (.int (7 : Int32)), .val (.ref a_SUCCEEDED), .val (.int (1 : Int32))] [(.int (1 : Int32)), (.int (0 : Int32))]))
      refine Goes.step (fun _ k => XS.ifYes X225.here hx rfl (pc0 := 123) (pc' := 130) rfl (hb hby at_123) rfl ((if0 _ _).trans (feq (by decide : ¬ ((1 : Int32) = (0 : Int32)))).2) (by decide) (by decide) k) ?_
      show Goes _ _ _ _ _ _ _ (T225.setTop (mkF m 130 #[.val (.int p0), .val (.ref b1), .val (.int (7 : Int32)), .val (.ref a_SUCCEEDED), .val (.int (1 : Int32))] [(.int (0 : Int32))]))
      refine Goes.step (fun _ k => XS.iconst X225.here hx rfl (hb hby at_130) k) ?_
      show Goes _ _ _ _ _ _ _ (T225.setTop (mkF m 131 #[.val (.int p0), .val (.ref b1), .val (.int (7 : Int32)), .val (.ref a_SUCCEEDED), .val (.int (1 : Int32))] [(.int (0 : Int32)), (.int (0 : Int32))]))
      refine Goes.step (fun _ k => XS.icmpNo X225.here hx rfl (hb hby at_131) rfl (teq (by decide : (0 : Int32) = (0 : Int32))).2 k) ?_
      show Goes _ _ _ _ _ _ _ (T225.setTop (mkF m 134 #[.val (.int p0), .val (.ref b1), .val (.int (7 : Int32)), .val (.ref a_SUCCEEDED), .val (.int (1 : Int32))] []))
      refine Goes.step (fun _ k => XS.iconst X225.here hx rfl (hb hby at_134) k) ?_
      show Goes _ _ _ _ _ _ _ (T225.setTop (mkF m 135 #[.val (.int p0), .val (.ref b1), .val (.int (7 : Int32)), .val (.ref a_SUCCEEDED), .val (.int (1 : Int32))] [(.int (1 : Int32))]))
      refine Goes.step (fun _ k => XS.goto X225.here hx rfl (pc0 := 135) (pc' := 139) rfl (hb hby at_135) (by decide) (by decide) k) ?_
      show Goes _ _ _ _ _ _ _ (T225.setTop (mkF m 139 #[.val (.int p0), .val (.ref b1), .val (.int (7 : Int32)), .val (.ref a_SUCCEEDED), .val (.int (1 : Int32))] [(.int (1 : Int32))]))
      exact Goes.ret X225 hx (BodyLoose.notSynchronized Bd) Bd.returns rfl (Or.inl ⟨rfl, by simp, _, rfl⟩) (hb hby at_139) (by show Q0 Z p0 a_REGISTERED a_PREPARED a_COMMITTED a_ROLLED_BACK a_CONFIRMED a_CANCELLED a_PENDING a_SUCCEEDED a_FAILED a_COMPENSATED h0 n0 (some (.int (1 : Int32))) T225.heap _; rw [eh225]; exact ⟨rfl, NA225⟩) (by decide) (by decide)
  · show Goes _ _ _ _ _ _ _ (T170.setTop (mkF m 78 #[.val (.int p0), .val (.ref b1), .val (.int (8 : Int32)), .unset, .unset] []))
    refine Goes.step (fun _ k => XS.aloadN X170.here hx rfl (hb hby at_78) rfl rfl k) ?_
    show Goes _ _ _ _ _ _ _ (T170.setTop (mkF m 79 #[.val (.int p0), .val (.ref b1), .val (.int (8 : Int32)), .unset, .unset] [(.ref b1)]))
    refine Goes.step (fun _ k => XS.iloadN X170.here hx rfl (hb hby at_79) rfl  k) ?_
    show Goes _ _ _ _ _ _ _ (T170.setTop (mkF m 80 #[.val (.int p0), .val (.ref b1), .val (.int (8 : Int32)), .unset, .unset] [(.int (8 : Int32)), (.ref b1)]))
    obtain ⟨cl226, Ar226, q226, S226, P226, H226, G226⟩ := f182
    have hin226 : ¬ ((8 : Int32) < 0 ∨ cl226.slots.size ≤ ((8 : Int32)).toNatClampNeg) := inb_of S226 ⟨by decide, by decide⟩
    have hat226 : cl226.slots[((8 : Int32)).toNatClampNeg]? = some (.ref a_FAILED) := H226 _ (by rw [S226]; decide)
    refine Goes.step (fun _ k => X170.aaload hx (j := (8 : Int32)) (v := (.ref a_FAILED)) (by rw [e170]; exact Ar226.1) (State.isArrayOf_alike hZ.alike Ar226.2.1) rfl Ar226.2.2 hin226 hat226 (g := (mkF m 80 #[.val (.int p0), .val (.ref b1), .val (.int (8 : Int32)), .unset, .unset] [(.int (8 : Int32)), (.ref b1)])) rfl rfl (hb hby at_80) _ k) ?_
    show Goes _ _ _ _ _ _ _ (T170.setTop (mkF m 81 #[.val (.int p0), .val (.ref b1), .val (.int (8 : Int32)), .unset, .unset] [(.ref a_FAILED)]))
    refine Goes.step (fun _ k => XS.astoreN X170.here hx rfl (hb hby at_81) rfl rfl (l' := #[.val (.int p0), .val (.ref b1), .val (.int (8 : Int32)), .val (.ref a_FAILED), .unset]) rfl k) ?_
    show Goes _ _ _ _ _ _ _ (T170.setTop (mkF m 82 #[.val (.int p0), .val (.ref b1), .val (.int (8 : Int32)), .val (.ref a_FAILED), .unset] []))
    refine Goes.step (fun _ k => XS.aloadN X170.here hx rfl (hb hby at_82) rfl rfl k) ?_
    show Goes _ _ _ _ _ _ _ (T170.setTop (mkF m 83 #[.val (.int p0), .val (.ref b1), .val (.int (8 : Int32)), .val (.ref a_FAILED), .unset] [(.ref a_FAILED)]))
    obtain ⟨T227, X227, e227, st227⟩ := getS2 X170 hx hZ hown (host := "") (Or.inl (hw _ (List.mem_of_getElem? (i := 2) rfl))) Via.refl e170 (S_REGISTERED.ext XO171.2) (g := (mkF m 83 #[.val (.int p0), .val (.ref b1), .val (.int (8 : Int32)), .val (.ref a_FAILED), .unset] [(.ref a_FAILED)])) rfl (hb hby at_83)
    refine Goes.step st227 ?_
    show Goes _ _ _ _ _ _ _ (T227.setTop (mkF m 86 #[.val (.int p0), .val (.ref b1), .val (.int (8 : Int32)), .val (.ref a_FAILED), .unset] [(.ref a_REGISTERED), (.ref a_FAILED)]))
    refine Goes.step (fun _ k => Jvm.RoadKit.acmp X227 hx rfl rfl rfl (pc0 := 86) (pc' := 89) (same := false) rfl (hb hby at_86) rfl (decide_eq_false fun q => ne_FAILED_REGISTERED (Value.ref.inj q)) (by decide) (by decide) k) ?_
    show Goes _ _ _ _ _ _ _ (T227.setTop (mkF m 89 #[.val (.int p0), .val (.ref b1), .val (.int (8 : Int32)), .val (.ref a_FAILED), .unset] []))
    refine Goes.step (fun _ k => XS.aloadN X227.here hx rfl (hb hby at_89) rfl rfl k) ?_
    show Goes _ _ _ _ _ _ _ (T227.setTop (mkF m 90 #[.val (.int p0), .val (.ref b1), .val (.int (8 : Int32)), .val (.ref a_FAILED), .unset] [(.ref a_FAILED)]))
    obtain ⟨T228, X228, e228, st228⟩ := getS2 X227 hx hZ hown (host := "") (Or.inl (hw _ (List.mem_of_getElem? (i := 6) rfl))) Via.refl e227 (S_PREPARED.ext XO171.2) (g := (mkF m 90 #[.val (.int p0), .val (.ref b1), .val (.int (8 : Int32)), .val (.ref a_FAILED), .unset] [(.ref a_FAILED)])) rfl (hb hby at_90)
    refine Goes.step st228 ?_
    show Goes _ _ _ _ _ _ _ (T228.setTop (mkF m 93 #[.val (.int p0), .val (.ref b1), .val (.int (8 : Int32)), .val (.ref a_FAILED), .unset] [(.ref a_PREPARED), (.ref a_FAILED)]))
    refine Goes.step (fun _ k => Jvm.RoadKit.acmp X228 hx rfl rfl rfl (pc0 := 93) (pc' := 96) (same := false) rfl (hb hby at_93) rfl (decide_eq_false fun q => ne_FAILED_PREPARED (Value.ref.inj q)) (by decide) (by decide) k) ?_
    show Goes _ _ _ _ _ _ _ (T228.setTop (mkF m 96 #[.val (.int p0), .val (.ref b1), .val (.int (8 : Int32)), .val (.ref a_FAILED), .unset] []))
    refine Goes.step (fun _ k => XS.aloadN X228.here hx rfl (hb hby at_96) rfl rfl k) ?_
    show Goes _ _ _ _ _ _ _ (T228.setTop (mkF m 97 #[.val (.int p0), .val (.ref b1), .val (.int (8 : Int32)), .val (.ref a_FAILED), .unset] [(.ref a_FAILED)]))
    obtain ⟨T229, X229, e229, st229⟩ := getS2 X228 hx hZ hown (host := "") (Or.inl (hw _ (List.mem_of_getElem? (i := 16) rfl))) Via.refl e228 (S_PENDING.ext XO171.2) (g := (mkF m 97 #[.val (.int p0), .val (.ref b1), .val (.int (8 : Int32)), .val (.ref a_FAILED), .unset] [(.ref a_FAILED)])) rfl (hb hby at_97)
    refine Goes.step st229 ?_
    show Goes _ _ _ _ _ _ _ (T229.setTop (mkF m 100 #[.val (.int p0), .val (.ref b1), .val (.int (8 : Int32)), .val (.ref a_FAILED), .unset] [(.ref a_PENDING), (.ref a_FAILED)]))
    refine Goes.step (fun _ k => Jvm.RoadKit.acmp X229 hx rfl rfl rfl (pc0 := 100) (pc' := 103) (same := false) rfl (hb hby at_100) rfl (decide_eq_false fun q => ne_FAILED_PENDING (Value.ref.inj q)) (by decide) (by decide) k) ?_
    show Goes _ _ _ _ _ _ _ (T229.setTop (mkF m 103 #[.val (.int p0), .val (.ref b1), .val (.int (8 : Int32)), .val (.ref a_FAILED), .unset] []))
    refine Goes.step (fun _ k => XS.aloadN X229.here hx rfl (hb hby at_103) rfl rfl k) ?_
    show Goes _ _ _ _ _ _ _ (T229.setTop (mkF m 104 #[.val (.int p0), .val (.ref b1), .val (.int (8 : Int32)), .val (.ref a_FAILED), .unset] [(.ref a_FAILED)]))
    obtain ⟨T230, X230, e230, st230⟩ := getS2 X229 hx hZ hown (host := "") (Or.inl (hw _ (List.mem_of_getElem? (i := 18) rfl))) Via.refl e229 (S_SUCCEEDED.ext XO171.2) (g := (mkF m 104 #[.val (.int p0), .val (.ref b1), .val (.int (8 : Int32)), .val (.ref a_FAILED), .unset] [(.ref a_FAILED)])) rfl (hb hby at_104)
    refine Goes.step st230 ?_
    show Goes _ _ _ _ _ _ _ (T230.setTop (mkF m 107 #[.val (.int p0), .val (.ref b1), .val (.int (8 : Int32)), .val (.ref a_FAILED), .unset] [(.ref a_SUCCEEDED), (.ref a_FAILED)]))
    refine Goes.step (fun _ k => Jvm.RoadKit.acmp X230 hx rfl rfl rfl (pc0 := 107) (pc' := 114) (same := false) rfl (hb hby at_107) rfl (decide_eq_false fun q => ne_FAILED_SUCCEEDED (Value.ref.inj q)) (by decide) (by decide) k) ?_
    show Goes _ _ _ _ _ _ _ (T230.setTop (mkF m 114 #[.val (.int p0), .val (.ref b1), .val (.int (8 : Int32)), .val (.ref a_FAILED), .unset] []))
    refine Goes.step (fun _ k => XS.iconst X230.here hx rfl (hb hby at_114) k) ?_
    show Goes _ _ _ _ _ _ _ (T230.setTop (mkF m 115 #[.val (.int p0), .val (.ref b1), .val (.int (8 : Int32)), .val (.ref a_FAILED), .unset] [(.int (0 : Int32))]))
    refine Goes.step (fun _ k => XS.istore X230.here hx rfl (hb hby at_115) rfl (l' := #[.val (.int p0), .val (.ref b1), .val (.int (8 : Int32)), .val (.ref a_FAILED), .val (.int (0 : Int32))]) rfl k) ?_
    show Goes _ _ _ _ _ _ _ (T230.setTop (mkF m 117 #[.val (.int p0), .val (.ref b1), .val (.int (8 : Int32)), .val (.ref a_FAILED), .val (.int (0 : Int32))] []))
    refine Goes.step (fun _ k => XS.aloadN X230.here hx rfl (hb hby at_117) rfl rfl k) ?_
    show Goes _ _ _ _ _ _ _ (T230.setTop (mkF m 118 #[.val (.int p0), .val (.ref b1), .val (.int (8 : Int32)), .val (.ref a_FAILED), .val (.int (0 : Int32))] [(.ref a_FAILED)]))
    obtain ⟨cq231, kq231, q231a, q231b, q231c⟩ := isOf hZ e230 f180
    obtain ⟨_, _, ⟨T231, L231, k231, n231⟩, -, X231, ⟨Lc231, hQ231, l231, y231, z231⟩, st231⟩ := X230.virtualBack hx (y := (⟨"com/example/concordat/concordat/BranchStatus", "isFinal", "()Z"⟩ : MethodName)) (z := (⟨"com/example/concordat/concordat/BranchStatus", "isFinal", "()Z"⟩ : MethodName)) hown (mvT hZ (hw _ (List.mem_of_getElem? (i := 25) rfl))) (mvT hZ (hw _ (List.mem_of_getElem? (i := 26) rfl))) (notFace_of_selects (args := #[]) (mvT hZ (hw _ (List.mem_of_getElem? (i := 28) rfl)))) (mvT hZ (hw _ (List.mem_of_getElem? (i := 28) rfl))) (mvT hZ (hw _ (List.mem_of_getElem? (i := 27) rfl))) (by decide) (backOf (W := 0) (rm1 l Z a0 hw [] a_FAILED a_COMMITTED a_ROLLED_BACK a_CONFIRMED a_CANCELLED a_FAILED a_COMPENSATED h170 n0 Z183 S_COMMITTED S_ROLLED_BACK S_CONFIRMED S_CANCELLED S_FAILED S_COMPENSATED XO171) hZ (hw _ (List.mem_of_getElem? (i := 29) rfl)) (hw _ (List.mem_of_getElem? (i := 3) rfl)) (by decide) (by decide)) q231a q231c (g := (mkF m 118 #[.val (.int p0), .val (.ref b1), .val (.int (8 : Int32)), .val (.ref a_FAILED), .val (.int (0 : Int32))] [(.ref a_FAILED)])) rfl (by rw [hml]; rfl) (Steps.refl _) (argsL := []) (rest := []) (lenOf pd_0 rfl) rfl (by show 2 * 0 + _ ≤ _; exact Nat.le_of_eq rfl) (hb hby at_118) (fun _ _ => ⟨rfl, e230, (by decide : 1 + 0 ≤ _), (by decide : 10 + 0 ≤ _)⟩)
    dsimp only [Pt.U, Pt.locs, Pt.cells, Pt.slots] at X231 l231 y231 z231 st231 hQ231
    subst l231 y231 z231
    obtain ⟨N231, eh231, hR231⟩ := hQ231
    have NA231 := Fr.app N183 N231
    rcases hR231 with ⟨rfl, u231_0_0⟩ | ⟨rfl, u231_1_0, u231_1_1⟩ | ⟨rfl, u231_2_0, u231_2_1, u231_2_2⟩ | ⟨rfl, u231_3_0, u231_3_1, u231_3_2, u231_3_3⟩ | ⟨rfl, u231_4_0, u231_4_1, u231_4_2, u231_4_3, u231_4_4⟩ | ⟨rfl, u231_5_0, u231_5_1, u231_5_2, u231_5_3, u231_5_4, u231_5_5⟩ | ⟨rfl, u231_6_0, u231_6_1, u231_6_2, u231_6_3, u231_6_4, u231_6_5⟩
    · exact absurd u231_0_0 ne_FAILED_COMMITTED
    · exact absurd u231_1_1 ne_FAILED_ROLLED_BACK
    · exact absurd u231_2_2 ne_FAILED_CONFIRMED
    · exact absurd u231_3_3 ne_FAILED_CANCELLED
    · refine Goes.back st231 ?_
      show Goes _ _ _ _ _ _ _ (T231.setTop (mkF m 121 #[.val (.int p0), .val (.ref b1), .val (.int (8 : Int32)), .val (.ref a_FAILED), .val (.int (0 : Int32))] [(.int (1 : Int32))]))
      refine Goes.step (fun _ k => XS.iload X231.here hx rfl (hb hby at_121) rfl  k) ?_
      show Goes _ _ _ _ _ _ _ (T231.setTop (mkF m 123 #[.val (.int p0), .val (.ref b1), .val (.int (8 : Int32)), .val (.ref a_FAILED), .val (.int (0 : Int32))] [(.int (0 : Int32)), (.int (1 : Int32))]))
      refine Goes.step (fun _ k => XS.ifNo X231.here hx rfl (hb hby at_123) rfl ((if0 _ _).trans (teq (by decide : (0 : Int32) = (0 : Int32))).2) k) ?_
      show Goes _ _ _ _ _ _ _ (T231.setTop (mkF m 126 #[.val (.int p0), .val (.ref b1), .val (.int (8 : Int32)), .val (.ref a_FAILED), .val (.int (0 : Int32))] [(.int (1 : Int32))]))
      refine Goes.step (fun _ k => XS.iconst X231.here hx rfl (hb hby at_126) k) ?_
      show Goes _ _ _ _ _ _ _ (T231.setTop (mkF m 127 #[.val (.int p0), .val (.ref b1), .val (.int (8 : Int32)), .val (.ref a_FAILED), .val (.int (0 : Int32))] [(.int (1 : Int32)), (.int (1 : Int32))]))
      refine Goes.step (fun _ k => XS.goto X231.here hx rfl (pc0 := 127) (pc' := 131) rfl (hb hby at_127) (by decide) (by decide) k) ?_
      show Goes _ _ _ _ _ _ _ (T231.setTop (mkF m 131 #[.val (.int p0), .val (.ref b1), .val (.int (8 : Int32)), .val (.ref a_FAILED), .val (.int (0 : Int32))] [(.int (1 : Int32)), (.int (1 : Int32))]))
      refine Goes.step (fun _ k => XS.icmpNo X231.here hx rfl (hb hby at_131) rfl (teq (by decide : (1 : Int32) = (1 : Int32))).2 k) ?_
      show Goes _ _ _ _ _ _ _ (T231.setTop (mkF m 134 #[.val (.int p0), .val (.ref b1), .val (.int (8 : Int32)), .val (.ref a_FAILED), .val (.int (0 : Int32))] []))
      refine Goes.step (fun _ k => XS.iconst X231.here hx rfl (hb hby at_134) k) ?_
      show Goes _ _ _ _ _ _ _ (T231.setTop (mkF m 135 #[.val (.int p0), .val (.ref b1), .val (.int (8 : Int32)), .val (.ref a_FAILED), .val (.int (0 : Int32))] [(.int (1 : Int32))]))
      refine Goes.step (fun _ k => XS.goto X231.here hx rfl (pc0 := 135) (pc' := 139) rfl (hb hby at_135) (by decide) (by decide) k) ?_
      show Goes _ _ _ _ _ _ _ (T231.setTop (mkF m 139 #[.val (.int p0), .val (.ref b1), .val (.int (8 : Int32)), .val (.ref a_FAILED), .val (.int (0 : Int32))] [(.int (1 : Int32))]))
      exact Goes.ret X231 hx (BodyLoose.notSynchronized Bd) Bd.returns rfl (Or.inl ⟨rfl, by simp, _, rfl⟩) (hb hby at_139) (by show Q0 Z p0 a_REGISTERED a_PREPARED a_COMMITTED a_ROLLED_BACK a_CONFIRMED a_CANCELLED a_PENDING a_SUCCEEDED a_FAILED a_COMPENSATED h0 n0 (some (.int (1 : Int32))) T231.heap _; rw [eh231]; exact ⟨rfl, NA231⟩) (by decide) (by decide)
    · exact absurd (rfl : a_FAILED = a_FAILED) u231_5_4
    · exact absurd (rfl : a_FAILED = a_FAILED) u231_6_4
  · show Goes _ _ _ _ _ _ _ (T170.setTop (mkF m 78 #[.val (.int p0), .val (.ref b1), .val (.int (9 : Int32)), .unset, .unset] []))
    refine Goes.step (fun _ k => XS.aloadN X170.here hx rfl (hb hby at_78) rfl rfl k) ?_
    show Goes _ _ _ _ _ _ _ (T170.setTop (mkF m 79 #[.val (.int p0), .val (.ref b1), .val (.int (9 : Int32)), .unset, .unset] [(.ref b1)]))
    refine Goes.step (fun _ k => XS.iloadN X170.here hx rfl (hb hby at_79) rfl  k) ?_
    show Goes _ _ _ _ _ _ _ (T170.setTop (mkF m 80 #[.val (.int p0), .val (.ref b1), .val (.int (9 : Int32)), .unset, .unset] [(.int (9 : Int32)), (.ref b1)]))
    obtain ⟨cl232, Ar232, q232, S232, P232, H232, G232⟩ := f182
    have hin232 : ¬ ((9 : Int32) < 0 ∨ cl232.slots.size ≤ ((9 : Int32)).toNatClampNeg) := inb_of S232 ⟨by decide, by decide⟩
    have hat232 : cl232.slots[((9 : Int32)).toNatClampNeg]? = some (.ref a_COMPENSATED) := H232 _ (by rw [S232]; decide)
    refine Goes.step (fun _ k => X170.aaload hx (j := (9 : Int32)) (v := (.ref a_COMPENSATED)) (by rw [e170]; exact Ar232.1) (State.isArrayOf_alike hZ.alike Ar232.2.1) rfl Ar232.2.2 hin232 hat232 (g := (mkF m 80 #[.val (.int p0), .val (.ref b1), .val (.int (9 : Int32)), .unset, .unset] [(.int (9 : Int32)), (.ref b1)])) rfl rfl (hb hby at_80) _ k) ?_
    show Goes _ _ _ _ _ _ _ (T170.setTop (mkF m 81 #[.val (.int p0), .val (.ref b1), .val (.int (9 : Int32)), .unset, .unset] [(.ref a_COMPENSATED)]))
    refine Goes.step (fun _ k => XS.astoreN X170.here hx rfl (hb hby at_81) rfl rfl (l' := #[.val (.int p0), .val (.ref b1), .val (.int (9 : Int32)), .val (.ref a_COMPENSATED), .unset]) rfl k) ?_
    show Goes _ _ _ _ _ _ _ (T170.setTop (mkF m 82 #[.val (.int p0), .val (.ref b1), .val (.int (9 : Int32)), .val (.ref a_COMPENSATED), .unset] []))
    refine Goes.step (fun _ k => XS.aloadN X170.here hx rfl (hb hby at_82) rfl rfl k) ?_
    show Goes _ _ _ _ _ _ _ (T170.setTop (mkF m 83 #[.val (.int p0), .val (.ref b1), .val (.int (9 : Int32)), .val (.ref a_COMPENSATED), .unset] [(.ref a_COMPENSATED)]))
    obtain ⟨T233, X233, e233, st233⟩ := getS2 X170 hx hZ hown (host := "") (Or.inl (hw _ (List.mem_of_getElem? (i := 2) rfl))) Via.refl e170 (S_REGISTERED.ext XO171.2) (g := (mkF m 83 #[.val (.int p0), .val (.ref b1), .val (.int (9 : Int32)), .val (.ref a_COMPENSATED), .unset] [(.ref a_COMPENSATED)])) rfl (hb hby at_83)
    refine Goes.step st233 ?_
    show Goes _ _ _ _ _ _ _ (T233.setTop (mkF m 86 #[.val (.int p0), .val (.ref b1), .val (.int (9 : Int32)), .val (.ref a_COMPENSATED), .unset] [(.ref a_REGISTERED), (.ref a_COMPENSATED)]))
    refine Goes.step (fun _ k => Jvm.RoadKit.acmp X233 hx rfl rfl rfl (pc0 := 86) (pc' := 89) (same := false) rfl (hb hby at_86) rfl (decide_eq_false fun q => ne_COMPENSATED_REGISTERED (Value.ref.inj q)) (by decide) (by decide) k) ?_
    show Goes _ _ _ _ _ _ _ (T233.setTop (mkF m 89 #[.val (.int p0), .val (.ref b1), .val (.int (9 : Int32)), .val (.ref a_COMPENSATED), .unset] []))
    refine Goes.step (fun _ k => XS.aloadN X233.here hx rfl (hb hby at_89) rfl rfl k) ?_
    show Goes _ _ _ _ _ _ _ (T233.setTop (mkF m 90 #[.val (.int p0), .val (.ref b1), .val (.int (9 : Int32)), .val (.ref a_COMPENSATED), .unset] [(.ref a_COMPENSATED)]))
    obtain ⟨T234, X234, e234, st234⟩ := getS2 X233 hx hZ hown (host := "") (Or.inl (hw _ (List.mem_of_getElem? (i := 6) rfl))) Via.refl e233 (S_PREPARED.ext XO171.2) (g := (mkF m 90 #[.val (.int p0), .val (.ref b1), .val (.int (9 : Int32)), .val (.ref a_COMPENSATED), .unset] [(.ref a_COMPENSATED)])) rfl (hb hby at_90)
    refine Goes.step st234 ?_
    show Goes _ _ _ _ _ _ _ (T234.setTop (mkF m 93 #[.val (.int p0), .val (.ref b1), .val (.int (9 : Int32)), .val (.ref a_COMPENSATED), .unset] [(.ref a_PREPARED), (.ref a_COMPENSATED)]))
    refine Goes.step (fun _ k => Jvm.RoadKit.acmp X234 hx rfl rfl rfl (pc0 := 93) (pc' := 96) (same := false) rfl (hb hby at_93) rfl (decide_eq_false fun q => ne_COMPENSATED_PREPARED (Value.ref.inj q)) (by decide) (by decide) k) ?_
    show Goes _ _ _ _ _ _ _ (T234.setTop (mkF m 96 #[.val (.int p0), .val (.ref b1), .val (.int (9 : Int32)), .val (.ref a_COMPENSATED), .unset] []))
    refine Goes.step (fun _ k => XS.aloadN X234.here hx rfl (hb hby at_96) rfl rfl k) ?_
    show Goes _ _ _ _ _ _ _ (T234.setTop (mkF m 97 #[.val (.int p0), .val (.ref b1), .val (.int (9 : Int32)), .val (.ref a_COMPENSATED), .unset] [(.ref a_COMPENSATED)]))
    obtain ⟨T235, X235, e235, st235⟩ := getS2 X234 hx hZ hown (host := "") (Or.inl (hw _ (List.mem_of_getElem? (i := 16) rfl))) Via.refl e234 (S_PENDING.ext XO171.2) (g := (mkF m 97 #[.val (.int p0), .val (.ref b1), .val (.int (9 : Int32)), .val (.ref a_COMPENSATED), .unset] [(.ref a_COMPENSATED)])) rfl (hb hby at_97)
    refine Goes.step st235 ?_
    show Goes _ _ _ _ _ _ _ (T235.setTop (mkF m 100 #[.val (.int p0), .val (.ref b1), .val (.int (9 : Int32)), .val (.ref a_COMPENSATED), .unset] [(.ref a_PENDING), (.ref a_COMPENSATED)]))
    refine Goes.step (fun _ k => Jvm.RoadKit.acmp X235 hx rfl rfl rfl (pc0 := 100) (pc' := 103) (same := false) rfl (hb hby at_100) rfl (decide_eq_false fun q => ne_COMPENSATED_PENDING (Value.ref.inj q)) (by decide) (by decide) k) ?_
    show Goes _ _ _ _ _ _ _ (T235.setTop (mkF m 103 #[.val (.int p0), .val (.ref b1), .val (.int (9 : Int32)), .val (.ref a_COMPENSATED), .unset] []))
    refine Goes.step (fun _ k => XS.aloadN X235.here hx rfl (hb hby at_103) rfl rfl k) ?_
    show Goes _ _ _ _ _ _ _ (T235.setTop (mkF m 104 #[.val (.int p0), .val (.ref b1), .val (.int (9 : Int32)), .val (.ref a_COMPENSATED), .unset] [(.ref a_COMPENSATED)]))
    obtain ⟨T236, X236, e236, st236⟩ := getS2 X235 hx hZ hown (host := "") (Or.inl (hw _ (List.mem_of_getElem? (i := 18) rfl))) Via.refl e235 (S_SUCCEEDED.ext XO171.2) (g := (mkF m 104 #[.val (.int p0), .val (.ref b1), .val (.int (9 : Int32)), .val (.ref a_COMPENSATED), .unset] [(.ref a_COMPENSATED)])) rfl (hb hby at_104)
    refine Goes.step st236 ?_
    show Goes _ _ _ _ _ _ _ (T236.setTop (mkF m 107 #[.val (.int p0), .val (.ref b1), .val (.int (9 : Int32)), .val (.ref a_COMPENSATED), .unset] [(.ref a_SUCCEEDED), (.ref a_COMPENSATED)]))
    refine Goes.step (fun _ k => Jvm.RoadKit.acmp X236 hx rfl rfl rfl (pc0 := 107) (pc' := 114) (same := false) rfl (hb hby at_107) rfl (decide_eq_false fun q => ne_COMPENSATED_SUCCEEDED (Value.ref.inj q)) (by decide) (by decide) k) ?_
    show Goes _ _ _ _ _ _ _ (T236.setTop (mkF m 114 #[.val (.int p0), .val (.ref b1), .val (.int (9 : Int32)), .val (.ref a_COMPENSATED), .unset] []))
    refine Goes.step (fun _ k => XS.iconst X236.here hx rfl (hb hby at_114) k) ?_
    show Goes _ _ _ _ _ _ _ (T236.setTop (mkF m 115 #[.val (.int p0), .val (.ref b1), .val (.int (9 : Int32)), .val (.ref a_COMPENSATED), .unset] [(.int (0 : Int32))]))
    refine Goes.step (fun _ k => XS.istore X236.here hx rfl (hb hby at_115) rfl (l' := #[.val (.int p0), .val (.ref b1), .val (.int (9 : Int32)), .val (.ref a_COMPENSATED), .val (.int (0 : Int32))]) rfl k) ?_
    show Goes _ _ _ _ _ _ _ (T236.setTop (mkF m 117 #[.val (.int p0), .val (.ref b1), .val (.int (9 : Int32)), .val (.ref a_COMPENSATED), .val (.int (0 : Int32))] []))
    refine Goes.step (fun _ k => XS.aloadN X236.here hx rfl (hb hby at_117) rfl rfl k) ?_
    show Goes _ _ _ _ _ _ _ (T236.setTop (mkF m 118 #[.val (.int p0), .val (.ref b1), .val (.int (9 : Int32)), .val (.ref a_COMPENSATED), .val (.int (0 : Int32))] [(.ref a_COMPENSATED)]))
    obtain ⟨cq237, kq237, q237a, q237b, q237c⟩ := isOf hZ e236 f181
    obtain ⟨_, _, ⟨T237, L237, k237, n237⟩, -, X237, ⟨Lc237, hQ237, l237, y237, z237⟩, st237⟩ := X236.virtualBack hx (y := (⟨"com/example/concordat/concordat/BranchStatus", "isFinal", "()Z"⟩ : MethodName)) (z := (⟨"com/example/concordat/concordat/BranchStatus", "isFinal", "()Z"⟩ : MethodName)) hown (mvT hZ (hw _ (List.mem_of_getElem? (i := 25) rfl))) (mvT hZ (hw _ (List.mem_of_getElem? (i := 26) rfl))) (notFace_of_selects (args := #[]) (mvT hZ (hw _ (List.mem_of_getElem? (i := 28) rfl)))) (mvT hZ (hw _ (List.mem_of_getElem? (i := 28) rfl))) (mvT hZ (hw _ (List.mem_of_getElem? (i := 27) rfl))) (by decide) (backOf (W := 0) (rm1 l Z a0 hw [] a_COMPENSATED a_COMMITTED a_ROLLED_BACK a_CONFIRMED a_CANCELLED a_FAILED a_COMPENSATED h170 n0 Z183 S_COMMITTED S_ROLLED_BACK S_CONFIRMED S_CANCELLED S_FAILED S_COMPENSATED XO171) hZ (hw _ (List.mem_of_getElem? (i := 29) rfl)) (hw _ (List.mem_of_getElem? (i := 3) rfl)) (by decide) (by decide)) q237a q237c (g := (mkF m 118 #[.val (.int p0), .val (.ref b1), .val (.int (9 : Int32)), .val (.ref a_COMPENSATED), .val (.int (0 : Int32))] [(.ref a_COMPENSATED)])) rfl (by rw [hml]; rfl) (Steps.refl _) (argsL := []) (rest := []) (lenOf pd_0 rfl) rfl (by show 2 * 0 + _ ≤ _; exact Nat.le_of_eq rfl) (hb hby at_118) (fun _ _ => ⟨rfl, e236, (by decide : 1 + 0 ≤ _), (by decide : 10 + 0 ≤ _)⟩)
    dsimp only [Pt.U, Pt.locs, Pt.cells, Pt.slots] at X237 l237 y237 z237 st237 hQ237
    subst l237 y237 z237
    obtain ⟨N237, eh237, hR237⟩ := hQ237
    have NA237 := Fr.app N183 N237
    rcases hR237 with ⟨rfl, u237_0_0⟩ | ⟨rfl, u237_1_0, u237_1_1⟩ | ⟨rfl, u237_2_0, u237_2_1, u237_2_2⟩ | ⟨rfl, u237_3_0, u237_3_1, u237_3_2, u237_3_3⟩ | ⟨rfl, u237_4_0, u237_4_1, u237_4_2, u237_4_3, u237_4_4⟩ | ⟨rfl, u237_5_0, u237_5_1, u237_5_2, u237_5_3, u237_5_4, u237_5_5⟩ | ⟨rfl, u237_6_0, u237_6_1, u237_6_2, u237_6_3, u237_6_4, u237_6_5⟩
    · exact absurd u237_0_0 ne_COMPENSATED_COMMITTED
    · exact absurd u237_1_1 ne_COMPENSATED_ROLLED_BACK
    · exact absurd u237_2_2 ne_COMPENSATED_CONFIRMED
    · exact absurd u237_3_3 ne_COMPENSATED_CANCELLED
    · exact absurd u237_4_4 ne_COMPENSATED_FAILED
    · refine Goes.back st237 ?_
      show Goes _ _ _ _ _ _ _ (T237.setTop (mkF m 121 #[.val (.int p0), .val (.ref b1), .val (.int (9 : Int32)), .val (.ref a_COMPENSATED), .val (.int (0 : Int32))] [(.int (1 : Int32))]))
      refine Goes.step (fun _ k => XS.iload X237.here hx rfl (hb hby at_121) rfl  k) ?_
      show Goes _ _ _ _ _ _ _ (T237.setTop (mkF m 123 #[.val (.int p0), .val (.ref b1), .val (.int (9 : Int32)), .val (.ref a_COMPENSATED), .val (.int (0 : Int32))] [(.int (0 : Int32)), (.int (1 : Int32))]))
      refine Goes.step (fun _ k => XS.ifNo X237.here hx rfl (hb hby at_123) rfl ((if0 _ _).trans (teq (by decide : (0 : Int32) = (0 : Int32))).2) k) ?_
      show Goes _ _ _ _ _ _ _ (T237.setTop (mkF m 126 #[.val (.int p0), .val (.ref b1), .val (.int (9 : Int32)), .val (.ref a_COMPENSATED), .val (.int (0 : Int32))] [(.int (1 : Int32))]))
      refine Goes.step (fun _ k => XS.iconst X237.here hx rfl (hb hby at_126) k) ?_
      show Goes _ _ _ _ _ _ _ (T237.setTop (mkF m 127 #[.val (.int p0), .val (.ref b1), .val (.int (9 : Int32)), .val (.ref a_COMPENSATED), .val (.int (0 : Int32))] [(.int (1 : Int32)), (.int (1 : Int32))]))
      refine Goes.step (fun _ k => XS.goto X237.here hx rfl (pc0 := 127) (pc' := 131) rfl (hb hby at_127) (by decide) (by decide) k) ?_
      show Goes _ _ _ _ _ _ _ (T237.setTop (mkF m 131 #[.val (.int p0), .val (.ref b1), .val (.int (9 : Int32)), .val (.ref a_COMPENSATED), .val (.int (0 : Int32))] [(.int (1 : Int32)), (.int (1 : Int32))]))
      refine Goes.step (fun _ k => XS.icmpNo X237.here hx rfl (hb hby at_131) rfl (teq (by decide : (1 : Int32) = (1 : Int32))).2 k) ?_
      show Goes _ _ _ _ _ _ _ (T237.setTop (mkF m 134 #[.val (.int p0), .val (.ref b1), .val (.int (9 : Int32)), .val (.ref a_COMPENSATED), .val (.int (0 : Int32))] []))
      refine Goes.step (fun _ k => XS.iconst X237.here hx rfl (hb hby at_134) k) ?_
      show Goes _ _ _ _ _ _ _ (T237.setTop (mkF m 135 #[.val (.int p0), .val (.ref b1), .val (.int (9 : Int32)), .val (.ref a_COMPENSATED), .val (.int (0 : Int32))] [(.int (1 : Int32))]))
      refine Goes.step (fun _ k => XS.goto X237.here hx rfl (pc0 := 135) (pc' := 139) rfl (hb hby at_135) (by decide) (by decide) k) ?_
      show Goes _ _ _ _ _ _ _ (T237.setTop (mkF m 139 #[.val (.int p0), .val (.ref b1), .val (.int (9 : Int32)), .val (.ref a_COMPENSATED), .val (.int (0 : Int32))] [(.int (1 : Int32))]))
      exact Goes.ret X237 hx (BodyLoose.notSynchronized Bd) Bd.returns rfl (Or.inl ⟨rfl, by simp, _, rfl⟩) (hb hby at_139) (by show Q0 Z p0 a_REGISTERED a_PREPARED a_COMMITTED a_ROLLED_BACK a_CONFIRMED a_CANCELLED a_PENDING a_SUCCEEDED a_FAILED a_COMPENSATED h0 n0 (some (.int (1 : Int32))) T237.heap _; rw [eh237]; exact ⟨rfl, NA237⟩) (by decide) (by decide)
    · exact absurd (rfl : a_COMPENSATED = a_COMPENSATED) u237_6_5
set_option maxRecDepth 65536 in
set_option maxHeartbeats 40000000 in
theorem comes_1 {Post : Tables → Env → Array Value → State → Outcome → State → Prop} (hpost : ∀ tb e args s v u, (limb_1_1.after args s (.returned v) u = true ∧ limb_1_2.after args s (.returned v) u = true ∧ True) → FrameEnd s (.returned v) u (Jvm.fieldLocs frame_1_writes args s ++ Jvm.arrayLocs frame_1_arrays args s ++ Jvm.staticLocs frame_1_statics s) 16 128 → Post tb e args s (.returned v) u) :
    ArmFor flags0 classFile x code maxLocals ret World_1 tables_1 room_1 Calls_1 rest_1 Pre_1 Post := by
  intro l hfl _ _ p e ha hc hk s m args below hf hA hF happ hP
  obtain ⟨hcalls, hrest, hpre⟩ := hP
  obtain ⟨-, -, -, hnamed, -, -, -, hat⟩ := (Spec.applies_iff hf).mp happ
  obtain ⟨hg, hn⟩ := and_e (Cond.before_iff.mp (show (Jvm.Cond.and given_1 narrow_1).before args s = true from hpre))
  obtain ⟨gg1, gg2⟩ := and_e hg
  obtain ⟨w0, rfl⟩ : ∃ w0 : Value, args = #[w0] := by
    have hs : args.size = 1 := by simpa [Cond.value, given_1] using gg1
    obtain ⟨L⟩ := args
    match L, hs with
    | [w0], _ => exact ⟨w0, rfl⟩
  have hw := fun d (hd : d ∈ tables_1) => atoms_spec (ws := Jvm.Cond.code x code maxLocals ret :: tables_1) hat d (List.mem_cons_of_mem _ hd)
  have hfit : Fit s := fun {y c} hc i hi => by
    obtain ⟨ha, rfl⟩ := Array.getElem?_eq_some_iff.mp hc
    have q := List.all_eq_true.mp ((Array.all_eq_true_iff_forall_mem.mp hF) _ (Array.getElem_mem ha)) i (List.mem_range.mpr hi)
    simpa [Array.getElem?_eq_getElem hi] using q
  obtain ⟨i0, ei0⟩ := is_v gg2
  obtain rfl : w0 = (.int i0) := Option.some.inj ei0
  obtain ⟨nn1, nn2⟩ := and_e hn
  obtain ⟨a_REGISTERED, ev_REGISTERED⟩ := exa_v nn1
  have E_REGISTERED := Exa.start ev_REGISTERED nn1
  have S_REGISTERED := Sta.start ev_REGISTERED (Or.inr ⟨(hw _ (List.mem_of_getElem? (i := 3) rfl)), (hw _ (List.mem_of_getElem? (i := 4) rfl))⟩)
  obtain ⟨nn3, nn4⟩ := and_e nn2
  obtain ⟨a_PREPARED, ev_PREPARED⟩ := exa_v nn3
  have E_PREPARED := Exa.start ev_PREPARED nn3
  have S_PREPARED := Sta.start ev_PREPARED (Or.inr ⟨(hw _ (List.mem_of_getElem? (i := 3) rfl)), (hw _ (List.mem_of_getElem? (i := 7) rfl))⟩)
  obtain ⟨nn5, nn6⟩ := and_e nn4
  obtain ⟨a_COMMITTED, ev_COMMITTED⟩ := exa_v nn5
  have E_COMMITTED := Exa.start ev_COMMITTED nn5
  have S_COMMITTED := Sta.start ev_COMMITTED (Or.inr ⟨(hw _ (List.mem_of_getElem? (i := 3) rfl)), (hw _ (List.mem_of_getElem? (i := 9) rfl))⟩)
  obtain ⟨nn7, nn8⟩ := and_e nn6
  obtain ⟨a_ROLLED_BACK, ev_ROLLED_BACK⟩ := exa_v nn7
  have E_ROLLED_BACK := Exa.start ev_ROLLED_BACK nn7
  have S_ROLLED_BACK := Sta.start ev_ROLLED_BACK (Or.inr ⟨(hw _ (List.mem_of_getElem? (i := 3) rfl)), (hw _ (List.mem_of_getElem? (i := 11) rfl))⟩)
  obtain ⟨nn9, nn10⟩ := and_e nn8
  obtain ⟨a_CONFIRMED, ev_CONFIRMED⟩ := exa_v nn9
  have E_CONFIRMED := Exa.start ev_CONFIRMED nn9
  have S_CONFIRMED := Sta.start ev_CONFIRMED (Or.inr ⟨(hw _ (List.mem_of_getElem? (i := 3) rfl)), (hw _ (List.mem_of_getElem? (i := 13) rfl))⟩)
  obtain ⟨nn11, nn12⟩ := and_e nn10
  obtain ⟨a_CANCELLED, ev_CANCELLED⟩ := exa_v nn11
  have E_CANCELLED := Exa.start ev_CANCELLED nn11
  have S_CANCELLED := Sta.start ev_CANCELLED (Or.inr ⟨(hw _ (List.mem_of_getElem? (i := 3) rfl)), (hw _ (List.mem_of_getElem? (i := 15) rfl))⟩)
  obtain ⟨nn13, nn14⟩ := and_e nn12
  obtain ⟨a_PENDING, ev_PENDING⟩ := exa_v nn13
  have E_PENDING := Exa.start ev_PENDING nn13
  have S_PENDING := Sta.start ev_PENDING (Or.inr ⟨(hw _ (List.mem_of_getElem? (i := 3) rfl)), (hw _ (List.mem_of_getElem? (i := 17) rfl))⟩)
  obtain ⟨nn15, nn16⟩ := and_e nn14
  obtain ⟨a_SUCCEEDED, ev_SUCCEEDED⟩ := exa_v nn15
  have E_SUCCEEDED := Exa.start ev_SUCCEEDED nn15
  have S_SUCCEEDED := Sta.start ev_SUCCEEDED (Or.inr ⟨(hw _ (List.mem_of_getElem? (i := 3) rfl)), (hw _ (List.mem_of_getElem? (i := 19) rfl))⟩)
  obtain ⟨nn17, nn18⟩ := and_e nn16
  obtain ⟨a_FAILED, ev_FAILED⟩ := exa_v nn17
  have E_FAILED := Exa.start ev_FAILED nn17
  have S_FAILED := Sta.start ev_FAILED (Or.inr ⟨(hw _ (List.mem_of_getElem? (i := 3) rfl)), (hw _ (List.mem_of_getElem? (i := 21) rfl))⟩)
  obtain ⟨nn19, nn20⟩ := and_e nn18
  obtain ⟨a_COMPENSATED, ev_COMPENSATED⟩ := exa_v nn19
  have E_COMPENSATED := Exa.start ev_COMPENSATED nn19
  have S_COMPENSATED := Sta.start ev_COMPENSATED (Or.inr ⟨(hw _ (List.mem_of_getElem? (i := 3) rfl)), (hw _ (List.mem_of_getElem? (i := 23) rfl))⟩)
  obtain ⟨nn21, nn22⟩ := and_e nn20
  obtain ⟨nn23, nn24⟩ := and_e nn22
  obtain ⟨nn25, nn26⟩ := and_e nn24
  obtain ⟨nn27, nn28⟩ := and_e nn26
  obtain ⟨nn29, nn30⟩ := and_e nn28
  obtain ⟨nn31, nn32⟩ := and_e nn30
  obtain ⟨nn33, nn34⟩ := and_e nn32
  obtain ⟨nn35, nn36⟩ := and_e nn34
  obtain ⟨nn37, nn38⟩ := and_e nn36
  have O_REGISTERED : Fld s s.heap a_REGISTERED "java/lang/Enum" "ordinal" "I" (.int (0 : Int32)) := Fld.start ((fld_at ev_REGISTERED).symm.trans (own_eqInt nn21))
  have O_COMMITTED : Fld s s.heap a_COMMITTED "java/lang/Enum" "ordinal" "I" (.int (2 : Int32)) := Fld.start ((fld_at ev_COMMITTED).symm.trans (own_eqInt nn23))
  have O_ROLLED_BACK : Fld s s.heap a_ROLLED_BACK "java/lang/Enum" "ordinal" "I" (.int (3 : Int32)) := Fld.start ((fld_at ev_ROLLED_BACK).symm.trans (own_eqInt nn25))
  have O_CONFIRMED : Fld s s.heap a_CONFIRMED "java/lang/Enum" "ordinal" "I" (.int (4 : Int32)) := Fld.start ((fld_at ev_CONFIRMED).symm.trans (own_eqInt nn27))
  have O_CANCELLED : Fld s s.heap a_CANCELLED "java/lang/Enum" "ordinal" "I" (.int (5 : Int32)) := Fld.start ((fld_at ev_CANCELLED).symm.trans (own_eqInt nn29))
  have O_FAILED : Fld s s.heap a_FAILED "java/lang/Enum" "ordinal" "I" (.int (8 : Int32)) := Fld.start ((fld_at ev_FAILED).symm.trans (own_eqInt nn31))
  have O_COMPENSATED : Fld s s.heap a_COMPENSATED "java/lang/Enum" "ordinal" "I" (.int (9 : Int32)) := Fld.start ((fld_at ev_COMPENSATED).symm.trans (own_eqInt nn33))
  have O_PREPARED : Fld s s.heap a_PREPARED "java/lang/Enum" "ordinal" "I" (.int (1 : Int32)) := Fld.start ((fld_at ev_PREPARED).symm.trans (own_eqInt nn35))
  have O_PENDING : Fld s s.heap a_PENDING "java/lang/Enum" "ordinal" "I" (.int (6 : Int32)) := Fld.start ((fld_at ev_PENDING).symm.trans (own_eqInt nn37))
  have O_SUCCEEDED : Fld s s.heap a_SUCCEEDED "java/lang/Enum" "ordinal" "I" (.int (7 : Int32)) := Fld.start ((fld_at ev_SUCCEEDED).symm.trans (own_eqInt nn38))
  obtain ⟨n, o, h1, h2, h3, _, L, rfl, ⟨rfl, N⟩, hq⟩ := rm0 l s _ hw tables_1 i0 a_REGISTERED a_PREPARED a_COMMITTED a_ROLLED_BACK a_CONFIRMED a_CANCELLED a_PENDING a_SUCCEEDED a_FAILED a_COMPENSATED s.heap s.heap.size (Nat.le_refl _) S_REGISTERED S_PREPARED S_COMMITTED S_ROLLED_BACK S_CONFIRMED S_CANCELLED S_PENDING S_SUCCEEDED S_FAILED S_COMPENSATED E_REGISTERED E_PREPARED E_COMMITTED E_ROLLED_BACK E_CONFIRMED E_CANCELLED E_PENDING E_SUCCEEDED E_FAILED E_COMPENSATED (own_neFld O_PREPARED O_REGISTERED (by decide)) (own_neFld O_COMMITTED O_REGISTERED (by decide)) (own_neFld O_COMMITTED O_PREPARED (by decide)) (own_neFld O_ROLLED_BACK O_REGISTERED (by decide)) (own_neFld O_ROLLED_BACK O_PREPARED (by decide)) (own_neFld O_ROLLED_BACK O_COMMITTED (by decide)) (own_neFld O_CONFIRMED O_REGISTERED (by decide)) (own_neFld O_CONFIRMED O_PREPARED (by decide)) (own_neFld O_CONFIRMED O_COMMITTED (by decide)) (own_neFld O_CONFIRMED O_ROLLED_BACK (by decide)) (own_neFld O_CANCELLED O_REGISTERED (by decide)) (own_neFld O_CANCELLED O_PREPARED (by decide)) (own_neFld O_CANCELLED O_COMMITTED (by decide)) (own_neFld O_CANCELLED O_ROLLED_BACK (by decide)) (own_neFld O_CANCELLED O_CONFIRMED (by decide)) (own_neFld O_PENDING O_REGISTERED (by decide)) (own_neFld O_PENDING O_PREPARED (by decide)) (own_neFld O_PENDING O_COMMITTED (by decide)) (own_neFld O_PENDING O_ROLLED_BACK (by decide)) (own_neFld O_PENDING O_CONFIRMED (by decide)) (own_neFld O_PENDING O_CANCELLED (by decide)) (own_neFld O_SUCCEEDED O_REGISTERED (by decide)) (own_neFld O_SUCCEEDED O_PREPARED (by decide)) (own_neFld O_SUCCEEDED O_COMMITTED (by decide)) (own_neFld O_SUCCEEDED O_ROLLED_BACK (by decide)) (own_neFld O_SUCCEEDED O_CONFIRMED (by decide)) (own_neFld O_SUCCEEDED O_CANCELLED (by decide)) (own_neFld O_SUCCEEDED O_PENDING (by decide)) (own_neFld O_FAILED O_REGISTERED (by decide)) (own_neFld O_FAILED O_PREPARED (by decide)) (own_neFld O_FAILED O_COMMITTED (by decide)) (own_neFld O_FAILED O_ROLLED_BACK (by decide)) (own_neFld O_FAILED O_CONFIRMED (by decide)) (own_neFld O_FAILED O_CANCELLED (by decide)) (own_neFld O_FAILED O_PENDING (by decide)) (own_neFld O_FAILED O_SUCCEEDED (by decide)) (own_neFld O_COMPENSATED O_REGISTERED (by decide)) (own_neFld O_COMPENSATED O_PREPARED (by decide)) (own_neFld O_COMPENSATED O_COMMITTED (by decide)) (own_neFld O_COMPENSATED O_ROLLED_BACK (by decide)) (own_neFld O_COMPENSATED O_CONFIRMED (by decide)) (own_neFld O_COMPENSATED O_CANCELLED (by decide)) (own_neFld O_COMPENSATED O_PENDING (by decide)) (own_neFld O_COMPENSATED O_SUCCEEDED (by decide)) (own_neFld O_COMPENSATED O_FAILED (by decide)) (Old.start s) p e ha hc hk s m _ below hf ((Spec.applies_iff_loose hf).mp happ).1 ⟨rfl, State.Warmed39.refl s, rfl⟩ trivial
  refine ⟨n, _, h1, h2, h3, hpost _ _ _ _ _ _ ⟨Cond.after_iff.mpr rfl, Cond.after_iff.mpr (eq_i res_at (Term.int_eval (1)) rfl), trivial⟩ ⟨hq.1, hq.2.1, (hq.2.2.sift fun y hy => Or.inr (N y hy)).mono (by decide) (by decide)⟩⟩
theorem main_1_1 : Claimed_1_1 := comes_1 fun _ _ _ _ _ _ h hF => ⟨h.1, hF⟩
theorem main_1_2 : Claimed_1_2 := comes_1 fun _ _ _ _ _ _ h hF => ⟨h.2.1, hF⟩
end Jvm.Pilot.@@N@@
namespace Jvm.Pilot.@@N@@
open Jvm Jvm.ClassFile Sem Op Lib Jvm.Free Jvm.Stand Jvm.Pilot.@@N@@.Jvm.D
/-! MADE BY PROGRAM (witnessworld.py) out of the Statement's table words and the real class files: 13 classes; the members and pool entries that the words name. The judged class is class 1, her method 1. -/
namespace start1
open Jvm.ClassFile
def u (s : String) : CpInfo := .utf8 (stringToUtf16 s)
/-- a pool by its gaps: so many unusable entries, then the entry; so many at the end -/
def gap : Nat → List CpInfo → List CpInfo
  | 0, r => r
  | n + 1, r => .unusable :: gap n r
def poolList (es : List (Nat × CpInfo)) (last : Nat) : List CpInfo := es.foldr (fun e r => gap e.1 (e.2 :: r)) (gap last [])
def pool (es : List (Nat × CpInfo)) (last : Nat) : Array CpInfo := ⟨poolList es last⟩
def fileOf (pool : Array CpInfo) (this : Nat) (attrs : Array Attribute := #[]) (ms : Array MethodInfo := #[]) (fl : Nat := 33) (sup : Nat := 0) (ifs : Array Nat := #[]) (fds : Array FieldInfo := #[]) : ClassFile where
  minorVersion := 0
  majorVersion := 65
  constantPool := pool
  accessFlags := fl
  thisClass := this
  superClass := sup
  interfaces := ifs
  fields := fds
  methods := ms
  attributes := attrs
def plain (name : String) (sup : Option ClassId) : Class where
  name := name
  kind := .ordinary
  loader := none
  accessFlags := 33
  super := sup
  interfaces := #[]
  cf := none
  fields := #[]
  methods := #[]
  instanceTypes := #[]
  staticTypes := #[]
  resolved := #[]
  callSites := []
  init := .initialized
  statics := none
  mirror := none

def pool0 : Array CpInfo := pool [(5, u "<init>"), (0, u "()V"), (1, .class_ 10), (1, u "java/lang/Object")] 113

def k0m0 : Method := { name := "<init>", desc := "()V", sig := { parameters := [], returnType := none }, accessFlags := 1, code := none }
/-- java/lang/Object -/
def k0 : Class := { plain "java/lang/Object" none with
  accessFlags := 33
  interfaces := #[]
  cf := some (fileOf pool0 8 #[] #[{ accessFlags := 1, nameIndex := 5, descriptorIndex := 6, attributes := #[] }] 33 0 #[] #[])
  fields := #[]
  methods := #[k0m0]
  instanceTypes := #[]
  staticTypes := #[]
  resolved := Array.replicate 124 none
  statics := none }

def pool1 : Array CpInfo := pool [(2, .class_ 4), (1, u "java/lang/Object"), (0, u "<init>"), (0, u "()V"), (0, .class_ 8), (0, u "com/example/concordat/concordat/BranchStatus"), (0, .fieldref 7 10), (0, .nameAndType 11 12), (0, u "REGISTERED"), (0, u "Lcom/example/concordat/concordat/BranchStatus;"), (0, .fieldref 7 14), (0, .nameAndType 15 12), (0, u "PREPARED"), (0, .fieldref 7 17), (0, .nameAndType 18 12), (0, u "COMMITTED"), (0, .fieldref 7 20), (0, .nameAndType 21 12), (0, u "ROLLED_BACK"), (0, .fieldref 7 23), (0, .nameAndType 24 12), (0, u "CONFIRMED"), (0, .fieldref 7 26), (0, .nameAndType 27 12), (0, u "CANCELLED"), (0, .fieldref 7 29), (0, .nameAndType 30 12), (0, u "PENDING"), (0, .fieldref 7 32), (0, .nameAndType 33 12), (0, u "SUCCEEDED"), (0, .fieldref 7 35), (0, .nameAndType 36 12), (0, u "FAILED"), (0, .fieldref 7 38), (0, .nameAndType 39 12), (0, u "COMPENSATED"), (0, .integer 2147483647), (0, .methodref 7 42), (0, .nameAndType 43 44), (0, u "isFinal"), (0, u "()Z"), (0, .class_ 46), (0, u "com/example/concordat/concordat/BranchStatusIsFinalPinLaw"), (2, u "law"), (0, u "(I)Z")] 5

def k1m0 : Method := { name := "<init>", desc := "()V", sig := { parameters := [], returnType := none }, accessFlags := 1, code := none }
def k1c1 : Code := { maxStack := 4, maxLocals := 5, code := code, exceptionTable := #[], attributes := #[] }
def k1m1 : Method := { name := "law", desc := "(I)Z", sig := { parameters := [.int], returnType := some .boolean }, accessFlags := 9, code := some k1c1 }
/-- com/example/concordat/concordat/BranchStatusIsFinalPinLaw -/
def k1 : Class := { plain "com/example/concordat/concordat/BranchStatusIsFinalPinLaw" (some 0) with
  accessFlags := 49
  interfaces := #[]
  cf := some (fileOf pool1 45 #[] #[{ accessFlags := 1, nameIndex := 5, descriptorIndex := 6, attributes := #[] }, { accessFlags := 9, nameIndex := 49, descriptorIndex := 50, attributes := #[] }] 49 2 #[] #[])
  fields := #[]
  methods := #[k1m0, k1m1]
  instanceTypes := #[]
  staticTypes := #[]
  resolved := Array.replicate 56 none
  statics := none }

def pool2 : Array CpInfo := pool [(1, .class_ 2), (0, u "java/lang/constant/Constable"), (0, .class_ 4), (0, u "java/lang/Object")] 6

/-- java/lang/constant/Constable -/
def k2 : Class := { plain "java/lang/constant/Constable" (some 0) with
  accessFlags := 1537
  interfaces := #[]
  cf := some (fileOf pool2 1 #[] #[] 1537 3 #[] #[])
  fields := #[]
  methods := #[]
  instanceTypes := #[]
  staticTypes := #[]
  resolved := Array.replicate 11 none
  statics := none }

def pool3 : Array CpInfo := pool [(1, .class_ 2), (0, u "java/lang/Comparable"), (0, .class_ 4), (0, u "java/lang/Object")] 7

/-- java/lang/Comparable -/
def k3 : Class := { plain "java/lang/Comparable" (some 0) with
  accessFlags := 1537
  interfaces := #[]
  cf := some (fileOf pool3 1 #[] #[] 1537 3 #[] #[])
  fields := #[]
  methods := #[]
  instanceTypes := #[]
  staticTypes := #[]
  resolved := Array.replicate 12 none
  statics := none }

def pool4 : Array CpInfo := pool [(1, .class_ 2), (0, u "java/io/Serializable"), (0, .class_ 4), (0, u "java/lang/Object")] 2

/-- java/io/Serializable -/
def k4 : Class := { plain "java/io/Serializable" (some 0) with
  accessFlags := 1537
  interfaces := #[]
  cf := some (fileOf pool4 1 #[] #[] 1537 3 #[] #[])
  fields := #[]
  methods := #[]
  instanceTypes := #[]
  staticTypes := #[]
  resolved := Array.replicate 7 none
  statics := none }

def pool5 : Array CpInfo := pool [(2, .class_ 4), (1, u "java/lang/Enum"), (0, u "name"), (0, u "Ljava/lang/String;"), (2, u "ordinal"), (0, u "I"), (1, .class_ 14), (1, u "java/lang/Object"), (4, u "hash"), (86, .class_ 108), (1, u "java/lang/Enum$EnumDesc"), (2, .class_ 112), (0, u "java/lang/constant/Constable"), (0, .class_ 114), (0, u "java/lang/Comparable"), (0, .class_ 116), (0, u "java/io/Serializable")] 87

/-- java/lang/Enum -/
def k5 : Class := { plain "java/lang/Enum" (some 0) with
  accessFlags := 1057
  interfaces := #[2, 3, 4]
  cf := some (fileOf pool5 2 #[.nestMembers #[106]] #[] 1057 12 #[111, 113, 115] #[{ accessFlags := 18, nameIndex := 5, descriptorIndex := 6, attributes := #[] }, { accessFlags := 18, nameIndex := 9, descriptorIndex := 10, attributes := #[] }, { accessFlags := 2, nameIndex := 19, descriptorIndex := 10, attributes := #[] }])
  fields := #[{ name := "name", type := (.object "java/lang/String"), accessFlags := 18, slot := 0, constantValue := 0 }, { name := "ordinal", type := .int, accessFlags := 18, slot := 1, constantValue := 0 }, { name := "hash", type := .int, accessFlags := 2, slot := 2, constantValue := 0 }]
  methods := #[]
  instanceTypes := #[(.object "java/lang/String"), .int, .int]
  staticTypes := #[]
  resolved := Array.replicate 204 none
  statics := none }

def pool6 : Array CpInfo := pool [(1, .class_ 2), (0, u "com/example/concordat/concordat/BranchStatus"), (2, u "REGISTERED"), (0, u "Lcom/example/concordat/concordat/BranchStatus;"), (2, u "PREPARED"), (0, .fieldref 1 11), (0, .nameAndType 12 6), (0, u "COMMITTED"), (0, .fieldref 1 14), (0, .nameAndType 15 6), (0, u "ROLLED_BACK"), (0, .fieldref 1 17), (0, .nameAndType 18 6), (0, u "CONFIRMED"), (0, .fieldref 1 20), (0, .nameAndType 21 6), (0, u "CANCELLED"), (2, u "PENDING"), (2, u "SUCCEEDED"), (0, .fieldref 1 29), (0, .nameAndType 30 6), (0, u "FAILED"), (0, .fieldref 1 32), (0, .nameAndType 33 6), (0, u "COMPENSATED"), (2, u "$VALUES"), (0, u "[Lcom/example/concordat/concordat/BranchStatus;"), (6, .class_ 46), (1, u "java/lang/Enum"), (63, u "isFinal"), (0, u "()Z")] 27

def k6c0 : Code := { maxStack := 2, maxLocals := 1, code := prog_1_method_5_code, exceptionTable := #[], attributes := #[] }
def k6m0 : Method := { name := "isFinal", desc := "()Z", sig := { parameters := [], returnType := some .boolean }, accessFlags := 1, code := some k6c0 }
/-- com/example/concordat/concordat/BranchStatus -/
def k6 : Class := { plain "com/example/concordat/concordat/BranchStatus" (some 5) with
  accessFlags := 16433
  interfaces := #[]
  cf := some (fileOf pool6 1 #[] #[{ accessFlags := 1, nameIndex := 110, descriptorIndex := 111, attributes := #[] }] 16433 44 #[] #[{ accessFlags := 16409, nameIndex := 5, descriptorIndex := 6, attributes := #[] }, { accessFlags := 16409, nameIndex := 9, descriptorIndex := 6, attributes := #[] }, { accessFlags := 16409, nameIndex := 12, descriptorIndex := 6, attributes := #[] }, { accessFlags := 16409, nameIndex := 15, descriptorIndex := 6, attributes := #[] }, { accessFlags := 16409, nameIndex := 18, descriptorIndex := 6, attributes := #[] }, { accessFlags := 16409, nameIndex := 21, descriptorIndex := 6, attributes := #[] }, { accessFlags := 16409, nameIndex := 24, descriptorIndex := 6, attributes := #[] }, { accessFlags := 16409, nameIndex := 27, descriptorIndex := 6, attributes := #[] }, { accessFlags := 16409, nameIndex := 30, descriptorIndex := 6, attributes := #[] }, { accessFlags := 16409, nameIndex := 33, descriptorIndex := 6, attributes := #[] }, { accessFlags := 4122, nameIndex := 36, descriptorIndex := 37, attributes := #[] }])
  fields := #[{ name := "REGISTERED", type := (.object "com/example/concordat/concordat/BranchStatus"), accessFlags := 16409, slot := 0, constantValue := 0 }, { name := "PREPARED", type := (.object "com/example/concordat/concordat/BranchStatus"), accessFlags := 16409, slot := 1, constantValue := 0 }, { name := "COMMITTED", type := (.object "com/example/concordat/concordat/BranchStatus"), accessFlags := 16409, slot := 2, constantValue := 0 }, { name := "ROLLED_BACK", type := (.object "com/example/concordat/concordat/BranchStatus"), accessFlags := 16409, slot := 3, constantValue := 0 }, { name := "CONFIRMED", type := (.object "com/example/concordat/concordat/BranchStatus"), accessFlags := 16409, slot := 4, constantValue := 0 }, { name := "CANCELLED", type := (.object "com/example/concordat/concordat/BranchStatus"), accessFlags := 16409, slot := 5, constantValue := 0 }, { name := "PENDING", type := (.object "com/example/concordat/concordat/BranchStatus"), accessFlags := 16409, slot := 6, constantValue := 0 }, { name := "SUCCEEDED", type := (.object "com/example/concordat/concordat/BranchStatus"), accessFlags := 16409, slot := 7, constantValue := 0 }, { name := "FAILED", type := (.object "com/example/concordat/concordat/BranchStatus"), accessFlags := 16409, slot := 8, constantValue := 0 }, { name := "COMPENSATED", type := (.object "com/example/concordat/concordat/BranchStatus"), accessFlags := 16409, slot := 9, constantValue := 0 }, { name := "$VALUES", type := (.array (.object "com/example/concordat/concordat/BranchStatus")), accessFlags := 4122, slot := 10, constantValue := 0 }]
  methods := #[k6m0]
  instanceTypes := #[(.object "java/lang/String"), .int, .int]
  staticTypes := #[(.object "com/example/concordat/concordat/BranchStatus"), (.object "com/example/concordat/concordat/BranchStatus"), (.object "com/example/concordat/concordat/BranchStatus"), (.object "com/example/concordat/concordat/BranchStatus"), (.object "com/example/concordat/concordat/BranchStatus"), (.object "com/example/concordat/concordat/BranchStatus"), (.object "com/example/concordat/concordat/BranchStatus"), (.object "com/example/concordat/concordat/BranchStatus"), (.object "com/example/concordat/concordat/BranchStatus"), (.object "com/example/concordat/concordat/BranchStatus"), (.array (.object "com/example/concordat/concordat/BranchStatus"))]
  resolved := Array.replicate 139 none
  statics := some 0 }

def pool7 : Array CpInfo := pool [(1, u "java/lang/Cloneable"), (0, .class_ 1), (0, u "java/lang/Object"), (0, .class_ 3)] 3

/-- java/lang/Cloneable -/
def k7 : Class := { plain "java/lang/Cloneable" (some 0) with
  accessFlags := 1537
  interfaces := #[]
  cf := some (fileOf pool7 2 #[] #[] 1537 4 #[] #[])
  fields := #[]
  methods := #[]
  instanceTypes := #[]
  staticTypes := #[]
  resolved := Array.replicate 8 none
  statics := none }

/-- the primitive byte -/
def k8 : Class := { plain "byte" none with kind := .primitive 'B', accessFlags := 0x411 }
/-- [B -/
def k9 : Class := { plain "[B" (some 0) with kind := .array 8 .byte, interfaces := #[7, 4], accessFlags := 1041 }

/-- the primitive int -/
def k10 : Class := { plain "int" none with kind := .primitive 'I', accessFlags := 0x411 }
/-- [I -/
def k11 : Class := { plain "[I" (some 0) with kind := .array 10 .int, interfaces := #[7, 4], accessFlags := 1041 }

/-- [Lcom/example/concordat/concordat/BranchStatus; -/
def k12 : Class := { plain "[Lcom/example/concordat/concordat/BranchStatus;" (some 0) with kind := .array 6 (.object "com/example/concordat/concordat/BranchStatus"), interfaces := #[7, 4], accessFlags := 1041 }

def heap : Heap := #[{ cls := 6, slots := #[.ref 1, .ref 2, .ref 3, .ref 4, .ref 5, .ref 6, .ref 7, .ref 8, .ref 9, .ref 10, .null], vm := .statics 6 },
  { cls := 6, slots := #[.null, .int 0, .int 0], vm := .none },
  { cls := 6, slots := #[.null, .int 1, .int 0], vm := .none },
  { cls := 6, slots := #[.null, .int 2, .int 0], vm := .none },
  { cls := 6, slots := #[.null, .int 3, .int 0], vm := .none },
  { cls := 6, slots := #[.null, .int 4, .int 0], vm := .none },
  { cls := 6, slots := #[.null, .int 5, .int 0], vm := .none },
  { cls := 6, slots := #[.null, .int 6, .int 0], vm := .none },
  { cls := 6, slots := #[.null, .int 7, .int 0], vm := .none },
  { cls := 6, slots := #[.null, .int 8, .int 0], vm := .none },
  { cls := 6, slots := #[.null, .int 9, .int 0], vm := .none }]
def classes : Array Class := #[k0, k1, k2, k3, k4, k5, k6, k7, k8, k9, k10, k11, k12]
def interned : List (Array UInt16 × Addr) := []
def slotsUsed : Nat := 41
def theMethod : MethodId := ⟨1, 1⟩
def args0 : Array Value := #[.int 5]
def aboutOver (below : List Frame) : State where
  vm := { classes := classes, interned := interned.toArray }
  heap := heap
  slotsUsed := slotsUsed
  threads := #[{ frames := .invoking theMethod args0 :: below }]
def below0 : List Frame := [.native { method := ⟨0, 0⟩, args := #[] }]
def about1 : State := aboutOver below0
def p0 : Program := .bare "" "" ""
def e0 : Env := launch0.env 0 0 0
theorem w_frames : about1.frames = Frame.invoking theMethod args0 :: below0 := rfl
set_option maxRecDepth 65536 in
theorem w_args : argsFit about1.vm theMethod args0 = true := by decide +kernel
set_option maxRecDepth 65536 in
theorem w_heap : heapFits about1 = true := by decide +kernel
set_option maxRecDepth 65536 in
theorem w_runnable : about1.curStatus? = some .runnable := by decide +kernel
set_option maxRecDepth 65536 in
theorem w_alone : about1.alone = true := by decide +kernel
set_option maxRecDepth 65536 in
theorem w_named : about1.methodNamed? x = some theMethod := by decide +kernel
set_option maxRecDepth 65536 in
theorem w_hears : about1.hears theMethod below0 = true := by decide +kernel
set_option maxRecDepth 65536 in
theorem w_ripe : about1.ripe theMethod args0 below0 = true := by decide +kernel
theorem w_running : about1.status = .running := rfl
set_option maxRecDepth 65536 in
theorem w_room : about1.hasRoom e0.platform room_1 = true :=
  launch0.hasRoom_least _ room_1 (by decide +kernel) (by decide +kernel) (by decide +kernel) (by decide +kernel) (by decide +kernel) (by decide +kernel)
theorem allAtoms_all (ts : List Jvm.Cond) (a : Array Jvm.Value) (st : Jvm.State) : (allAtoms ts).before a st = ts.all (fun c => c.before a st) := by
  induction ts with
  | nil => rfl
  | cons c t ih =>
    show (Jvm.Cond.and c (allAtoms t)).before a st = _
    rw [Jvm.Cond.before_and, ih, List.all_cons]
def words1 : List Jvm.Cond := Jvm.Cond.code x code maxLocals ret :: tables_1
/-- a 'code' word, met by the world's own term for the bytes: nothing is compared byte by byte -/
theorem code_word {y : MethodName} {bytes : ByteArray} {mx : Nat} {rt : Option FieldType} {a : Array Value} {s : State} {m : MethodId} {meth : Method} {c : Code} (h1 : s.methodNamed? y = some m) (h2 : s.vm.method? m = some meth) (h3 : meth.code = some c) (h4 : c.code = bytes)
    (h5 : (c.maxLocals == mx && c.exceptionTable.isEmpty && decide (c.maxStack ≤ mostOperands) && decide (meth.sig.returnType = rt) && !meth.locks && decide (parseMethodDescriptor y.desc = some meth.sig)) = true) : (Jvm.Cond.code y bytes mx rt).before a s = true := by
  simp only [Bool.and_eq_true, beq_iff_eq, Bool.not_eq_true', decide_eq_true_eq] at h5
  obtain ⟨⟨⟨⟨⟨g1, g2⟩, g3⟩, g4⟩, g5⟩, g6⟩ := h5
  simp [Cond.before, Cond.holds, Cond.value, h1, h2, h3, h4, g1, g2, g3, g4, g5, g6]
def isCode : Jvm.Cond → Bool
  | .code _ _ _ _ => true
  | _ => false
theorem all_split {L : List Jvm.Cond} {P : Jvm.Cond → Bool} (h1 : L.all (fun c => isCode c || P c) = true) (h2 : ∀ c ∈ L.filter isCode, P c = true) : L.all P = true := by
  refine List.all_eq_true.mpr fun c hc => ?_
  have h := List.all_eq_true.mp h1 c hc
  rcases Bool.eq_false_or_eq_true (isCode c) with hi | hi
  · exact h2 c (List.mem_filter.mpr ⟨hc, hi⟩)
  · simpa [hi] using h
set_option maxRecDepth 65536 in
theorem w_c0 : (Jvm.Cond.code x code maxLocals ret).before args0 about1 = true := code_word (m := ⟨1, 1⟩) (meth := k1m1) (c := k1c1) (by decide +kernel) rfl rfl rfl (by decide +kernel)
set_option maxRecDepth 65536 in
theorem w_c1 : (Jvm.Cond.code ({ cls := "com/example/concordat/concordat/BranchStatus", name := "isFinal", desc := "()Z" } : Jvm.MethodName) prog_1_method_5_code (1 : Nat) (Option.some Jvm.ClassFile.FieldType.boolean)).before args0 about1 = true := code_word (m := ⟨6, 0⟩) (meth := k6m0) (c := k6c0) (by decide +kernel) rfl rfl rfl (by decide +kernel)
def codes1 : List Jvm.Cond := [Jvm.Cond.code x code maxLocals ret, Jvm.Cond.code ({ cls := "com/example/concordat/concordat/BranchStatus", name := "isFinal", desc := "()Z" } : Jvm.MethodName) prog_1_method_5_code (1 : Nat) (Option.some Jvm.ClassFile.FieldType.boolean)]
set_option maxRecDepth 65536 in
theorem codes_eq : words1.filter isCode = codes1 := rfl
theorem w_codes : ∀ c ∈ words1.filter isCode, c.before args0 about1 = true := by
  rw [codes_eq]
  intro c hc
  simp only [codes1, List.mem_cons, List.not_mem_nil, or_false] at hc
  rcases hc with rfl | rfl
  · exact w_c0
  · exact w_c1
set_option maxRecDepth 65536 in
theorem w_t1 : (words1.take 24).all (fun c => isCode c || c.before args0 about1) = true := by decide +kernel
set_option maxRecDepth 65536 in
theorem w_t2 : (words1.drop 24).all (fun c => isCode c || c.before args0 about1) = true := by decide +kernel
theorem w_tables : (allAtoms (Jvm.Cond.code x code maxLocals ret :: tables_1)).before args0 about1 = true := by
  rw [allAtoms_all]
  show words1.all (fun c => c.before args0 about1) = true
  refine all_split ?_ w_codes
  rw [← List.take_append_drop 24 words1, List.all_append, w_t1, w_t2]
  rfl
set_option maxRecDepth 65536 in
theorem w_case : (Jvm.Cond.and given_1 narrow_1).before args0 about1 = true := by decide +kernel
theorem w_applies : (headSpec (Jvm.Cond.code x code maxLocals ret :: tables_1) room_1).applies x e0.platform about1 = true :=
  (Spec.applies_iff w_frames).mpr ⟨w_running, w_runnable, w_alone, w_named, w_hears, w_ripe, w_room, w_tables⟩
theorem atStart : AtStart classFile x code maxLocals ret World_1 tables_1 room_1 Calls_1 rest_1 Pre_1 launch0 p0 e0 about1 theMethod args0 below0 :=
  ⟨lists_1, trivial, launch0.admits_env _ _ _, launch0.least_env, fairChoices_fair.cas, fairChoices_fair.clock, w_frames, w_args, w_heap, w_applies, trivial, trivial, w_case⟩
end start1
theorem witness_1 : WitnessClaimed_1 := ⟨start1.p0, start1.e0, start1.about1, start1.theMethod, start1.args0, start1.below0, start1.atStart⟩
end Jvm.Pilot.@@N@@
