import JvmDerived
import JvmDerived.Pilot.@@N@@Statement
import JvmDerived.Pilot.@@N@@Code
set_option linter.unusedVariables false
set_option linter.unusedSimpArgs false
namespace Jvm.Pilot.@@N@@
open Jvm Jvm.ClassFile Sem Op Lib Jvm.Free Jvm.Stand Jvm.LawKit Jvm.RoadKit Bundle Jvm.Pilot.@@N@@.Jvm.D
section Own
variable {p : Program} {l : Launch} {e : Env} {R : Room} {s : State} {m : MethodId} {args : Array Value} {below : List Frame} {meth : Method} {c : Code} {T : State} {locs : List Loc} {cells slots cl sl : Nat} {Q : Option Value → Heap → List Loc → Prop}
/-- from the state S the invocation comes to its end, returns, and Q holds of what it returned and left -/
def Goes (p : Program) (e : Env) (below : List Frame) (s : State) (cl sl : Nat) (Q : Option Value → Heap → List Loc → Prop) (S : State) : Prop :=
  ∃ s₂ o, Steps p.tables e below S s₂ ∧ s₂.status = .running ∧ Ended s₂ below o ∧ ∃ v L, o = .returned v ∧ Q v s₂.heap L ∧ FrameEnd s o s₂ L cl sl
theorem Goes.step {S S' : State} (h : ∀ t, Steps p.tables e below S' t → Steps p.tables e below S t) (k : Goes p e below s cl sl Q S') : Goes p e below s cl sl Q S := by
  obtain ⟨s₂, o, a, b⟩ := k
  exact ⟨s₂, o, h _ a, b⟩
theorem Goes.back {S S' : State} (h : Steps p.tables e below S S') (k : Goes p e below s cl sl Q S') : Goes p e below s cl sl Q S := Goes.step (fun _ q => h.trans q) k
theorem Goes.ret (X : Stand p l e R s m args below meth c T locs cells slots) (hx : p.tables.exec = Jvm.exec) (hlk : meth.locks = false) {pc : Nat} {Ls : Array Slot} {w : Value} {t : FieldType} {i : Instr} {rest : List Value} (hret : meth.sig.returnType = some t) (hn : narrow t w = w)
    (hi : (i = .ireturn ∧ (t = .int ∨ t = .boolean ∨ t = .byte ∨ t = .char ∨ t = .short) ∧ ∃ z, w = .int z) ∨ (i = .lreturn ∧ t = .long ∧ ∃ z, w = .long z) ∨ (i = .dreturn ∧ t = .double ∧ ∃ z, w = .double z) ∨ (i = .freturn ∧ t = .float ∧ ∃ z, w = .float z) ∨ (i = .areturn ∧ t.isReference = true ∧ w.isRef = true))
    (hd : decode c.code pc = .ok (i, 1)) (hQ : Q (some w) T.heap locs) (hc : cells ≤ cl) (hs : slots ≤ sl) : Goes p e below s cl sl Q (T.setTop (mkF m pc Ls (w :: rest))) := by
  obtain ⟨fs, hr, hrun, hended, hW, hsame⟩ := X.leave (v := some w) (fun h => by rw [hret] at h; cases h) hlk
  exact ⟨_, _, retOut X hx hret hn hi hd hr, hrun, hended, _, _, rfl, hQ, ⟨_, rfl⟩, hW, hsame.mono hc hs⟩
theorem Goes.retV (X : Stand p l e R s m args below meth c T locs cells slots) (hx : p.tables.exec = Jvm.exec) (hlk : meth.locks = false) {pc : Nat} {Ls : Array Slot} (hret : meth.sig.returnType = none)
    (hd : decode c.code pc = .ok (.return_, 1)) (hQ : Q none T.heap locs) (hc : cells ≤ cl) (hs : slots ≤ sl) : Goes p e below s cl sl Q (T.setTop (mkF m pc Ls [])) := by
  obtain ⟨fs, hr, hrun, hended, hW, hsame⟩ := X.leave (v := none) (fun _ => rfl) hlk
  exact ⟨_, _, X.returnOut hx hret hd hr, hrun, hended, _, _, rfl, hQ, ⟨_, rfl⟩, hW, hsame.mono hc hs⟩
theorem own_eqInt {args : Array Value} {s : State} {t : Term} {k : Int32} (h : (Cond.eq t (.int k)).value args s none s [] = some true) : t.eval args s none [] s = some (.int k) := by
  obtain ⟨x, y, hx, hy, -, k2⟩ := cmp_v (Or.inl h)
  obtain rfl : y = .int k := (Option.some.inj hy).symm
  obtain ⟨z, rfl⟩ := k2
  have e : (Cond.eq t (.int k)).value args s none s [] = some (decide (z = k)) := by simp [Cond.value, hx, hy]
  rw [hx, gotT e h]
theorem own_eqLong {args : Array Value} {s : State} {t : Term} {k : Int64} (h : (Cond.eq t (.long k)).value args s none s [] = some true) : t.eval args s none [] s = some (.long k) := by
  obtain ⟨x, y, hx, hy, -, k2⟩ := cmp_v (Or.inl h)
  obtain rfl : y = .long k := (Option.some.inj hy).symm
  obtain ⟨z, rfl⟩ := k2
  rw [hx, gotT (eq_L hx hy) h]
theorem own_neFld {Z : State} {h : Heap} {a b : Addr} {C n d : String} {x y : Int32} (F : Fld Z h a C n d (.int x)) (G : Fld Z h b C n d (.int y)) (q : x ≠ y) : a ≠ b := fun e => by
  subst e
  obtain ⟨cell, cf, k, i, f, h1, h2, -, -, -, -, h7⟩ := F
  obtain ⟨cell', cf', k', i', f', g1, g2, -, -, -, -, g7⟩ := G
  cases h1.symm.trans g1
  cases h2.symm.trans g2
  rw [h7] at g7
  injection g7 with g8
  injection g8 with g9
  exact q g9
theorem own_miss1 {k : Int32} {a : Int} (b : Int32) (hb : b.toInt = a) (h : ¬ k = b) : a ≠ k.toInt := fun q => h (Int32.toInt_inj.mp (by rw [hb, q]))
theorem own_find3 {k : Int32} {a b c' o1 o2 o3 : Int} {a' b' d' : Int32} (ha : ¬ k = a') (hb : ¬ k = b') (hc : ¬ k = d') (ea : a'.toInt = a := by rfl) (eb : b'.toInt = b := by rfl) (ec : d'.toInt = c' := by rfl) : (#[(a, o1), (b, o2), (c', o3)] : Array (Int × Int)).find? (·.1 == k.toInt) = none :=
  find_miss fun p hp => by
    simp only [List.mem_cons, List.not_mem_nil, or_false] at hp
    rcases hp with rfl | rfl | rfl
    · exact own_miss1 _ ea ha
    · exact own_miss1 _ eb hb
    · exact own_miss1 _ ec hc
theorem own_insKeep {Z : State} {h h' : Heap} {a : Addr} {C : String} {b : Bool} {ws : List Addr} (F : Ins Z h a C b) (K : Keep h h' ws) : Ins Z h' a C b := by
  obtain ⟨cell, cT, h1, h2, h3⟩ := F
  obtain ⟨c', q, r1, r2, r3⟩ := K.2.2 a cell h1
  exact ⟨c', cT, q, h2, by rw [r1, r2]; exact h3⟩
theorem own_insLt {Z : State} {h : Heap} {a : Addr} {C : String} {b : Bool} (F : Ins Z h a C b) : a < h.size := by
  obtain ⟨cell, cT, h1, -⟩ := F
  exact (Array.getElem?_eq_some_iff.mp h1).1
theorem own_cat {v : Value} (h : v.isRef = true) : v.category = 1 := by cases v <;> first | rfl | (simp [Value.isRef] at h)
theorem own_nar {ty : FieldType} {v : Value} (h : v.isRef = true) : narrow ty v = v := by cases v <;> first | (simp [Value.isRef] at h; done) | (cases ty <;> rfl)
theorem own_fit {C : String} {v : Value} (h : v.isRef = true) : fits (.object C) v = true := by cases v <;> first | rfl | (simp [Value.isRef] at h)
/-- a private method is selected by its own type, which is no interface since another method of it is selected -/
theorem own_selPriv {s : State} {args : Array Value} {C : String} {x z y : MethodName} (w : (Cond.selects C x z).before args s = true) (hc : z.cls = y.cls) (hp : (Cond.privateMethod y).before args s = true) (hi : (Cond.instanceMethod y).before args s = true)
    (hy : y.cls ≠ "java/lang/invoke/MethodHandle" ∧ y.cls ≠ "java/lang/invoke/VarHandle") : (Cond.selects y.cls y y).before args s = true := by
  obtain ⟨c2, r2, m2, -, -, q3, -, kP, hkP, hkPi⟩ := Cond.selects_spec w
  have hf := findClass_of_methodNamed q3
  rw [hc] at hf
  exact selects_self_of_private hf hkP hkPi (Cond.privateMethod_at hp) hi hy
/-- an array whose contents aren't told -/
def Arx (Z : State) (h : Heap) (a : Addr) (k : ClassId) (ty : FieldType) (n : Int32) : Prop :=
  ∃ cl : Cell, Arr Z h a cl ty ∧ cl.cls = k ∧ cl.slots.size = n.toNatClampNeg ∧ ¬ n < 0 ∧ ∀ i, i < cl.slots.size → ∃ v, cl.slots[i]? = some v ∧ fits ty v = true
theorem Arx.lt {Z : State} {h : Heap} {a : Addr} {k : ClassId} {ty : FieldType} {n : Int32} (F : Arx Z h a k ty n) : a < h.size := by obtain ⟨cl, A, -⟩ := F; exact A.lt
theorem Arx.ext {Z : State} {h h' : Heap} {a : Addr} {k : ClassId} {ty : FieldType} {n : Int32} (F : Arx Z h a k ty n) (E : Ext h h') : Arx Z h' a k ty n := by obtain ⟨cl, A, r⟩ := F; exact ⟨cl, A.ext E, r⟩
theorem Arx.other {Z : State} {h h' : Heap} {a b : Addr} {k : ClassId} {ty : FieldType} {n : Int32} {sl : Nat} {v : Value} (F : Arx Z h b k ty n) (W : Wr h h' a sl v) (q : b ≠ a) : Arx Z h' b k ty n := by obtain ⟨cl, A, r⟩ := F; exact ⟨cl, A.other W q, r⟩
theorem Arx.keep {Z : State} {h h' : Heap} {a : Addr} {k : ClassId} {ty : FieldType} {n : Int32} {ws : List Addr} (F : Arx Z h a k ty n) (K : Keep h h' ws) (q : a ∉ ws) : Arx Z h' a k ty n := by obtain ⟨cl, A, r⟩ := F; exact ⟨cl, ⟨K.2.1 a cl A.1 q, A.2⟩, r⟩
theorem Arx.set {Z : State} {h h' : Heap} {a : Addr} {k : ClassId} {ty : FieldType} {n : Int32} {cl : Cell} {sl : Nat} {v : Value} (A : Arr Z h a cl ty) (q1 : cl.cls = k) (S : cl.slots.size = n.toNatClampNeg) (P : ¬ n < 0) (G : ∀ i, i < cl.slots.size → ∃ v, cl.slots[i]? = some v ∧ fits ty v = true) (hv : fits ty v = true) (W : Wr h h' a sl v) : Arx Z h' a k ty n := by
  refine ⟨_, A.same W, q1, by rw [sz_set]; exact S, P, fun i hi => ?_⟩
  rw [sz_set] at hi
  by_cases u : sl = i
  · subst u
    exact ⟨v, by simp [Cell.setSlot, hi], hv⟩
  · obtain ⟨w, e1, e2⟩ := G i hi
    refine ⟨w, ?_, e2⟩
    show (cl.slots.setIfInBounds sl v)[i]? = some w
    rw [Array.getElem?_setIfInBounds_ne u]
    exact e1
theorem own_arx {Z : State} {h : Heap} {a : Addr} {k : ClassId} {ty : FieldType} {n : Int32} {vs : List Value} {d : Value} (F : Arv Z h a k ty n vs d) : Arx Z h a k ty n := by
  obtain ⟨cl, A, r1, r2, r3, H, G⟩ := F
  exact ⟨cl, A, r1, r2, r3, fun i hi => ⟨_, H i hi, G i hi⟩⟩
theorem own_arI {cl : Cell} {j : Int32} (G : ∀ i, i < cl.slots.size → ∃ v, cl.slots[i]? = some v ∧ fits .int v = true) (hin : ¬ (j < 0 ∨ cl.slots.size ≤ j.toNatClampNeg)) : ∃ x : Int32, cl.slots[j.toNatClampNeg]? = some (.int x) := by
  obtain ⟨v, e1, e2⟩ := G _ (Nat.lt_of_not_le fun q => hin (Or.inr q))
  obtain ⟨x, rfl⟩ := fit_I e2 (Or.inl rfl)
  exact ⟨x, e1⟩
theorem own_arD {cl : Cell} {j : Int32} (G : ∀ i, i < cl.slots.size → ∃ v, cl.slots[i]? = some v ∧ fits .double v = true) (hin : ¬ (j < 0 ∨ cl.slots.size ≤ j.toNatClampNeg)) : ∃ x, cl.slots[j.toNatClampNeg]? = some (.double x) := by
  obtain ⟨v, e1, e2⟩ := G _ (Nat.lt_of_not_le fun q => hin (Or.inr q))
  obtain ⟨x, rfl⟩ := fit_D e2
  exact ⟨x, e1⟩
end Own
theorem own_arx0 {s : State} {args : Array Value} {t : Term} {a : Addr} {cl : Cell} {ty : FieldType} {n : Int32} (hfit : Fit s) (et : t.eval args s none [] s = some (.ref a)) (A : Arr s s.heap a cl ty) (hl : (Term.length t).eval args s none [] s = some (.int n)) (hn : ¬ n < 0) : Arx s s.heap a cl.cls ty n := by
  obtain ⟨x, c2, e1, e2, e4, e3⟩ := Jvm.Free.SB.Term.length_small hl
  cases et.symm.trans e1
  cases (A.fin (Vm.Alike.refl _)).symm.trans e2
  injection e4 with e5
  have hs : cl.slots.size = n.toNatClampNeg := by
    rw [e5]
    simp only [Int32.toNatClampNeg, len_toInt e3]
    rfl
  refine ⟨cl, A, rfl, hs, hn, fun i hi => ?_⟩
  have hq : ¬ (i.toInt32 < 0 ∨ cl.slots.size ≤ i.toInt32.toNatClampNeg) := idx_in hi e3
  obtain ⟨v, r1, r2⟩ := elem_fit hfit A hq
  refine ⟨v, ?_, r2⟩
  have hi2 : i.toInt32.toNatClampNeg = i := by simp only [Int32.toNatClampNeg, len_toInt (Nat.lt_trans hi e3)]; rfl
  rw [hi2] at r1
  exact r1
theorem d4_0 : decode jdk_37_method_2_code 0 = .ok (.aload_n 0, 1) := by decide +kernel
theorem d4_1 : decode jdk_37_method_2_code 1 = .ok (.getfield 7, 3) := by decide +kernel
theorem d4_4 : decode jdk_37_method_2_code 4 = .ok (.ireturn, 1) := by decide +kernel
theorem pn_4 : plainName "java/lang/Enum" = true := by first | (simp [plainName, overriddenIn]; done) | decide +kernel
theorem ef_4 (m : MethodId) (x0 : Addr) (f0_ordinal : Int32)  : entryFrame m #[(.ref x0)] 1 = mkF m 0 #[.val (.ref x0)] [] := by first | (simp [entryFrame, mkF, argsToLocals, Value.category]; done) | rfl
def Q4 (Z : State) (x0 : Addr) (f0_ordinal : Int32) (h0 : Heap) (n0 : Nat) (v : Option Value) (h : Heap) (L : List Loc) : Prop := Fr n0 L ∧ h = h0 ∧ ((v = some (.int f0_ordinal)))
set_option maxRecDepth 65536 in
set_option maxHeartbeats 40000000 in
theorem rm4 (l : Launch) (Z : State) (a0 : Array Value) (hw : ∀ d ∈ tables_1, d.before a0 Z = true) (ws : List Jvm.Cond) (x0 : Addr) (f0_ordinal : Int32) (h0 : Heap) (n0 : Nat) (Z0 : n0 ≤ h0.size) (F0_ordinal : Fld Z h0 x0 "java/lang/Enum" "ordinal" "I" (.int f0_ordinal)) :
    MetFree l (⟨"java/lang/Enum", "ordinal", "()I"⟩ : MethodName) (head1 (Jvm.Cond.code (⟨"java/lang/Enum", "ordinal", "()I"⟩ : MethodName) jdk_37_method_2_code 1 (some .int) :: ws) ({ frames := 0, cells := 0, slots := 0, locals := 0 } : Room)) (fun a U => a = #[(.ref x0)] ∧ Z.Warmed39 U.vm ∧ U.heap = h0) (fun _ _ _ _ _ => True) (fun _ U o U' => ∃ v L, o = .returned v ∧ Q4 Z x0 f0_ordinal h0 n0 v U'.heap L ∧ FrameEnd U o U' L ({ frames := 0, cells := 0, slots := 0, locals := 0 } : Room).cells ({ frames := 0, cells := 0, slots := 0, locals := 0 } : Room).slots) := by
  refine MetFree.of_bodySF (plainFor_of_name pn_4) hisR ?_
  intro p e s m args below meth c s₁ Bd hml0 hP hK
  obtain ⟨rfl, hZ, hh⟩ := hP
  have hx := Bd.exec
  have hby := Bd.bytes
  have hml : c.maxLocals = 1 := hml0
  have hown : s.vm.findClass "java/lang/Enum" = some m.cls := findClass_of_methodNamed Bd.named
  have hnm := (name_of_methodNamed Bd.named Bd.method).1
  have X0 : Stand p l e ({ frames := 0, cells := 0, slots := 0, locals := 0 } : Room) s m #[(.ref x0)] below meth c s₁ [] 0 0 := Stand.of_body Bd
  have e0 : s₁.heap = h0 := by rw [← hh, Bd.state]; rfl
  have N0 := Fr.nil n0
  have K0 : Keep h0 h0 [] := Keep.refl h0 _
  refine (?_ : Goes p e below s ({ frames := 0, cells := 0, slots := 0, locals := 0 } : Room).cells ({ frames := 0, cells := 0, slots := 0, locals := 0 } : Room).slots (fun v h L => Q4 Z x0 f0_ordinal h0 n0 v h L) (s₁.setTop (entryFrame m #[(.ref x0)] 1)))
  rw [ef_4 m x0 f0_ordinal ]
  show Goes _ _ _ _ _ _ _ (s₁.setTop (mkF m 0 #[.val (.ref x0)] []))
  refine Goes.step (fun _ k => XS.aloadN X0.here hx rfl (hb hby d4_0) rfl rfl k) ?_
  show Goes _ _ _ _ _ _ _ (s₁.setTop (mkF m 1 #[.val (.ref x0)] [(.ref x0)]))
  obtain ⟨T1, X1, e1, st1⟩ := getF X0 hx hZ hown (host := "") (Or.inl (hw _ (List.mem_of_getElem? (i := 36) rfl))) Via.refl e0 F0_ordinal (g := (mkF m 1 #[.val (.ref x0)] [(.ref x0)])) rfl rfl (hb hby d4_1)
  refine Goes.step st1 ?_
  show Goes _ _ _ _ _ _ _ (T1.setTop (mkF m 4 #[.val (.ref x0)] [(.int f0_ordinal)]))
  exact Goes.ret X1 hx (BodyLoose.notSynchronized Bd) Bd.returns rfl (Or.inl ⟨rfl, by simp, _, rfl⟩) (hb hby d4_4) (by show Q4 Z x0 f0_ordinal h0 n0 (some (.int f0_ordinal)) T1.heap _; rw [e1]; exact ⟨N0, rfl, rfl⟩) (by decide) (by decide)
theorem d1_0 : decode method_2_code 0 = .ok (.iload_n 0, 1) := by decide +kernel
theorem d1_1 : decode method_2_code 1 = .ok (.ifCond .ne 7, 3) := by decide +kernel
theorem d1_4 : decode method_2_code 4 = .ok (.getstatic 7, 3) := by decide +kernel
theorem d1_7 : decode method_2_code 7 = .ok (.areturn, 1) := by decide +kernel
theorem d1_8 : decode method_2_code 8 = .ok (.iload_n 0, 1) := by decide +kernel
theorem d1_9 : decode method_2_code 9 = .ok (.iconst 1, 1) := by decide +kernel
theorem d1_10 : decode method_2_code 10 = .ok (.if_icmp .ne 7, 3) := by decide +kernel
theorem d1_13 : decode method_2_code 13 = .ok (.getstatic 13, 3) := by decide +kernel
theorem d1_16 : decode method_2_code 16 = .ok (.areturn, 1) := by decide +kernel
theorem d1_17 : decode method_2_code 17 = .ok (.iload_n 0, 1) := by decide +kernel
theorem d1_18 : decode method_2_code 18 = .ok (.iconst 2, 1) := by decide +kernel
theorem d1_19 : decode method_2_code 19 = .ok (.if_icmp .ne 7, 3) := by decide +kernel
theorem d1_22 : decode method_2_code 22 = .ok (.getstatic 16, 3) := by decide +kernel
theorem d1_25 : decode method_2_code 25 = .ok (.areturn, 1) := by decide +kernel
theorem d1_26 : decode method_2_code 26 = .ok (.iload_n 0, 1) := by decide +kernel
theorem d1_27 : decode method_2_code 27 = .ok (.iconst 3, 1) := by decide +kernel
theorem d1_28 : decode method_2_code 28 = .ok (.if_icmp .ne 7, 3) := by decide +kernel
theorem d1_31 : decode method_2_code 31 = .ok (.getstatic 19, 3) := by decide +kernel
theorem d1_34 : decode method_2_code 34 = .ok (.areturn, 1) := by decide +kernel
theorem d1_35 : decode method_2_code 35 = .ok (.iload_n 0, 1) := by decide +kernel
theorem d1_36 : decode method_2_code 36 = .ok (.iconst 4, 1) := by decide +kernel
theorem d1_37 : decode method_2_code 37 = .ok (.if_icmp .ne 7, 3) := by decide +kernel
theorem d1_40 : decode method_2_code 40 = .ok (.getstatic 22, 3) := by decide +kernel
theorem d1_43 : decode method_2_code 43 = .ok (.areturn, 1) := by decide +kernel
theorem d1_44 : decode method_2_code 44 = .ok (.iload_n 0, 1) := by decide +kernel
theorem d1_45 : decode method_2_code 45 = .ok (.iconst 5, 1) := by decide +kernel
theorem d1_46 : decode method_2_code 46 = .ok (.if_icmp .ne 7, 3) := by decide +kernel
theorem d1_49 : decode method_2_code 49 = .ok (.getstatic 25, 3) := by decide +kernel
theorem d1_52 : decode method_2_code 52 = .ok (.areturn, 1) := by decide +kernel
theorem d1_53 : decode method_2_code 53 = .ok (.getstatic 28, 3) := by decide +kernel
theorem d1_56 : decode method_2_code 56 = .ok (.areturn, 1) := by decide +kernel
theorem pn_1 : plainName "com/example/concordat/concordat/TransactionStatusIsFinalPinLaw" = true := by first | (simp [plainName, overriddenIn]; done) | decide +kernel
theorem ef_1 (m : MethodId) (x0 : Int32) (y_ACTIVE : Addr) (y_COMMITTED : Addr) (y_ROLLED_BACK : Addr) (y_ROLLING_BACK : Addr) (y_RUNNING : Addr) (y_COMPENSATING : Addr) (y_COMMITTING : Addr)  : entryFrame m #[(.int x0)] 1 = mkF m 0 #[.val (.int x0)] [] := by first | (simp [entryFrame, mkF, argsToLocals, Value.category]; done) | rfl
def Q1 (Z : State) (x0 : Int32) (y_ACTIVE : Addr) (y_COMMITTED : Addr) (y_ROLLED_BACK : Addr) (y_ROLLING_BACK : Addr) (y_RUNNING : Addr) (y_COMPENSATING : Addr) (y_COMMITTING : Addr) (h0 : Heap) (n0 : Nat) (v : Option Value) (h : Heap) (L : List Loc) : Prop := Fr n0 L ∧ h = h0 ∧ ((v = some (.ref y_ACTIVE) ∧ x0 = (0 : Int32)) ∨ (v = some (.ref y_COMMITTING) ∧ ¬ (x0 = (0 : Int32)) ∧ x0 = (1 : Int32)) ∨ (v = some (.ref y_COMMITTED) ∧ ¬ (x0 = (0 : Int32)) ∧ ¬ (x0 = (1 : Int32)) ∧ x0 = (2 : Int32)) ∨ (v = some (.ref y_ROLLING_BACK) ∧ ¬ (x0 = (0 : Int32)) ∧ ¬ (x0 = (1 : Int32)) ∧ ¬ (x0 = (2 : Int32)) ∧ x0 = (3 : Int32)) ∨ (v = some (.ref y_ROLLED_BACK) ∧ ¬ (x0 = (0 : Int32)) ∧ ¬ (x0 = (1 : Int32)) ∧ ¬ (x0 = (2 : Int32)) ∧ ¬ (x0 = (3 : Int32)) ∧ x0 = (4 : Int32)) ∨ (v = some (.ref y_RUNNING) ∧ ¬ (x0 = (0 : Int32)) ∧ ¬ (x0 = (1 : Int32)) ∧ ¬ (x0 = (2 : Int32)) ∧ ¬ (x0 = (3 : Int32)) ∧ ¬ (x0 = (4 : Int32)) ∧ x0 = (5 : Int32)) ∨ (v = some (.ref y_COMPENSATING) ∧ ¬ (x0 = (0 : Int32)) ∧ ¬ (x0 = (1 : Int32)) ∧ ¬ (x0 = (2 : Int32)) ∧ ¬ (x0 = (3 : Int32)) ∧ ¬ (x0 = (4 : Int32)) ∧ ¬ (x0 = (5 : Int32))))
set_option maxRecDepth 65536 in
set_option maxHeartbeats 40000000 in
theorem rm1 (l : Launch) (Z : State) (a0 : Array Value) (hw : ∀ d ∈ tables_1, d.before a0 Z = true) (ws : List Jvm.Cond) (x0 : Int32) (y_ACTIVE : Addr) (y_COMMITTED : Addr) (y_ROLLED_BACK : Addr) (y_ROLLING_BACK : Addr) (y_RUNNING : Addr) (y_COMPENSATING : Addr) (y_COMMITTING : Addr) (h0 : Heap) (n0 : Nat) (Z0 : n0 ≤ h0.size) (S_ACTIVE : Sta Z Z.heap "com/example/concordat/concordat/TransactionStatus" "ACTIVE" "Lcom/example/concordat/concordat/TransactionStatus;" (.ref y_ACTIVE)) (S_COMMITTED : Sta Z Z.heap "com/example/concordat/concordat/TransactionStatus" "COMMITTED" "Lcom/example/concordat/concordat/TransactionStatus;" (.ref y_COMMITTED)) (S_ROLLED_BACK : Sta Z Z.heap "com/example/concordat/concordat/TransactionStatus" "ROLLED_BACK" "Lcom/example/concordat/concordat/TransactionStatus;" (.ref y_ROLLED_BACK)) (S_ROLLING_BACK : Sta Z Z.heap "com/example/concordat/concordat/TransactionStatus" "ROLLING_BACK" "Lcom/example/concordat/concordat/TransactionStatus;" (.ref y_ROLLING_BACK)) (S_RUNNING : Sta Z Z.heap "com/example/concordat/concordat/TransactionStatus" "RUNNING" "Lcom/example/concordat/concordat/TransactionStatus;" (.ref y_RUNNING)) (S_COMPENSATING : Sta Z Z.heap "com/example/concordat/concordat/TransactionStatus" "COMPENSATING" "Lcom/example/concordat/concordat/TransactionStatus;" (.ref y_COMPENSATING)) (S_COMMITTING : Sta Z Z.heap "com/example/concordat/concordat/TransactionStatus" "COMMITTING" "Lcom/example/concordat/concordat/TransactionStatus;" (.ref y_COMMITTING)) (X00 : Old Z n0 h0) :
    MetFree l (⟨"com/example/concordat/concordat/TransactionStatusIsFinalPinLaw", "pick", "(I)Lcom/example/concordat/concordat/TransactionStatus;"⟩ : MethodName) (head1 (Jvm.Cond.code (⟨"com/example/concordat/concordat/TransactionStatusIsFinalPinLaw", "pick", "(I)Lcom/example/concordat/concordat/TransactionStatus;"⟩ : MethodName) method_2_code 1 (some (.object "com/example/concordat/concordat/TransactionStatus")) :: ws) ({ frames := 0, cells := 0, slots := 0, locals := 0 } : Room)) (fun a U => a = #[(.int x0)] ∧ Z.Warmed39 U.vm ∧ U.heap = h0) (fun _ _ _ _ _ => True) (fun _ U o U' => ∃ v L, o = .returned v ∧ Q1 Z x0 y_ACTIVE y_COMMITTED y_ROLLED_BACK y_ROLLING_BACK y_RUNNING y_COMPENSATING y_COMMITTING h0 n0 v U'.heap L ∧ FrameEnd U o U' L ({ frames := 0, cells := 0, slots := 0, locals := 0 } : Room).cells ({ frames := 0, cells := 0, slots := 0, locals := 0 } : Room).slots) := by
  refine MetFree.of_bodySF (plainFor_of_name pn_1) hisR ?_
  intro p e s m args below meth c s₁ Bd hml0 hP hK
  obtain ⟨rfl, hZ, hh⟩ := hP
  have hx := Bd.exec
  have hby := Bd.bytes
  have hml : c.maxLocals = 1 := hml0
  have hown : s.vm.findClass "com/example/concordat/concordat/TransactionStatusIsFinalPinLaw" = some m.cls := findClass_of_methodNamed Bd.named
  have hnm := (name_of_methodNamed Bd.named Bd.method).1
  have X0 : Stand p l e ({ frames := 0, cells := 0, slots := 0, locals := 0 } : Room) s m #[(.int x0)] below meth c s₁ [] 0 0 := Stand.of_body Bd
  have e0 : s₁.heap = h0 := by rw [← hh, Bd.state]; rfl
  have N0 := Fr.nil n0
  have K0 : Keep h0 h0 [] := Keep.refl h0 _
  refine (?_ : Goes p e below s ({ frames := 0, cells := 0, slots := 0, locals := 0 } : Room).cells ({ frames := 0, cells := 0, slots := 0, locals := 0 } : Room).slots (fun v h L => Q1 Z x0 y_ACTIVE y_COMMITTED y_ROLLED_BACK y_ROLLING_BACK y_RUNNING y_COMPENSATING y_COMMITTING h0 n0 v h L) (s₁.setTop (entryFrame m #[(.int x0)] 1)))
  rw [ef_1 m x0 y_ACTIVE y_COMMITTED y_ROLLED_BACK y_ROLLING_BACK y_RUNNING y_COMPENSATING y_COMMITTING ]
  show Goes _ _ _ _ _ _ _ (s₁.setTop (mkF m 0 #[.val (.int x0)] []))
  refine Goes.step (fun _ k => XS.iloadN X0.here hx rfl (hb hby d1_0) rfl  k) ?_
  show Goes _ _ _ _ _ _ _ (s₁.setTop (mkF m 1 #[.val (.int x0)] [(.int x0)]))
  by_cases c1_1 : x0 = (0 : Int32)
  · refine Goes.step (fun _ k => XS.ifNo X0.here hx rfl (hb hby d1_1) rfl ((if0 _ _).trans (teq c1_1).2) k) ?_
    show Goes _ _ _ _ _ _ _ (s₁.setTop (mkF m 4 #[.val (.int x0)] []))
    obtain ⟨T2, X2, e2, st2⟩ := getS2 X0 hx hZ hown (host := "") (Or.inl (hw _ (List.mem_of_getElem? (i := 5) rfl))) Via.refl e0 (S_ACTIVE.ext X00.2) (g := (mkF m 4 #[.val (.int x0)] [])) rfl (hb hby d1_4)
    refine Goes.step st2 ?_
    show Goes _ _ _ _ _ _ _ (T2.setTop (mkF m 7 #[.val (.int x0)] [(.ref y_ACTIVE)]))
    exact Goes.ret X2 hx (BodyLoose.notSynchronized Bd) Bd.returns rfl (Or.inr (Or.inr (Or.inr (Or.inr ⟨rfl, rfl, rfl⟩)))) (hb hby d1_7) (by show Q1 Z x0 y_ACTIVE y_COMMITTED y_ROLLED_BACK y_ROLLING_BACK y_RUNNING y_COMPENSATING y_COMMITTING h0 n0 (some (.ref y_ACTIVE)) T2.heap _; rw [e2]; exact ⟨N0, rfl, Or.inl (⟨rfl, c1_1⟩)⟩) (by decide) (by decide)
  · refine Goes.step (fun _ k => XS.ifYes X0.here hx rfl (pc0 := 1) (pc' := 8) rfl (hb hby d1_1) rfl ((if0 _ _).trans (feq c1_1).2) (by decide) (by decide) k) ?_
    show Goes _ _ _ _ _ _ _ (s₁.setTop (mkF m 8 #[.val (.int x0)] []))
    refine Goes.step (fun _ k => XS.iloadN X0.here hx rfl (hb hby d1_8) rfl  k) ?_
    show Goes _ _ _ _ _ _ _ (s₁.setTop (mkF m 9 #[.val (.int x0)] [(.int x0)]))
    refine Goes.step (fun _ k => XS.iconst X0.here hx rfl (hb hby d1_9) k) ?_
    show Goes _ _ _ _ _ _ _ (s₁.setTop (mkF m 10 #[.val (.int x0)] [(.int (1 : Int32)), (.int x0)]))
    by_cases c10_3 : x0 = (1 : Int32)
    · refine Goes.step (fun _ k => XS.icmpNo X0.here hx rfl (hb hby d1_10) rfl (teq c10_3).2 k) ?_
      show Goes _ _ _ _ _ _ _ (s₁.setTop (mkF m 13 #[.val (.int x0)] []))
      obtain ⟨T4, X4, e4, st4⟩ := getS2 X0 hx hZ hown (host := "") (Or.inl (hw _ (List.mem_of_getElem? (i := 39) rfl))) Via.refl e0 (S_COMMITTING.ext X00.2) (g := (mkF m 13 #[.val (.int x0)] [])) rfl (hb hby d1_13)
      refine Goes.step st4 ?_
      show Goes _ _ _ _ _ _ _ (T4.setTop (mkF m 16 #[.val (.int x0)] [(.ref y_COMMITTING)]))
      exact Goes.ret X4 hx (BodyLoose.notSynchronized Bd) Bd.returns rfl (Or.inr (Or.inr (Or.inr (Or.inr ⟨rfl, rfl, rfl⟩)))) (hb hby d1_16) (by show Q1 Z x0 y_ACTIVE y_COMMITTED y_ROLLED_BACK y_ROLLING_BACK y_RUNNING y_COMPENSATING y_COMMITTING h0 n0 (some (.ref y_COMMITTING)) T4.heap _; rw [e4]; exact ⟨N0, rfl, Or.inr (Or.inl (⟨rfl, c1_1, c10_3⟩))⟩) (by decide) (by decide)
    · refine Goes.step (fun _ k => XS.icmpYes X0.here hx rfl (pc0 := 10) (pc' := 17) rfl (hb hby d1_10) rfl (feq c10_3).2 (by decide) (by decide) k) ?_
      show Goes _ _ _ _ _ _ _ (s₁.setTop (mkF m 17 #[.val (.int x0)] []))
      refine Goes.step (fun _ k => XS.iloadN X0.here hx rfl (hb hby d1_17) rfl  k) ?_
      show Goes _ _ _ _ _ _ _ (s₁.setTop (mkF m 18 #[.val (.int x0)] [(.int x0)]))
      refine Goes.step (fun _ k => XS.iconst X0.here hx rfl (hb hby d1_18) k) ?_
      show Goes _ _ _ _ _ _ _ (s₁.setTop (mkF m 19 #[.val (.int x0)] [(.int (2 : Int32)), (.int x0)]))
      by_cases c19_5 : x0 = (2 : Int32)
      · refine Goes.step (fun _ k => XS.icmpNo X0.here hx rfl (hb hby d1_19) rfl (teq c19_5).2 k) ?_
        show Goes _ _ _ _ _ _ _ (s₁.setTop (mkF m 22 #[.val (.int x0)] []))
        obtain ⟨T6, X6, e6, st6⟩ := getS2 X0 hx hZ hown (host := "") (Or.inl (hw _ (List.mem_of_getElem? (i := 38) rfl))) Via.refl e0 (S_COMMITTED.ext X00.2) (g := (mkF m 22 #[.val (.int x0)] [])) rfl (hb hby d1_22)
        refine Goes.step st6 ?_
        show Goes _ _ _ _ _ _ _ (T6.setTop (mkF m 25 #[.val (.int x0)] [(.ref y_COMMITTED)]))
        exact Goes.ret X6 hx (BodyLoose.notSynchronized Bd) Bd.returns rfl (Or.inr (Or.inr (Or.inr (Or.inr ⟨rfl, rfl, rfl⟩)))) (hb hby d1_25) (by show Q1 Z x0 y_ACTIVE y_COMMITTED y_ROLLED_BACK y_ROLLING_BACK y_RUNNING y_COMPENSATING y_COMMITTING h0 n0 (some (.ref y_COMMITTED)) T6.heap _; rw [e6]; exact ⟨N0, rfl, Or.inr (Or.inr (Or.inl (⟨rfl, c1_1, c10_3, c19_5⟩)))⟩) (by decide) (by decide)
      · refine Goes.step (fun _ k => XS.icmpYes X0.here hx rfl (pc0 := 19) (pc' := 26) rfl (hb hby d1_19) rfl (feq c19_5).2 (by decide) (by decide) k) ?_
        show Goes _ _ _ _ _ _ _ (s₁.setTop (mkF m 26 #[.val (.int x0)] []))
        refine Goes.step (fun _ k => XS.iloadN X0.here hx rfl (hb hby d1_26) rfl  k) ?_
        show Goes _ _ _ _ _ _ _ (s₁.setTop (mkF m 27 #[.val (.int x0)] [(.int x0)]))
        refine Goes.step (fun _ k => XS.iconst X0.here hx rfl (hb hby d1_27) k) ?_
        show Goes _ _ _ _ _ _ _ (s₁.setTop (mkF m 28 #[.val (.int x0)] [(.int (3 : Int32)), (.int x0)]))
        by_cases c28_7 : x0 = (3 : Int32)
        · refine Goes.step (fun _ k => XS.icmpNo X0.here hx rfl (hb hby d1_28) rfl (teq c28_7).2 k) ?_
          show Goes _ _ _ _ _ _ _ (s₁.setTop (mkF m 31 #[.val (.int x0)] []))
          obtain ⟨T8, X8, e8, st8⟩ := getS2 X0 hx hZ hown (host := "") (Or.inl (hw _ (List.mem_of_getElem? (i := 17) rfl))) Via.refl e0 (S_ROLLING_BACK.ext X00.2) (g := (mkF m 31 #[.val (.int x0)] [])) rfl (hb hby d1_31)
          refine Goes.step st8 ?_
          show Goes _ _ _ _ _ _ _ (T8.setTop (mkF m 34 #[.val (.int x0)] [(.ref y_ROLLING_BACK)]))
          exact Goes.ret X8 hx (BodyLoose.notSynchronized Bd) Bd.returns rfl (Or.inr (Or.inr (Or.inr (Or.inr ⟨rfl, rfl, rfl⟩)))) (hb hby d1_34) (by show Q1 Z x0 y_ACTIVE y_COMMITTED y_ROLLED_BACK y_ROLLING_BACK y_RUNNING y_COMPENSATING y_COMMITTING h0 n0 (some (.ref y_ROLLING_BACK)) T8.heap _; rw [e8]; exact ⟨N0, rfl, Or.inr (Or.inr (Or.inr (Or.inl (⟨rfl, c1_1, c10_3, c19_5, c28_7⟩))))⟩) (by decide) (by decide)
        · refine Goes.step (fun _ k => XS.icmpYes X0.here hx rfl (pc0 := 28) (pc' := 35) rfl (hb hby d1_28) rfl (feq c28_7).2 (by decide) (by decide) k) ?_
          show Goes _ _ _ _ _ _ _ (s₁.setTop (mkF m 35 #[.val (.int x0)] []))
          refine Goes.step (fun _ k => XS.iloadN X0.here hx rfl (hb hby d1_35) rfl  k) ?_
          show Goes _ _ _ _ _ _ _ (s₁.setTop (mkF m 36 #[.val (.int x0)] [(.int x0)]))
          refine Goes.step (fun _ k => XS.iconst X0.here hx rfl (hb hby d1_36) k) ?_
          show Goes _ _ _ _ _ _ _ (s₁.setTop (mkF m 37 #[.val (.int x0)] [(.int (4 : Int32)), (.int x0)]))
          by_cases c37_9 : x0 = (4 : Int32)
          · refine Goes.step (fun _ k => XS.icmpNo X0.here hx rfl (hb hby d1_37) rfl (teq c37_9).2 k) ?_
            show Goes _ _ _ _ _ _ _ (s₁.setTop (mkF m 40 #[.val (.int x0)] []))
            obtain ⟨T10, X10, e10, st10⟩ := getS2 X0 hx hZ hown (host := "") (Or.inl (hw _ (List.mem_of_getElem? (i := 23) rfl))) Via.refl e0 (S_ROLLED_BACK.ext X00.2) (g := (mkF m 40 #[.val (.int x0)] [])) rfl (hb hby d1_40)
            refine Goes.step st10 ?_
            show Goes _ _ _ _ _ _ _ (T10.setTop (mkF m 43 #[.val (.int x0)] [(.ref y_ROLLED_BACK)]))
            exact Goes.ret X10 hx (BodyLoose.notSynchronized Bd) Bd.returns rfl (Or.inr (Or.inr (Or.inr (Or.inr ⟨rfl, rfl, rfl⟩)))) (hb hby d1_43) (by show Q1 Z x0 y_ACTIVE y_COMMITTED y_ROLLED_BACK y_ROLLING_BACK y_RUNNING y_COMPENSATING y_COMMITTING h0 n0 (some (.ref y_ROLLED_BACK)) T10.heap _; rw [e10]; exact ⟨N0, rfl, Or.inr (Or.inr (Or.inr (Or.inr (Or.inl (⟨rfl, c1_1, c10_3, c19_5, c28_7, c37_9⟩)))))⟩) (by decide) (by decide)
          · refine Goes.step (fun _ k => XS.icmpYes X0.here hx rfl (pc0 := 37) (pc' := 44) rfl (hb hby d1_37) rfl (feq c37_9).2 (by decide) (by decide) k) ?_
            show Goes _ _ _ _ _ _ _ (s₁.setTop (mkF m 44 #[.val (.int x0)] []))
            refine Goes.step (fun _ k => XS.iloadN X0.here hx rfl (hb hby d1_44) rfl  k) ?_
            show Goes _ _ _ _ _ _ _ (s₁.setTop (mkF m 45 #[.val (.int x0)] [(.int x0)]))
            refine Goes.step (fun _ k => XS.iconst X0.here hx rfl (hb hby d1_45) k) ?_
            show Goes _ _ _ _ _ _ _ (s₁.setTop (mkF m 46 #[.val (.int x0)] [(.int (5 : Int32)), (.int x0)]))
            by_cases c46_11 : x0 = (5 : Int32)
            · refine Goes.step (fun _ k => XS.icmpNo X0.here hx rfl (hb hby d1_46) rfl (teq c46_11).2 k) ?_
              show Goes _ _ _ _ _ _ _ (s₁.setTop (mkF m 49 #[.val (.int x0)] []))
              obtain ⟨T12, X12, e12, st12⟩ := getS2 X0 hx hZ hown (host := "") (Or.inl (hw _ (List.mem_of_getElem? (i := 19) rfl))) Via.refl e0 (S_RUNNING.ext X00.2) (g := (mkF m 49 #[.val (.int x0)] [])) rfl (hb hby d1_49)
              refine Goes.step st12 ?_
              show Goes _ _ _ _ _ _ _ (T12.setTop (mkF m 52 #[.val (.int x0)] [(.ref y_RUNNING)]))
              exact Goes.ret X12 hx (BodyLoose.notSynchronized Bd) Bd.returns rfl (Or.inr (Or.inr (Or.inr (Or.inr ⟨rfl, rfl, rfl⟩)))) (hb hby d1_52) (by show Q1 Z x0 y_ACTIVE y_COMMITTED y_ROLLED_BACK y_ROLLING_BACK y_RUNNING y_COMPENSATING y_COMMITTING h0 n0 (some (.ref y_RUNNING)) T12.heap _; rw [e12]; exact ⟨N0, rfl, Or.inr (Or.inr (Or.inr (Or.inr (Or.inr (Or.inl (⟨rfl, c1_1, c10_3, c19_5, c28_7, c37_9, c46_11⟩))))))⟩) (by decide) (by decide)
            · refine Goes.step (fun _ k => XS.icmpYes X0.here hx rfl (pc0 := 46) (pc' := 53) rfl (hb hby d1_46) rfl (feq c46_11).2 (by decide) (by decide) k) ?_
              show Goes _ _ _ _ _ _ _ (s₁.setTop (mkF m 53 #[.val (.int x0)] []))
              obtain ⟨T13, X13, e13, st13⟩ := getS2 X0 hx hZ hown (host := "") (Or.inl (hw _ (List.mem_of_getElem? (i := 21) rfl))) Via.refl e0 (S_COMPENSATING.ext X00.2) (g := (mkF m 53 #[.val (.int x0)] [])) rfl (hb hby d1_53)
              refine Goes.step st13 ?_
              show Goes _ _ _ _ _ _ _ (T13.setTop (mkF m 56 #[.val (.int x0)] [(.ref y_COMPENSATING)]))
              exact Goes.ret X13 hx (BodyLoose.notSynchronized Bd) Bd.returns rfl (Or.inr (Or.inr (Or.inr (Or.inr ⟨rfl, rfl, rfl⟩)))) (hb hby d1_56) (by show Q1 Z x0 y_ACTIVE y_COMMITTED y_ROLLED_BACK y_ROLLING_BACK y_RUNNING y_COMPENSATING y_COMMITTING h0 n0 (some (.ref y_COMPENSATING)) T13.heap _; rw [e13]; exact ⟨N0, rfl, Or.inr (Or.inr (Or.inr (Or.inr (Or.inr (Or.inr (⟨rfl, c1_1, c10_3, c19_5, c28_7, c37_9, c46_11⟩))))))⟩) (by decide) (by decide)
theorem d2_0 : decode prog_23_method_5_code 0 = .ok (.aload_n 0, 1) := by decide +kernel
theorem d2_1 : decode prog_23_method_5_code 1 = .ok (.getstatic 10, 3) := by decide +kernel
theorem d2_4 : decode prog_23_method_5_code 4 = .ok (.if_acmp .eq 10, 3) := by decide +kernel
theorem d2_7 : decode prog_23_method_5_code 7 = .ok (.aload_n 0, 1) := by decide +kernel
theorem d2_8 : decode prog_23_method_5_code 8 = .ok (.getstatic 16, 3) := by decide +kernel
theorem d2_11 : decode prog_23_method_5_code 11 = .ok (.if_acmp .ne 7, 3) := by decide +kernel
theorem d2_14 : decode prog_23_method_5_code 14 = .ok (.iconst 1, 1) := by decide +kernel
theorem d2_15 : decode prog_23_method_5_code 15 = .ok (.goto 4, 3) := by decide +kernel
theorem d2_18 : decode prog_23_method_5_code 18 = .ok (.iconst 0, 1) := by decide +kernel
theorem d2_19 : decode prog_23_method_5_code 19 = .ok (.ireturn, 1) := by decide +kernel
theorem pn_2 : plainName "com/example/concordat/concordat/TransactionStatus" = true := by first | (simp [plainName, overriddenIn]; done) | decide +kernel
theorem ef_2 (m : MethodId) (x0 : Addr) (y_COMMITTED : Addr) (y_ROLLED_BACK : Addr)  : entryFrame m #[(.ref x0)] 1 = mkF m 0 #[.val (.ref x0)] [] := by first | (simp [entryFrame, mkF, argsToLocals, Value.category]; done) | rfl
def Q2 (Z : State) (x0 : Addr) (y_COMMITTED : Addr) (y_ROLLED_BACK : Addr) (h0 : Heap) (n0 : Nat) (v : Option Value) (h : Heap) (L : List Loc) : Prop := Fr n0 L ∧ h = h0 ∧ ((v = some (.int (1 : Int32)) ∧ x0 = y_COMMITTED) ∨ (v = some (.int (1 : Int32)) ∧ ¬ (x0 = y_COMMITTED) ∧ x0 = y_ROLLED_BACK) ∨ (v = some (.int (0 : Int32)) ∧ ¬ (x0 = y_COMMITTED) ∧ ¬ (x0 = y_ROLLED_BACK)))
set_option maxRecDepth 65536 in
set_option maxHeartbeats 40000000 in
theorem rm2 (l : Launch) (Z : State) (a0 : Array Value) (hw : ∀ d ∈ tables_1, d.before a0 Z = true) (ws : List Jvm.Cond) (x0 : Addr) (y_COMMITTED : Addr) (y_ROLLED_BACK : Addr) (h0 : Heap) (n0 : Nat) (Z0 : n0 ≤ h0.size) (S_COMMITTED : Sta Z Z.heap "com/example/concordat/concordat/TransactionStatus" "COMMITTED" "Lcom/example/concordat/concordat/TransactionStatus;" (.ref y_COMMITTED)) (S_ROLLED_BACK : Sta Z Z.heap "com/example/concordat/concordat/TransactionStatus" "ROLLED_BACK" "Lcom/example/concordat/concordat/TransactionStatus;" (.ref y_ROLLED_BACK)) (X00 : Old Z n0 h0) :
    MetFree l (⟨"com/example/concordat/concordat/TransactionStatus", "isFinal", "()Z"⟩ : MethodName) (head1 (Jvm.Cond.code (⟨"com/example/concordat/concordat/TransactionStatus", "isFinal", "()Z"⟩ : MethodName) prog_23_method_5_code 1 (some .boolean) :: ws) ({ frames := 0, cells := 0, slots := 0, locals := 0 } : Room)) (fun a U => a = #[(.ref x0)] ∧ Z.Warmed39 U.vm ∧ U.heap = h0) (fun _ _ _ _ _ => True) (fun _ U o U' => ∃ v L, o = .returned v ∧ Q2 Z x0 y_COMMITTED y_ROLLED_BACK h0 n0 v U'.heap L ∧ FrameEnd U o U' L ({ frames := 0, cells := 0, slots := 0, locals := 0 } : Room).cells ({ frames := 0, cells := 0, slots := 0, locals := 0 } : Room).slots) := by
  refine MetFree.of_bodySF (plainFor_of_name pn_2) hisR ?_
  intro p e s m args below meth c s₁ Bd hml0 hP hK
  obtain ⟨rfl, hZ, hh⟩ := hP
  have hx := Bd.exec
  have hby := Bd.bytes
  have hml : c.maxLocals = 1 := hml0
  have hown : s.vm.findClass "com/example/concordat/concordat/TransactionStatus" = some m.cls := findClass_of_methodNamed Bd.named
  have hnm := (name_of_methodNamed Bd.named Bd.method).1
  have X0 : Stand p l e ({ frames := 0, cells := 0, slots := 0, locals := 0 } : Room) s m #[(.ref x0)] below meth c s₁ [] 0 0 := Stand.of_body Bd
  have e0 : s₁.heap = h0 := by rw [← hh, Bd.state]; rfl
  have N0 := Fr.nil n0
  have K0 : Keep h0 h0 [] := Keep.refl h0 _
  refine (?_ : Goes p e below s ({ frames := 0, cells := 0, slots := 0, locals := 0 } : Room).cells ({ frames := 0, cells := 0, slots := 0, locals := 0 } : Room).slots (fun v h L => Q2 Z x0 y_COMMITTED y_ROLLED_BACK h0 n0 v h L) (s₁.setTop (entryFrame m #[(.ref x0)] 1)))
  rw [ef_2 m x0 y_COMMITTED y_ROLLED_BACK ]
  show Goes _ _ _ _ _ _ _ (s₁.setTop (mkF m 0 #[.val (.ref x0)] []))
  refine Goes.step (fun _ k => XS.aloadN X0.here hx rfl (hb hby d2_0) rfl rfl k) ?_
  show Goes _ _ _ _ _ _ _ (s₁.setTop (mkF m 1 #[.val (.ref x0)] [(.ref x0)]))
  obtain ⟨T1, X1, e1, st1⟩ := getS2 X0 hx hZ hown (host := "") (Or.inl (hw _ (List.mem_of_getElem? (i := 13) rfl))) Via.refl e0 (S_COMMITTED.ext X00.2) (g := (mkF m 1 #[.val (.ref x0)] [(.ref x0)])) rfl (hb hby d2_1)
  refine Goes.step st1 ?_
  show Goes _ _ _ _ _ _ _ (T1.setTop (mkF m 4 #[.val (.ref x0)] [(.ref y_COMMITTED), (.ref x0)]))
  by_cases c4_2 : x0 = y_COMMITTED
  · refine Goes.step (fun _ k => Jvm.RoadKit.acmp X1 hx rfl rfl rfl (pc0 := 4) (pc' := 14) (same := true) rfl (hb hby d2_4) rfl (decide_eq_true (congrArg Value.ref c4_2)) (by decide) (by decide) k) ?_
    show Goes _ _ _ _ _ _ _ (T1.setTop (mkF m 14 #[.val (.ref x0)] []))
    refine Goes.step (fun _ k => XS.iconst X1.here hx rfl (hb hby d2_14) k) ?_
    show Goes _ _ _ _ _ _ _ (T1.setTop (mkF m 15 #[.val (.ref x0)] [(.int (1 : Int32))]))
    refine Goes.step (fun _ k => XS.goto X1.here hx rfl (pc0 := 15) (pc' := 19) rfl (hb hby d2_15) (by decide) (by decide) k) ?_
    show Goes _ _ _ _ _ _ _ (T1.setTop (mkF m 19 #[.val (.ref x0)] [(.int (1 : Int32))]))
    exact Goes.ret X1 hx (BodyLoose.notSynchronized Bd) Bd.returns rfl (Or.inl ⟨rfl, by simp, _, rfl⟩) (hb hby d2_19) (by show Q2 Z x0 y_COMMITTED y_ROLLED_BACK h0 n0 (some (.int (1 : Int32))) T1.heap _; rw [e1]; exact ⟨N0, rfl, Or.inl (⟨rfl, c4_2⟩)⟩) (by decide) (by decide)
  · refine Goes.step (fun _ k => Jvm.RoadKit.acmp X1 hx rfl rfl rfl (pc0 := 4) (pc' := 7) (same := false) rfl (hb hby d2_4) rfl (decide_eq_false fun q => c4_2 (Value.ref.inj q)) (by decide) (by decide) k) ?_
    show Goes _ _ _ _ _ _ _ (T1.setTop (mkF m 7 #[.val (.ref x0)] []))
    refine Goes.step (fun _ k => XS.aloadN X1.here hx rfl (hb hby d2_7) rfl rfl k) ?_
    show Goes _ _ _ _ _ _ _ (T1.setTop (mkF m 8 #[.val (.ref x0)] [(.ref x0)]))
    obtain ⟨T3, X3, e3, st3⟩ := getS2 X1 hx hZ hown (host := "") (Or.inl (hw _ (List.mem_of_getElem? (i := 15) rfl))) Via.refl e1 (S_ROLLED_BACK.ext X00.2) (g := (mkF m 8 #[.val (.ref x0)] [(.ref x0)])) rfl (hb hby d2_8)
    refine Goes.step st3 ?_
    show Goes _ _ _ _ _ _ _ (T3.setTop (mkF m 11 #[.val (.ref x0)] [(.ref y_ROLLED_BACK), (.ref x0)]))
    by_cases c11_4 : x0 = y_ROLLED_BACK
    · refine Goes.step (fun _ k => Jvm.RoadKit.acmp X3 hx rfl rfl rfl (pc0 := 11) (pc' := 14) (same := true) rfl (hb hby d2_11) rfl (decide_eq_true (congrArg Value.ref c11_4)) (by decide) (by decide) k) ?_
      show Goes _ _ _ _ _ _ _ (T3.setTop (mkF m 14 #[.val (.ref x0)] []))
      refine Goes.step (fun _ k => XS.iconst X3.here hx rfl (hb hby d2_14) k) ?_
      show Goes _ _ _ _ _ _ _ (T3.setTop (mkF m 15 #[.val (.ref x0)] [(.int (1 : Int32))]))
      refine Goes.step (fun _ k => XS.goto X3.here hx rfl (pc0 := 15) (pc' := 19) rfl (hb hby d2_15) (by decide) (by decide) k) ?_
      show Goes _ _ _ _ _ _ _ (T3.setTop (mkF m 19 #[.val (.ref x0)] [(.int (1 : Int32))]))
      exact Goes.ret X3 hx (BodyLoose.notSynchronized Bd) Bd.returns rfl (Or.inl ⟨rfl, by simp, _, rfl⟩) (hb hby d2_19) (by show Q2 Z x0 y_COMMITTED y_ROLLED_BACK h0 n0 (some (.int (1 : Int32))) T3.heap _; rw [e3]; exact ⟨N0, rfl, Or.inr (Or.inl (⟨rfl, c4_2, c11_4⟩))⟩) (by decide) (by decide)
    · refine Goes.step (fun _ k => Jvm.RoadKit.acmp X3 hx rfl rfl rfl (pc0 := 11) (pc' := 18) (same := false) rfl (hb hby d2_11) rfl (decide_eq_false fun q => c11_4 (Value.ref.inj q)) (by decide) (by decide) k) ?_
      show Goes _ _ _ _ _ _ _ (T3.setTop (mkF m 18 #[.val (.ref x0)] []))
      refine Goes.step (fun _ k => XS.iconst X3.here hx rfl (hb hby d2_18) k) ?_
      show Goes _ _ _ _ _ _ _ (T3.setTop (mkF m 19 #[.val (.ref x0)] [(.int (0 : Int32))]))
      exact Goes.ret X3 hx (BodyLoose.notSynchronized Bd) Bd.returns rfl (Or.inl ⟨rfl, by simp, _, rfl⟩) (hb hby d2_19) (by show Q2 Z x0 y_COMMITTED y_ROLLED_BACK h0 n0 (some (.int (0 : Int32))) T3.heap _; rw [e3]; exact ⟨N0, rfl, Or.inr (Or.inr (⟨rfl, c4_2, c11_4⟩))⟩) (by decide) (by decide)
theorem d3_0 : decode prog_23_method_8_code 0 = .ok (.aload_n 0, 1) := by decide +kernel
theorem d3_1 : decode prog_23_method_8_code 1 = .ok (.invokevirtual 68, 3) := by decide +kernel
theorem d3_4 : decode prog_23_method_8_code 4 = .ok (.lookupswitch 44 #[(1, 36), (3, 40), (6, 40)], 36) := by decide +kernel
theorem d3_40 : decode prog_23_method_8_code 40 = .ok (.getstatic 10, 3) := by decide +kernel
theorem d3_43 : decode prog_23_method_8_code 43 = .ok (.areturn, 1) := by decide +kernel
theorem d3_44 : decode prog_23_method_8_code 44 = .ok (.getstatic 16, 3) := by decide +kernel
theorem d3_47 : decode prog_23_method_8_code 47 = .ok (.areturn, 1) := by decide +kernel
theorem d3_48 : decode prog_23_method_8_code 48 = .ok (.aload_n 0, 1) := by decide +kernel
theorem d3_49 : decode prog_23_method_8_code 49 = .ok (.areturn, 1) := by decide +kernel
theorem pn_3 : plainName "com/example/concordat/concordat/TransactionStatus" = true := by first | (simp [plainName, overriddenIn]; done) | decide +kernel
theorem ef_3 (m : MethodId) (x0 : Addr) (y_COMMITTED : Addr) (y_ROLLED_BACK : Addr) (f0_ordinal : Int32)  : entryFrame m #[(.ref x0)] 1 = mkF m 0 #[.val (.ref x0)] [] := by first | (simp [entryFrame, mkF, argsToLocals, Value.category]; done) | rfl
theorem pd_3 : parseMethodDescriptor "()I" = some ⟨[], some .int⟩ := by decide +kernel
def Q3 (Z : State) (x0 : Addr) (y_COMMITTED : Addr) (y_ROLLED_BACK : Addr) (f0_ordinal : Int32) (h0 : Heap) (n0 : Nat) (v : Option Value) (h : Heap) (L : List Loc) : Prop := Fr n0 L ∧ h = h0 ∧ ((v = some (.ref y_COMMITTED) ∧ f0_ordinal = (1 : Int32)) ∨ (v = some (.ref y_ROLLED_BACK) ∧ ¬ (f0_ordinal = (1 : Int32)) ∧ f0_ordinal = (3 : Int32)) ∨ (v = some (.ref y_ROLLED_BACK) ∧ ¬ (f0_ordinal = (1 : Int32)) ∧ ¬ (f0_ordinal = (3 : Int32)) ∧ f0_ordinal = (6 : Int32)) ∨ (v = some (.ref x0) ∧ ¬ (f0_ordinal = (1 : Int32)) ∧ ¬ (f0_ordinal = (3 : Int32)) ∧ ¬ (f0_ordinal = (6 : Int32))))
set_option maxRecDepth 65536 in
set_option maxHeartbeats 40000000 in
theorem rm3 (l : Launch) (Z : State) (a0 : Array Value) (hw : ∀ d ∈ tables_1, d.before a0 Z = true) (ws : List Jvm.Cond) (x0 : Addr) (y_COMMITTED : Addr) (y_ROLLED_BACK : Addr) (f0_ordinal : Int32) (h0 : Heap) (n0 : Nat) (Z0 : n0 ≤ h0.size) (S_COMMITTED : Sta Z Z.heap "com/example/concordat/concordat/TransactionStatus" "COMMITTED" "Lcom/example/concordat/concordat/TransactionStatus;" (.ref y_COMMITTED)) (S_ROLLED_BACK : Sta Z Z.heap "com/example/concordat/concordat/TransactionStatus" "ROLLED_BACK" "Lcom/example/concordat/concordat/TransactionStatus;" (.ref y_ROLLED_BACK)) (X00 : Old Z n0 h0) (F0_ordinal : Fld Z h0 x0 "java/lang/Enum" "ordinal" "I" (.int f0_ordinal)) (E_x0 : Exa Z h0 x0 "com/example/concordat/concordat/TransactionStatus") :
    MetFree l (⟨"com/example/concordat/concordat/TransactionStatus", "outcome", "()Lcom/example/concordat/concordat/TransactionStatus;"⟩ : MethodName) (head1 (Jvm.Cond.code (⟨"com/example/concordat/concordat/TransactionStatus", "outcome", "()Lcom/example/concordat/concordat/TransactionStatus;"⟩ : MethodName) prog_23_method_8_code 1 (some (.object "com/example/concordat/concordat/TransactionStatus")) :: ws) ({ frames := 1, cells := 0, slots := 0, locals := 12 } : Room)) (fun a U => a = #[(.ref x0)] ∧ Z.Warmed39 U.vm ∧ U.heap = h0) (fun _ _ _ _ _ => True) (fun _ U o U' => ∃ v L, o = .returned v ∧ Q3 Z x0 y_COMMITTED y_ROLLED_BACK f0_ordinal h0 n0 v U'.heap L ∧ FrameEnd U o U' L ({ frames := 1, cells := 0, slots := 0, locals := 12 } : Room).cells ({ frames := 1, cells := 0, slots := 0, locals := 12 } : Room).slots) := by
  refine MetFree.of_bodySF (plainFor_of_name pn_3) hisR ?_
  intro p e s m args below meth c s₁ Bd hml0 hP hK
  obtain ⟨rfl, hZ, hh⟩ := hP
  have hx := Bd.exec
  have hby := Bd.bytes
  have hml : c.maxLocals = 1 := hml0
  have hown : s.vm.findClass "com/example/concordat/concordat/TransactionStatus" = some m.cls := findClass_of_methodNamed Bd.named
  have hnm := (name_of_methodNamed Bd.named Bd.method).1
  have X0 : Stand p l e ({ frames := 1, cells := 0, slots := 0, locals := 12 } : Room) s m #[(.ref x0)] below meth c s₁ [] 0 0 := Stand.of_body Bd
  have e0 : s₁.heap = h0 := by rw [← hh, Bd.state]; rfl
  have N0 := Fr.nil n0
  have K0 : Keep h0 h0 [] := Keep.refl h0 _
  refine (?_ : Goes p e below s ({ frames := 1, cells := 0, slots := 0, locals := 12 } : Room).cells ({ frames := 1, cells := 0, slots := 0, locals := 12 } : Room).slots (fun v h L => Q3 Z x0 y_COMMITTED y_ROLLED_BACK f0_ordinal h0 n0 v h L) (s₁.setTop (entryFrame m #[(.ref x0)] 1)))
  rw [ef_3 m x0 y_COMMITTED y_ROLLED_BACK f0_ordinal ]
  show Goes _ _ _ _ _ _ _ (s₁.setTop (mkF m 0 #[.val (.ref x0)] []))
  refine Goes.step (fun _ k => XS.aloadN X0.here hx rfl (hb hby d3_0) rfl rfl k) ?_
  show Goes _ _ _ _ _ _ _ (s₁.setTop (mkF m 1 #[.val (.ref x0)] [(.ref x0)]))
  obtain ⟨cq1, kq1, q1a, q1b, q1c⟩ := isOf hZ e0 E_x0
  obtain ⟨_, _, ⟨T1, L1, k1, n1⟩, -, X1, ⟨Lc1, hQ1, l1, y1, z1⟩, st1⟩ := X0.virtualBackUp hx (x := (⟨"com/example/concordat/concordat/TransactionStatus", "ordinal", "()I"⟩ : MethodName)) (y := (⟨"java/lang/Enum", "ordinal", "()I"⟩ : MethodName)) (owner := "java/lang/Enum") hown (mvT hZ (hw _ (List.mem_of_getElem? (i := 29) rfl))) (mvT hZ (hw _ (List.mem_of_getElem? (i := 30) rfl))) (mvT hZ (hw _ (List.mem_of_getElem? (i := 31) rfl))) (by decide) (mvT hZ (hw _ (List.mem_of_getElem? (i := 33) rfl))) (mvT hZ (hw _ (List.mem_of_getElem? (i := 32) rfl))) (backOf (W := 0) (rm4 l Z a0 hw [] x0 f0_ordinal h0 n0 Z0 F0_ordinal) hZ (hw _ (List.mem_of_getElem? (i := 35) rfl)) (hw _ (List.mem_of_getElem? (i := 34) rfl)) (by decide) (by decide)) q1a q1c (g := (mkF m 1 #[.val (.ref x0)] [(.ref x0)])) rfl (by rw [hml]; rfl) (Steps.refl _) (argsL := []) (rest := []) (lenOf pd_3 rfl) rfl (by show 2 * 0 + _ ≤ _; exact Nat.le_of_eq rfl) (hb hby d3_1) (fun _ _ => ⟨rfl, e0, (by decide : 0 + 0 ≤ _), (by decide : 0 + 0 ≤ _)⟩)
  dsimp only [Pt.U, Pt.locs, Pt.cells, Pt.slots] at X1 l1 y1 z1 st1 hQ1
  subst l1 y1 z1
  obtain ⟨N1, eh1, hR1⟩ := hQ1
  have NA1 := Fr.app N0 N1
  obtain rfl := hR1
  refine Goes.back st1 ?_
  show Goes _ _ _ _ _ _ _ (T1.setTop (mkF m 4 #[.val (.ref x0)] [(.int f0_ordinal)]))
  by_cases c4_2 : f0_ordinal = (1 : Int32)
  · refine Goes.step (fun _ k => lookupswitchHit X1 hx (g := (mkF m 4 #[.val (.ref x0)] [(.int f0_ordinal)])) rfl rfl (hb hby d3_4) (by decide) (a := 1) (off := 36) (by rw [c4_2]; decide) (by show (0 : Int) ≤ ((4 : Nat) : Int) + (36); decide) _ k) ?_
    show Goes _ _ _ _ _ _ _ (T1.setTop (mkF m 40 #[.val (.ref x0)] []))
    obtain ⟨T3, X3, e3, st3⟩ := getS2 X1 hx hZ hown (host := "") (Or.inl (hw _ (List.mem_of_getElem? (i := 13) rfl))) Via.refl eh1 (S_COMMITTED.ext X00.2) (g := (mkF m 40 #[.val (.ref x0)] [])) rfl (hb hby d3_40)
    refine Goes.step st3 ?_
    show Goes _ _ _ _ _ _ _ (T3.setTop (mkF m 43 #[.val (.ref x0)] [(.ref y_COMMITTED)]))
    exact Goes.ret X3 hx (BodyLoose.notSynchronized Bd) Bd.returns rfl (Or.inr (Or.inr (Or.inr (Or.inr ⟨rfl, rfl, rfl⟩)))) (hb hby d3_43) (by show Q3 Z x0 y_COMMITTED y_ROLLED_BACK f0_ordinal h0 n0 (some (.ref y_COMMITTED)) T3.heap _; rw [e3]; exact ⟨NA1, rfl, Or.inl (⟨rfl, c4_2⟩)⟩) (by decide) (by decide)
  · by_cases c4_4 : f0_ordinal = (3 : Int32)
    · refine Goes.step (fun _ k => lookupswitchHit X1 hx (g := (mkF m 4 #[.val (.ref x0)] [(.int f0_ordinal)])) rfl rfl (hb hby d3_4) (by decide) (a := 3) (off := 40) (by rw [c4_4]; decide) (by show (0 : Int) ≤ ((4 : Nat) : Int) + (40); decide) _ k) ?_
      show Goes _ _ _ _ _ _ _ (T1.setTop (mkF m 44 #[.val (.ref x0)] []))
      obtain ⟨T5, X5, e5, st5⟩ := getS2 X1 hx hZ hown (host := "") (Or.inl (hw _ (List.mem_of_getElem? (i := 15) rfl))) Via.refl eh1 (S_ROLLED_BACK.ext X00.2) (g := (mkF m 44 #[.val (.ref x0)] [])) rfl (hb hby d3_44)
      refine Goes.step st5 ?_
      show Goes _ _ _ _ _ _ _ (T5.setTop (mkF m 47 #[.val (.ref x0)] [(.ref y_ROLLED_BACK)]))
      exact Goes.ret X5 hx (BodyLoose.notSynchronized Bd) Bd.returns rfl (Or.inr (Or.inr (Or.inr (Or.inr ⟨rfl, rfl, rfl⟩)))) (hb hby d3_47) (by show Q3 Z x0 y_COMMITTED y_ROLLED_BACK f0_ordinal h0 n0 (some (.ref y_ROLLED_BACK)) T5.heap _; rw [e5]; exact ⟨NA1, rfl, Or.inr (Or.inl (⟨rfl, c4_2, c4_4⟩))⟩) (by decide) (by decide)
    · by_cases c4_6 : f0_ordinal = (6 : Int32)
      · refine Goes.step (fun _ k => lookupswitchHit X1 hx (g := (mkF m 4 #[.val (.ref x0)] [(.int f0_ordinal)])) rfl rfl (hb hby d3_4) (by decide) (a := 6) (off := 40) (by rw [c4_6]; decide) (by show (0 : Int) ≤ ((4 : Nat) : Int) + (40); decide) _ k) ?_
        show Goes _ _ _ _ _ _ _ (T1.setTop (mkF m 44 #[.val (.ref x0)] []))
        obtain ⟨T7, X7, e7, st7⟩ := getS2 X1 hx hZ hown (host := "") (Or.inl (hw _ (List.mem_of_getElem? (i := 15) rfl))) Via.refl eh1 (S_ROLLED_BACK.ext X00.2) (g := (mkF m 44 #[.val (.ref x0)] [])) rfl (hb hby d3_44)
        refine Goes.step st7 ?_
        show Goes _ _ _ _ _ _ _ (T7.setTop (mkF m 47 #[.val (.ref x0)] [(.ref y_ROLLED_BACK)]))
        exact Goes.ret X7 hx (BodyLoose.notSynchronized Bd) Bd.returns rfl (Or.inr (Or.inr (Or.inr (Or.inr ⟨rfl, rfl, rfl⟩)))) (hb hby d3_47) (by show Q3 Z x0 y_COMMITTED y_ROLLED_BACK f0_ordinal h0 n0 (some (.ref y_ROLLED_BACK)) T7.heap _; rw [e7]; exact ⟨NA1, rfl, Or.inr (Or.inr (Or.inl (⟨rfl, c4_2, c4_4, c4_6⟩)))⟩) (by decide) (by decide)
      · refine Goes.step (fun _ k => lookupswitchMiss X1 hx (g := (mkF m 4 #[.val (.ref x0)] [(.int f0_ordinal)])) rfl rfl (hb hby d3_4) (by decide) (own_find3 c4_2 c4_4 c4_6) (by show (0 : Int) ≤ ((4 : Nat) : Int) + (44); decide) _ k) ?_
        show Goes _ _ _ _ _ _ _ (T1.setTop (mkF m 48 #[.val (.ref x0)] []))
        refine Goes.step (fun _ k => XS.aloadN X1.here hx rfl (hb hby d3_48) rfl rfl k) ?_
        show Goes _ _ _ _ _ _ _ (T1.setTop (mkF m 49 #[.val (.ref x0)] [(.ref x0)]))
        exact Goes.ret X1 hx (BodyLoose.notSynchronized Bd) Bd.returns rfl (Or.inr (Or.inr (Or.inr (Or.inr ⟨rfl, rfl, rfl⟩)))) (hb hby d3_49) (by show Q3 Z x0 y_COMMITTED y_ROLLED_BACK f0_ordinal h0 n0 (some (.ref x0)) T1.heap _; rw [eh1]; exact ⟨NA1, rfl, Or.inr (Or.inr (Or.inr (⟨rfl, c4_2, c4_4, c4_6⟩)))⟩) (by decide) (by decide)
theorem pn_0 : plainName "com/example/concordat/concordat/TransactionStatusIsFinalPinLaw" = true := by first | (simp [plainName, overriddenIn]; done) | decide +kernel
theorem ef_0 (m : MethodId) (p0 : Int32) (a_ACTIVE : Addr) (a_COMMITTED : Addr) (a_ROLLED_BACK : Addr) (a_ROLLING_BACK : Addr) (a_RUNNING : Addr) (a_COMPENSATING : Addr) (a_COMMITTING : Addr)  : entryFrame m #[(.int p0)] maxLocals = mkF m 0 #[.val (.int p0), .unset, .unset, .unset, .unset] [] := by first | (simp [entryFrame, mkF, argsToLocals, Value.category, maxLocals]; done) | rfl
theorem pd_0 : parseMethodDescriptor "(I)Lcom/example/concordat/concordat/TransactionStatus;" = some ⟨[.int], some (.object "com/example/concordat/concordat/TransactionStatus")⟩ := by decide +kernel
theorem pd_1 : parseMethodDescriptor "()Z" = some ⟨[], some .boolean⟩ := by decide +kernel
theorem pd_2 : parseMethodDescriptor "()Lcom/example/concordat/concordat/TransactionStatus;" = some ⟨[], some (.object "com/example/concordat/concordat/TransactionStatus")⟩ := by decide +kernel
def Q0 (Z : State) (p0 : Int32) (a_ACTIVE : Addr) (a_COMMITTED : Addr) (a_ROLLED_BACK : Addr) (a_ROLLING_BACK : Addr) (a_RUNNING : Addr) (a_COMPENSATING : Addr) (a_COMMITTING : Addr) (h0 : Heap) (n0 : Nat) (v : Option Value) (h : Heap) (L : List Loc) : Prop := v = some (.int 1) ∧ Fr n0 L
set_option maxRecDepth 65536 in
set_option maxHeartbeats 40000000 in
theorem rm0 (l : Launch) (Z : State) (a0 : Array Value) (hw : ∀ d ∈ tables_1, d.before a0 Z = true) (ws : List Jvm.Cond) (p0 : Int32) (a_ACTIVE : Addr) (a_COMMITTED : Addr) (a_ROLLED_BACK : Addr) (a_ROLLING_BACK : Addr) (a_RUNNING : Addr) (a_COMPENSATING : Addr) (a_COMMITTING : Addr) (h0 : Heap) (n0 : Nat) (Z0 : n0 ≤ h0.size) (S_ACTIVE : Sta Z Z.heap "com/example/concordat/concordat/TransactionStatus" "ACTIVE" "Lcom/example/concordat/concordat/TransactionStatus;" (.ref a_ACTIVE)) (S_COMMITTED : Sta Z Z.heap "com/example/concordat/concordat/TransactionStatus" "COMMITTED" "Lcom/example/concordat/concordat/TransactionStatus;" (.ref a_COMMITTED)) (S_ROLLED_BACK : Sta Z Z.heap "com/example/concordat/concordat/TransactionStatus" "ROLLED_BACK" "Lcom/example/concordat/concordat/TransactionStatus;" (.ref a_ROLLED_BACK)) (S_ROLLING_BACK : Sta Z Z.heap "com/example/concordat/concordat/TransactionStatus" "ROLLING_BACK" "Lcom/example/concordat/concordat/TransactionStatus;" (.ref a_ROLLING_BACK)) (S_RUNNING : Sta Z Z.heap "com/example/concordat/concordat/TransactionStatus" "RUNNING" "Lcom/example/concordat/concordat/TransactionStatus;" (.ref a_RUNNING)) (S_COMPENSATING : Sta Z Z.heap "com/example/concordat/concordat/TransactionStatus" "COMPENSATING" "Lcom/example/concordat/concordat/TransactionStatus;" (.ref a_COMPENSATING)) (S_COMMITTING : Sta Z Z.heap "com/example/concordat/concordat/TransactionStatus" "COMMITTING" "Lcom/example/concordat/concordat/TransactionStatus;" (.ref a_COMMITTING)) (E_ACTIVE : Exa Z h0 a_ACTIVE "com/example/concordat/concordat/TransactionStatus") (E_COMMITTED : Exa Z h0 a_COMMITTED "com/example/concordat/concordat/TransactionStatus") (E_ROLLED_BACK : Exa Z h0 a_ROLLED_BACK "com/example/concordat/concordat/TransactionStatus") (E_ROLLING_BACK : Exa Z h0 a_ROLLING_BACK "com/example/concordat/concordat/TransactionStatus") (E_RUNNING : Exa Z h0 a_RUNNING "com/example/concordat/concordat/TransactionStatus") (E_COMPENSATING : Exa Z h0 a_COMPENSATING "com/example/concordat/concordat/TransactionStatus") (E_COMMITTING : Exa Z h0 a_COMMITTING "com/example/concordat/concordat/TransactionStatus") (O_ACTIVE : Fld Z h0 a_ACTIVE "java/lang/Enum" "ordinal" "I" (.int (0 : Int32))) (O_COMMITTED : Fld Z h0 a_COMMITTED "java/lang/Enum" "ordinal" "I" (.int (2 : Int32))) (O_ROLLED_BACK : Fld Z h0 a_ROLLED_BACK "java/lang/Enum" "ordinal" "I" (.int (4 : Int32))) (O_ROLLING_BACK : Fld Z h0 a_ROLLING_BACK "java/lang/Enum" "ordinal" "I" (.int (3 : Int32))) (O_RUNNING : Fld Z h0 a_RUNNING "java/lang/Enum" "ordinal" "I" (.int (5 : Int32))) (O_COMPENSATING : Fld Z h0 a_COMPENSATING "java/lang/Enum" "ordinal" "I" (.int (6 : Int32))) (O_COMMITTING : Fld Z h0 a_COMMITTING "java/lang/Enum" "ordinal" "I" (.int (1 : Int32))) (ne_COMMITTED_ACTIVE : a_COMMITTED ≠ a_ACTIVE) (ne_ROLLED_BACK_ACTIVE : a_ROLLED_BACK ≠ a_ACTIVE) (ne_ROLLED_BACK_COMMITTED : a_ROLLED_BACK ≠ a_COMMITTED) (ne_ROLLING_BACK_ACTIVE : a_ROLLING_BACK ≠ a_ACTIVE) (ne_ROLLING_BACK_COMMITTED : a_ROLLING_BACK ≠ a_COMMITTED) (ne_ROLLING_BACK_ROLLED_BACK : a_ROLLING_BACK ≠ a_ROLLED_BACK) (ne_RUNNING_ACTIVE : a_RUNNING ≠ a_ACTIVE) (ne_RUNNING_COMMITTED : a_RUNNING ≠ a_COMMITTED) (ne_RUNNING_ROLLED_BACK : a_RUNNING ≠ a_ROLLED_BACK) (ne_RUNNING_ROLLING_BACK : a_RUNNING ≠ a_ROLLING_BACK) (ne_COMPENSATING_ACTIVE : a_COMPENSATING ≠ a_ACTIVE) (ne_COMPENSATING_COMMITTED : a_COMPENSATING ≠ a_COMMITTED) (ne_COMPENSATING_ROLLED_BACK : a_COMPENSATING ≠ a_ROLLED_BACK) (ne_COMPENSATING_ROLLING_BACK : a_COMPENSATING ≠ a_ROLLING_BACK) (ne_COMPENSATING_RUNNING : a_COMPENSATING ≠ a_RUNNING) (ne_COMMITTING_ACTIVE : a_COMMITTING ≠ a_ACTIVE) (ne_COMMITTING_COMMITTED : a_COMMITTING ≠ a_COMMITTED) (ne_COMMITTING_ROLLED_BACK : a_COMMITTING ≠ a_ROLLED_BACK) (ne_COMMITTING_ROLLING_BACK : a_COMMITTING ≠ a_ROLLING_BACK) (ne_COMMITTING_RUNNING : a_COMMITTING ≠ a_RUNNING) (ne_COMMITTING_COMPENSATING : a_COMMITTING ≠ a_COMPENSATING) (X00 : Old Z n0 h0) :
    MetFree l x (head1 (Jvm.Cond.code x code maxLocals ret :: ws) room_1) (fun a U => a = #[(.int p0)] ∧ Z.Warmed39 U.vm ∧ U.heap = h0) (fun _ _ _ _ _ => True) (fun _ U o U' => ∃ v L, o = .returned v ∧ Q0 Z p0 a_ACTIVE a_COMMITTED a_ROLLED_BACK a_ROLLING_BACK a_RUNNING a_COMPENSATING a_COMMITTING h0 n0 v U'.heap L ∧ FrameEnd U o U' L room_1.cells room_1.slots) := by
  refine MetFree.of_bodySF (plainFor_of_name pn_0) hisR ?_
  intro p e s m args below meth c s₁ Bd hml0 hP hK
  obtain ⟨rfl, hZ, hh⟩ := hP
  have hx := Bd.exec
  have hby := Bd.bytes
  have hml : c.maxLocals = 5 := hml0
  have hown : s.vm.findClass "com/example/concordat/concordat/TransactionStatusIsFinalPinLaw" = some m.cls := findClass_of_methodNamed Bd.named
  have hnm := (name_of_methodNamed Bd.named Bd.method).1
  have X0 : Stand p l e room_1 s m #[(.int p0)] below meth c s₁ [] 0 0 := Stand.of_body Bd
  have e0 : s₁.heap = h0 := by rw [← hh, Bd.state]; rfl
  have N0 := Fr.nil n0
  have K0 : Keep h0 h0 [] := Keep.refl h0 _
  refine (?_ : Goes p e below s room_1.cells room_1.slots (fun v h L => Q0 Z p0 a_ACTIVE a_COMMITTED a_ROLLED_BACK a_ROLLING_BACK a_RUNNING a_COMPENSATING a_COMMITTING h0 n0 v h L) (s₁.setTop (entryFrame m #[(.int p0)] maxLocals)))
  rw [ef_0 m p0 a_ACTIVE a_COMMITTED a_ROLLED_BACK a_ROLLING_BACK a_RUNNING a_COMPENSATING a_COMMITTING ]
  show Goes _ _ _ _ _ _ _ (s₁.setTop (mkF m 0 #[.val (.int p0), .unset, .unset, .unset, .unset] []))
  refine Goes.step (fun _ k => XS.iloadN X0.here hx rfl (hb hby at_0) rfl  k) ?_
  show Goes _ _ _ _ _ _ _ (s₁.setTop (mkF m 1 #[.val (.int p0), .unset, .unset, .unset, .unset] [(.int p0)]))
  refine Goes.step (fun _ k => X0.ldcInt hx hown (mvT hZ (hw _ (List.mem_of_getElem? (i := 0) rfl))) (g := (mkF m 1 #[.val (.int p0), .unset, .unset, .unset, .unset] [(.int p0)])) rfl (hb hby at_1) _ k) ?_
  show Goes _ _ _ _ _ _ _ (s₁.setTop (mkF m 3 #[.val (.int p0), .unset, .unset, .unset, .unset] [(.int (2147483647 : Int32)), (.int p0)]))
  refine Goes.step (fun _ k => XS.iand X0.here hx rfl (hb hby at_3) rfl k) ?_
  show Goes _ _ _ _ _ _ _ (s₁.setTop (mkF m 4 #[.val (.int p0), .unset, .unset, .unset, .unset] [(.int (p0 &&& (2147483647 : Int32)))]))
  refine Goes.step (fun _ k => XS.bipush X0.here hx rfl (hb hby at_4) k) ?_
  show Goes _ _ _ _ _ _ _ (s₁.setTop (mkF m 6 #[.val (.int p0), .unset, .unset, .unset, .unset] [(.int (7 : Int32)), (.int (p0 &&& (2147483647 : Int32)))]))
  refine Goes.step (fun _ k => iremM X0 hx rfl (hb hby at_6) rfl (by decide) k) ?_
  show Goes _ _ _ _ _ _ _ (s₁.setTop (mkF m 7 #[.val (.int p0), .unset, .unset, .unset, .unset] [(.int ((p0 &&& (2147483647 : Int32)) % (7 : Int32)))]))
  refine Goes.step (fun _ k => XS.istoreN X0.here hx rfl (hb hby at_7) rfl (l' := #[.val (.int p0), .val (.int ((p0 &&& (2147483647 : Int32)) % (7 : Int32))), .unset, .unset, .unset]) rfl k) ?_
  show Goes _ _ _ _ _ _ _ (s₁.setTop (mkF m 8 #[.val (.int p0), .val (.int ((p0 &&& (2147483647 : Int32)) % (7 : Int32))), .unset, .unset, .unset] []))
  refine Goes.step (fun _ k => XS.iloadN X0.here hx rfl (hb hby at_8) rfl  k) ?_
  show Goes _ _ _ _ _ _ _ (s₁.setTop (mkF m 9 #[.val (.int p0), .val (.int ((p0 &&& (2147483647 : Int32)) % (7 : Int32))), .unset, .unset, .unset] [(.int ((p0 &&& (2147483647 : Int32)) % (7 : Int32)))]))
  obtain ⟨_, _, ⟨T1, L1, k1, n1⟩, -, X1, ⟨Lc1, hQ1, l1, y1, z1⟩, st1⟩ := Jvm.LawKit.callS X0 hx (y := (⟨"com/example/concordat/concordat/TransactionStatusIsFinalPinLaw", "pick", "(I)Lcom/example/concordat/concordat/TransactionStatus;"⟩ : MethodName)) hown (mvT hZ (hw _ (List.mem_of_getElem? (i := 1) rfl))) (mvT hZ (hw _ (List.mem_of_getElem? (i := 2) rfl))) (mvT hZ (hw _ (List.mem_of_getElem? (i := 3) rfl))) (mvT hZ (hw _ (List.mem_of_getElem? (i := 4) rfl))) (by decide) (backOf (W := 0) (rm1 l Z a0 hw [] ((p0 &&& (2147483647 : Int32)) % (7 : Int32)) a_ACTIVE a_COMMITTED a_ROLLED_BACK a_ROLLING_BACK a_RUNNING a_COMPENSATING a_COMMITTING h0 n0 Z0 S_ACTIVE S_COMMITTED S_ROLLED_BACK S_ROLLING_BACK S_RUNNING S_COMPENSATING S_COMMITTING X00) hZ (hw _ (List.mem_of_getElem? (i := 4) rfl)) (hw _ (List.mem_of_getElem? (i := 3) rfl)) (by decide) (by decide)) (g := (mkF m 9 #[.val (.int p0), .val (.int ((p0 &&& (2147483647 : Int32)) % (7 : Int32))), .unset, .unset, .unset] [(.int ((p0 &&& (2147483647 : Int32)) % (7 : Int32)))])) rfl (by rw [hml]; rfl) (argsL := [(.int ((p0 &&& (2147483647 : Int32)) % (7 : Int32)))]) (rest := []) (lenOf pd_0 rfl) rfl (by show 2 * 0 + _ ≤ _; exact Nat.le_of_eq rfl) (hb hby at_9) (fun _ _ => ⟨rfl, e0, (by decide : 0 + 0 ≤ _), (by decide : 0 + 0 ≤ _)⟩)
  dsimp only [Pt.U, Pt.locs, Pt.cells, Pt.slots] at X1 l1 y1 z1 st1 hQ1
  subst l1 y1 z1
  obtain ⟨N1, eh1, hR1⟩ := hQ1
  have NA1 := Fr.app N0 N1
  rcases hR1 with ⟨rfl, u1_0_0⟩ | ⟨rfl, u1_1_0, u1_1_1⟩ | ⟨rfl, u1_2_0, u1_2_1, u1_2_2⟩ | ⟨rfl, u1_3_0, u1_3_1, u1_3_2, u1_3_3⟩ | ⟨rfl, u1_4_0, u1_4_1, u1_4_2, u1_4_3, u1_4_4⟩ | ⟨rfl, u1_5_0, u1_5_1, u1_5_2, u1_5_3, u1_5_4, u1_5_5⟩ | ⟨rfl, u1_6_0, u1_6_1, u1_6_2, u1_6_3, u1_6_4, u1_6_5⟩
  · refine Goes.step st1 ?_
    show Goes _ _ _ _ _ _ _ (T1.setTop (mkF m 12 #[.val (.int p0), .val (.int ((p0 &&& (2147483647 : Int32)) % (7 : Int32))), .unset, .unset, .unset] [(.ref a_ACTIVE)]))
    refine Goes.step (fun _ k => XS.astoreN X1.here hx rfl (hb hby at_12) rfl rfl (l' := #[.val (.int p0), .val (.int ((p0 &&& (2147483647 : Int32)) % (7 : Int32))), .val (.ref a_ACTIVE), .unset, .unset]) rfl k) ?_
    show Goes _ _ _ _ _ _ _ (T1.setTop (mkF m 13 #[.val (.int p0), .val (.int ((p0 &&& (2147483647 : Int32)) % (7 : Int32))), .val (.ref a_ACTIVE), .unset, .unset] []))
    refine Goes.step (fun _ k => XS.iloadN X1.here hx rfl (hb hby at_13) rfl  k) ?_
    show Goes _ _ _ _ _ _ _ (T1.setTop (mkF m 14 #[.val (.int p0), .val (.int ((p0 &&& (2147483647 : Int32)) % (7 : Int32))), .val (.ref a_ACTIVE), .unset, .unset] [(.int ((p0 &&& (2147483647 : Int32)) % (7 : Int32)))]))
    refine Goes.step (fun _ k => XS.iconst X1.here hx rfl (hb hby at_14) k) ?_
    show Goes _ _ _ _ _ _ _ (T1.setTop (mkF m 15 #[.val (.int p0), .val (.int ((p0 &&& (2147483647 : Int32)) % (7 : Int32))), .val (.ref a_ACTIVE), .unset, .unset] [(.int (2 : Int32)), (.int ((p0 &&& (2147483647 : Int32)) % (7 : Int32)))]))
    refine Goes.step (fun _ k => XS.icmpNo X1.here hx rfl (hb hby at_15) rfl (feq (by rw [u1_0_0]; decide : ¬ (((p0 &&& (2147483647 : Int32)) % (7 : Int32)) = (2 : Int32)))).1 k) ?_
    show Goes _ _ _ _ _ _ _ (T1.setTop (mkF m 18 #[.val (.int p0), .val (.int ((p0 &&& (2147483647 : Int32)) % (7 : Int32))), .val (.ref a_ACTIVE), .unset, .unset] []))
    refine Goes.step (fun _ k => XS.iloadN X1.here hx rfl (hb hby at_18) rfl  k) ?_
    show Goes _ _ _ _ _ _ _ (T1.setTop (mkF m 19 #[.val (.int p0), .val (.int ((p0 &&& (2147483647 : Int32)) % (7 : Int32))), .val (.ref a_ACTIVE), .unset, .unset] [(.int ((p0 &&& (2147483647 : Int32)) % (7 : Int32)))]))
    refine Goes.step (fun _ k => XS.iconst X1.here hx rfl (hb hby at_19) k) ?_
    show Goes _ _ _ _ _ _ _ (T1.setTop (mkF m 20 #[.val (.int p0), .val (.int ((p0 &&& (2147483647 : Int32)) % (7 : Int32))), .val (.ref a_ACTIVE), .unset, .unset] [(.int (4 : Int32)), (.int ((p0 &&& (2147483647 : Int32)) % (7 : Int32)))]))
    refine Goes.step (fun _ k => XS.icmpYes X1.here hx rfl (pc0 := 20) (pc' := 27) rfl (hb hby at_20) rfl (feq (by rw [u1_0_0]; decide : ¬ (((p0 &&& (2147483647 : Int32)) % (7 : Int32)) = (4 : Int32)))).2 (by decide) (by decide) k) ?_
    show Goes _ _ _ _ _ _ _ (T1.setTop (mkF m 27 #[.val (.int p0), .val (.int ((p0 &&& (2147483647 : Int32)) % (7 : Int32))), .val (.ref a_ACTIVE), .unset, .unset] []))
    refine Goes.step (fun _ k => XS.iconst X1.here hx rfl (hb hby at_27) k) ?_
    show Goes _ _ _ _ _ _ _ (T1.setTop (mkF m 28 #[.val (.int p0), .val (.int ((p0 &&& (2147483647 : Int32)) % (7 : Int32))), .val (.ref a_ACTIVE), .unset, .unset] [(.int (0 : Int32))]))
    refine Goes.step (fun _ k => XS.istoreN X1.here hx rfl (hb hby at_28) rfl (l' := #[.val (.int p0), .val (.int ((p0 &&& (2147483647 : Int32)) % (7 : Int32))), .val (.ref a_ACTIVE), .val (.int (0 : Int32)), .unset]) rfl k) ?_
    show Goes _ _ _ _ _ _ _ (T1.setTop (mkF m 29 #[.val (.int p0), .val (.int ((p0 &&& (2147483647 : Int32)) % (7 : Int32))), .val (.ref a_ACTIVE), .val (.int (0 : Int32)), .unset] []))
    refine Goes.step (fun _ k => XS.aloadN X1.here hx rfl (hb hby at_29) rfl rfl k) ?_
    show Goes _ _ _ _ _ _ _ (T1.setTop (mkF m 30 #[.val (.int p0), .val (.int ((p0 &&& (2147483647 : Int32)) % (7 : Int32))), .val (.ref a_ACTIVE), .val (.int (0 : Int32)), .unset] [(.ref a_ACTIVE)]))
    obtain ⟨cq2, kq2, q2a, q2b, q2c⟩ := isOf hZ eh1 E_ACTIVE
    obtain ⟨_, _, ⟨T2, L2, k2, n2⟩, -, X2, ⟨Lc2, hQ2, l2, y2, z2⟩, st2⟩ := X1.virtualBack hx (y := (⟨"com/example/concordat/concordat/TransactionStatus", "isFinal", "()Z"⟩ : MethodName)) (z := (⟨"com/example/concordat/concordat/TransactionStatus", "isFinal", "()Z"⟩ : MethodName)) hown (mvT hZ (hw _ (List.mem_of_getElem? (i := 8) rfl))) (mvT hZ (hw _ (List.mem_of_getElem? (i := 9) rfl))) (notFace_of_selects (args := #[]) (mvT hZ (hw _ (List.mem_of_getElem? (i := 11) rfl)))) (mvT hZ (hw _ (List.mem_of_getElem? (i := 11) rfl))) (mvT hZ (hw _ (List.mem_of_getElem? (i := 10) rfl))) (by decide) (backOf (W := 0) (rm2 l Z a0 hw [] a_ACTIVE a_COMMITTED a_ROLLED_BACK h0 n0 Z0 S_COMMITTED S_ROLLED_BACK X00) hZ (hw _ (List.mem_of_getElem? (i := 12) rfl)) (hw _ (List.mem_of_getElem? (i := 6) rfl)) (by decide) (by decide)) q2a q2c (g := (mkF m 30 #[.val (.int p0), .val (.int ((p0 &&& (2147483647 : Int32)) % (7 : Int32))), .val (.ref a_ACTIVE), .val (.int (0 : Int32)), .unset] [(.ref a_ACTIVE)])) rfl (by rw [hml]; rfl) (Steps.refl _) (argsL := []) (rest := []) (lenOf pd_1 rfl) rfl (by show 2 * 0 + _ ≤ _; exact Nat.le_of_eq rfl) (hb hby at_30) (fun _ _ => ⟨rfl, eh1, (by decide : 0 + 0 ≤ _), (by decide : 0 + 0 ≤ _)⟩)
    dsimp only [Pt.U, Pt.locs, Pt.cells, Pt.slots] at X2 l2 y2 z2 st2 hQ2
    subst l2 y2 z2
    obtain ⟨N2, eh2, hR2⟩ := hQ2
    have NA2 := Fr.app NA1 N2
    rcases hR2 with ⟨rfl, u2_0_0⟩ | ⟨rfl, u2_1_0, u2_1_1⟩ | ⟨rfl, u2_2_0, u2_2_1⟩
    · exact absurd u2_0_0 (Ne.symm ne_COMMITTED_ACTIVE)
    · exact absurd u2_1_1 (Ne.symm ne_ROLLED_BACK_ACTIVE)
    · refine Goes.back st2 ?_
      show Goes _ _ _ _ _ _ _ (T2.setTop (mkF m 33 #[.val (.int p0), .val (.int ((p0 &&& (2147483647 : Int32)) % (7 : Int32))), .val (.ref a_ACTIVE), .val (.int (0 : Int32)), .unset] [(.int (0 : Int32))]))
      refine Goes.step (fun _ k => XS.istore X2.here hx rfl (hb hby at_33) rfl (l' := #[.val (.int p0), .val (.int ((p0 &&& (2147483647 : Int32)) % (7 : Int32))), .val (.ref a_ACTIVE), .val (.int (0 : Int32)), .val (.int (0 : Int32))]) rfl k) ?_
      show Goes _ _ _ _ _ _ _ (T2.setTop (mkF m 35 #[.val (.int p0), .val (.int ((p0 &&& (2147483647 : Int32)) % (7 : Int32))), .val (.ref a_ACTIVE), .val (.int (0 : Int32)), .val (.int (0 : Int32))] []))
      refine Goes.step (fun _ k => XS.iload X2.here hx rfl (hb hby at_35) rfl  k) ?_
      show Goes _ _ _ _ _ _ _ (T2.setTop (mkF m 37 #[.val (.int p0), .val (.int ((p0 &&& (2147483647 : Int32)) % (7 : Int32))), .val (.ref a_ACTIVE), .val (.int (0 : Int32)), .val (.int (0 : Int32))] [(.int (0 : Int32))]))
      refine Goes.step (fun _ k => XS.iloadN X2.here hx rfl (hb hby at_37) rfl  k) ?_
      show Goes _ _ _ _ _ _ _ (T2.setTop (mkF m 38 #[.val (.int p0), .val (.int ((p0 &&& (2147483647 : Int32)) % (7 : Int32))), .val (.ref a_ACTIVE), .val (.int (0 : Int32)), .val (.int (0 : Int32))] [(.int (0 : Int32)), (.int (0 : Int32))]))
      refine Goes.step (fun _ k => XS.icmpYes X2.here hx rfl (pc0 := 38) (pc' := 43) rfl (hb hby at_38) rfl (teq (by decide : (0 : Int32) = (0 : Int32))).1 (by decide) (by decide) k) ?_
      show Goes _ _ _ _ _ _ _ (T2.setTop (mkF m 43 #[.val (.int p0), .val (.int ((p0 &&& (2147483647 : Int32)) % (7 : Int32))), .val (.ref a_ACTIVE), .val (.int (0 : Int32)), .val (.int (0 : Int32))] []))
      refine Goes.step (fun _ k => XS.iloadN X2.here hx rfl (hb hby at_43) rfl  k) ?_
      show Goes _ _ _ _ _ _ _ (T2.setTop (mkF m 44 #[.val (.int p0), .val (.int ((p0 &&& (2147483647 : Int32)) % (7 : Int32))), .val (.ref a_ACTIVE), .val (.int (0 : Int32)), .val (.int (0 : Int32))] [(.int (0 : Int32))]))
      refine Goes.step (fun _ k => XS.ifYes X2.here hx rfl (pc0 := 44) (pc' := 57) rfl (hb hby at_44) rfl ((if0 _ _).trans (teq (by decide : (0 : Int32) = (0 : Int32))).1) (by decide) (by decide) k) ?_
      show Goes _ _ _ _ _ _ _ (T2.setTop (mkF m 57 #[.val (.int p0), .val (.int ((p0 &&& (2147483647 : Int32)) % (7 : Int32))), .val (.ref a_ACTIVE), .val (.int (0 : Int32)), .val (.int (0 : Int32))] []))
      refine Goes.step (fun _ k => XS.iconst X2.here hx rfl (hb hby at_57) k) ?_
      show Goes _ _ _ _ _ _ _ (T2.setTop (mkF m 58 #[.val (.int p0), .val (.int ((p0 &&& (2147483647 : Int32)) % (7 : Int32))), .val (.ref a_ACTIVE), .val (.int (0 : Int32)), .val (.int (0 : Int32))] [(.int (1 : Int32))]))
      exact Goes.ret X2 hx (BodyLoose.notSynchronized Bd) Bd.returns rfl (Or.inl ⟨rfl, by simp, _, rfl⟩) (hb hby at_58) (by show Q0 Z p0 a_ACTIVE a_COMMITTED a_ROLLED_BACK a_ROLLING_BACK a_RUNNING a_COMPENSATING a_COMMITTING h0 n0 (some (.int (1 : Int32))) T2.heap _; rw [eh2]; exact ⟨rfl, NA2⟩) (by decide) (by decide)
  · refine Goes.step st1 ?_
    show Goes _ _ _ _ _ _ _ (T1.setTop (mkF m 12 #[.val (.int p0), .val (.int ((p0 &&& (2147483647 : Int32)) % (7 : Int32))), .unset, .unset, .unset] [(.ref a_COMMITTING)]))
    refine Goes.step (fun _ k => XS.astoreN X1.here hx rfl (hb hby at_12) rfl rfl (l' := #[.val (.int p0), .val (.int ((p0 &&& (2147483647 : Int32)) % (7 : Int32))), .val (.ref a_COMMITTING), .unset, .unset]) rfl k) ?_
    show Goes _ _ _ _ _ _ _ (T1.setTop (mkF m 13 #[.val (.int p0), .val (.int ((p0 &&& (2147483647 : Int32)) % (7 : Int32))), .val (.ref a_COMMITTING), .unset, .unset] []))
    refine Goes.step (fun _ k => XS.iloadN X1.here hx rfl (hb hby at_13) rfl  k) ?_
    show Goes _ _ _ _ _ _ _ (T1.setTop (mkF m 14 #[.val (.int p0), .val (.int ((p0 &&& (2147483647 : Int32)) % (7 : Int32))), .val (.ref a_COMMITTING), .unset, .unset] [(.int ((p0 &&& (2147483647 : Int32)) % (7 : Int32)))]))
    refine Goes.step (fun _ k => XS.iconst X1.here hx rfl (hb hby at_14) k) ?_
    show Goes _ _ _ _ _ _ _ (T1.setTop (mkF m 15 #[.val (.int p0), .val (.int ((p0 &&& (2147483647 : Int32)) % (7 : Int32))), .val (.ref a_COMMITTING), .unset, .unset] [(.int (2 : Int32)), (.int ((p0 &&& (2147483647 : Int32)) % (7 : Int32)))]))
    refine Goes.step (fun _ k => XS.icmpNo X1.here hx rfl (hb hby at_15) rfl (feq (by rw [u1_1_1]; decide : ¬ (((p0 &&& (2147483647 : Int32)) % (7 : Int32)) = (2 : Int32)))).1 k) ?_
    show Goes _ _ _ _ _ _ _ (T1.setTop (mkF m 18 #[.val (.int p0), .val (.int ((p0 &&& (2147483647 : Int32)) % (7 : Int32))), .val (.ref a_COMMITTING), .unset, .unset] []))
    refine Goes.step (fun _ k => XS.iloadN X1.here hx rfl (hb hby at_18) rfl  k) ?_
    show Goes _ _ _ _ _ _ _ (T1.setTop (mkF m 19 #[.val (.int p0), .val (.int ((p0 &&& (2147483647 : Int32)) % (7 : Int32))), .val (.ref a_COMMITTING), .unset, .unset] [(.int ((p0 &&& (2147483647 : Int32)) % (7 : Int32)))]))
    refine Goes.step (fun _ k => XS.iconst X1.here hx rfl (hb hby at_19) k) ?_
    show Goes _ _ _ _ _ _ _ (T1.setTop (mkF m 20 #[.val (.int p0), .val (.int ((p0 &&& (2147483647 : Int32)) % (7 : Int32))), .val (.ref a_COMMITTING), .unset, .unset] [(.int (4 : Int32)), (.int ((p0 &&& (2147483647 : Int32)) % (7 : Int32)))]))
    refine Goes.step (fun _ k => XS.icmpYes X1.here hx rfl (pc0 := 20) (pc' := 27) rfl (hb hby at_20) rfl (feq (by rw [u1_1_1]; decide : ¬ (((p0 &&& (2147483647 : Int32)) % (7 : Int32)) = (4 : Int32)))).2 (by decide) (by decide) k) ?_
    show Goes _ _ _ _ _ _ _ (T1.setTop (mkF m 27 #[.val (.int p0), .val (.int ((p0 &&& (2147483647 : Int32)) % (7 : Int32))), .val (.ref a_COMMITTING), .unset, .unset] []))
    refine Goes.step (fun _ k => XS.iconst X1.here hx rfl (hb hby at_27) k) ?_
    show Goes _ _ _ _ _ _ _ (T1.setTop (mkF m 28 #[.val (.int p0), .val (.int ((p0 &&& (2147483647 : Int32)) % (7 : Int32))), .val (.ref a_COMMITTING), .unset, .unset] [(.int (0 : Int32))]))
    refine Goes.step (fun _ k => XS.istoreN X1.here hx rfl (hb hby at_28) rfl (l' := #[.val (.int p0), .val (.int ((p0 &&& (2147483647 : Int32)) % (7 : Int32))), .val (.ref a_COMMITTING), .val (.int (0 : Int32)), .unset]) rfl k) ?_
    show Goes _ _ _ _ _ _ _ (T1.setTop (mkF m 29 #[.val (.int p0), .val (.int ((p0 &&& (2147483647 : Int32)) % (7 : Int32))), .val (.ref a_COMMITTING), .val (.int (0 : Int32)), .unset] []))
    refine Goes.step (fun _ k => XS.aloadN X1.here hx rfl (hb hby at_29) rfl rfl k) ?_
    show Goes _ _ _ _ _ _ _ (T1.setTop (mkF m 30 #[.val (.int p0), .val (.int ((p0 &&& (2147483647 : Int32)) % (7 : Int32))), .val (.ref a_COMMITTING), .val (.int (0 : Int32)), .unset] [(.ref a_COMMITTING)]))
    obtain ⟨cq3, kq3, q3a, q3b, q3c⟩ := isOf hZ eh1 E_COMMITTING
    obtain ⟨_, _, ⟨T3, L3, k3, n3⟩, -, X3, ⟨Lc3, hQ3, l3, y3, z3⟩, st3⟩ := X1.virtualBack hx (y := (⟨"com/example/concordat/concordat/TransactionStatus", "isFinal", "()Z"⟩ : MethodName)) (z := (⟨"com/example/concordat/concordat/TransactionStatus", "isFinal", "()Z"⟩ : MethodName)) hown (mvT hZ (hw _ (List.mem_of_getElem? (i := 8) rfl))) (mvT hZ (hw _ (List.mem_of_getElem? (i := 9) rfl))) (notFace_of_selects (args := #[]) (mvT hZ (hw _ (List.mem_of_getElem? (i := 11) rfl)))) (mvT hZ (hw _ (List.mem_of_getElem? (i := 11) rfl))) (mvT hZ (hw _ (List.mem_of_getElem? (i := 10) rfl))) (by decide) (backOf (W := 0) (rm2 l Z a0 hw [] a_COMMITTING a_COMMITTED a_ROLLED_BACK h0 n0 Z0 S_COMMITTED S_ROLLED_BACK X00) hZ (hw _ (List.mem_of_getElem? (i := 12) rfl)) (hw _ (List.mem_of_getElem? (i := 6) rfl)) (by decide) (by decide)) q3a q3c (g := (mkF m 30 #[.val (.int p0), .val (.int ((p0 &&& (2147483647 : Int32)) % (7 : Int32))), .val (.ref a_COMMITTING), .val (.int (0 : Int32)), .unset] [(.ref a_COMMITTING)])) rfl (by rw [hml]; rfl) (Steps.refl _) (argsL := []) (rest := []) (lenOf pd_1 rfl) rfl (by show 2 * 0 + _ ≤ _; exact Nat.le_of_eq rfl) (hb hby at_30) (fun _ _ => ⟨rfl, eh1, (by decide : 0 + 0 ≤ _), (by decide : 0 + 0 ≤ _)⟩)
    dsimp only [Pt.U, Pt.locs, Pt.cells, Pt.slots] at X3 l3 y3 z3 st3 hQ3
    subst l3 y3 z3
    obtain ⟨N3, eh3, hR3⟩ := hQ3
    have NA3 := Fr.app NA1 N3
    rcases hR3 with ⟨rfl, u3_0_0⟩ | ⟨rfl, u3_1_0, u3_1_1⟩ | ⟨rfl, u3_2_0, u3_2_1⟩
    · exact absurd u3_0_0 ne_COMMITTING_COMMITTED
    · exact absurd u3_1_1 ne_COMMITTING_ROLLED_BACK
    · refine Goes.back st3 ?_
      show Goes _ _ _ _ _ _ _ (T3.setTop (mkF m 33 #[.val (.int p0), .val (.int ((p0 &&& (2147483647 : Int32)) % (7 : Int32))), .val (.ref a_COMMITTING), .val (.int (0 : Int32)), .unset] [(.int (0 : Int32))]))
      refine Goes.step (fun _ k => XS.istore X3.here hx rfl (hb hby at_33) rfl (l' := #[.val (.int p0), .val (.int ((p0 &&& (2147483647 : Int32)) % (7 : Int32))), .val (.ref a_COMMITTING), .val (.int (0 : Int32)), .val (.int (0 : Int32))]) rfl k) ?_
      show Goes _ _ _ _ _ _ _ (T3.setTop (mkF m 35 #[.val (.int p0), .val (.int ((p0 &&& (2147483647 : Int32)) % (7 : Int32))), .val (.ref a_COMMITTING), .val (.int (0 : Int32)), .val (.int (0 : Int32))] []))
      refine Goes.step (fun _ k => XS.iload X3.here hx rfl (hb hby at_35) rfl  k) ?_
      show Goes _ _ _ _ _ _ _ (T3.setTop (mkF m 37 #[.val (.int p0), .val (.int ((p0 &&& (2147483647 : Int32)) % (7 : Int32))), .val (.ref a_COMMITTING), .val (.int (0 : Int32)), .val (.int (0 : Int32))] [(.int (0 : Int32))]))
      refine Goes.step (fun _ k => XS.iloadN X3.here hx rfl (hb hby at_37) rfl  k) ?_
      show Goes _ _ _ _ _ _ _ (T3.setTop (mkF m 38 #[.val (.int p0), .val (.int ((p0 &&& (2147483647 : Int32)) % (7 : Int32))), .val (.ref a_COMMITTING), .val (.int (0 : Int32)), .val (.int (0 : Int32))] [(.int (0 : Int32)), (.int (0 : Int32))]))
      refine Goes.step (fun _ k => XS.icmpYes X3.here hx rfl (pc0 := 38) (pc' := 43) rfl (hb hby at_38) rfl (teq (by decide : (0 : Int32) = (0 : Int32))).1 (by decide) (by decide) k) ?_
      show Goes _ _ _ _ _ _ _ (T3.setTop (mkF m 43 #[.val (.int p0), .val (.int ((p0 &&& (2147483647 : Int32)) % (7 : Int32))), .val (.ref a_COMMITTING), .val (.int (0 : Int32)), .val (.int (0 : Int32))] []))
      refine Goes.step (fun _ k => XS.iloadN X3.here hx rfl (hb hby at_43) rfl  k) ?_
      show Goes _ _ _ _ _ _ _ (T3.setTop (mkF m 44 #[.val (.int p0), .val (.int ((p0 &&& (2147483647 : Int32)) % (7 : Int32))), .val (.ref a_COMMITTING), .val (.int (0 : Int32)), .val (.int (0 : Int32))] [(.int (0 : Int32))]))
      refine Goes.step (fun _ k => XS.ifYes X3.here hx rfl (pc0 := 44) (pc' := 57) rfl (hb hby at_44) rfl ((if0 _ _).trans (teq (by decide : (0 : Int32) = (0 : Int32))).1) (by decide) (by decide) k) ?_
      show Goes _ _ _ _ _ _ _ (T3.setTop (mkF m 57 #[.val (.int p0), .val (.int ((p0 &&& (2147483647 : Int32)) % (7 : Int32))), .val (.ref a_COMMITTING), .val (.int (0 : Int32)), .val (.int (0 : Int32))] []))
      refine Goes.step (fun _ k => XS.iconst X3.here hx rfl (hb hby at_57) k) ?_
      show Goes _ _ _ _ _ _ _ (T3.setTop (mkF m 58 #[.val (.int p0), .val (.int ((p0 &&& (2147483647 : Int32)) % (7 : Int32))), .val (.ref a_COMMITTING), .val (.int (0 : Int32)), .val (.int (0 : Int32))] [(.int (1 : Int32))]))
      exact Goes.ret X3 hx (BodyLoose.notSynchronized Bd) Bd.returns rfl (Or.inl ⟨rfl, by simp, _, rfl⟩) (hb hby at_58) (by show Q0 Z p0 a_ACTIVE a_COMMITTED a_ROLLED_BACK a_ROLLING_BACK a_RUNNING a_COMPENSATING a_COMMITTING h0 n0 (some (.int (1 : Int32))) T3.heap _; rw [eh3]; exact ⟨rfl, NA3⟩) (by decide) (by decide)
  · refine Goes.step st1 ?_
    show Goes _ _ _ _ _ _ _ (T1.setTop (mkF m 12 #[.val (.int p0), .val (.int ((p0 &&& (2147483647 : Int32)) % (7 : Int32))), .unset, .unset, .unset] [(.ref a_COMMITTED)]))
    refine Goes.step (fun _ k => XS.astoreN X1.here hx rfl (hb hby at_12) rfl rfl (l' := #[.val (.int p0), .val (.int ((p0 &&& (2147483647 : Int32)) % (7 : Int32))), .val (.ref a_COMMITTED), .unset, .unset]) rfl k) ?_
    show Goes _ _ _ _ _ _ _ (T1.setTop (mkF m 13 #[.val (.int p0), .val (.int ((p0 &&& (2147483647 : Int32)) % (7 : Int32))), .val (.ref a_COMMITTED), .unset, .unset] []))
    refine Goes.step (fun _ k => XS.iloadN X1.here hx rfl (hb hby at_13) rfl  k) ?_
    show Goes _ _ _ _ _ _ _ (T1.setTop (mkF m 14 #[.val (.int p0), .val (.int ((p0 &&& (2147483647 : Int32)) % (7 : Int32))), .val (.ref a_COMMITTED), .unset, .unset] [(.int ((p0 &&& (2147483647 : Int32)) % (7 : Int32)))]))
    refine Goes.step (fun _ k => XS.iconst X1.here hx rfl (hb hby at_14) k) ?_
    show Goes _ _ _ _ _ _ _ (T1.setTop (mkF m 15 #[.val (.int p0), .val (.int ((p0 &&& (2147483647 : Int32)) % (7 : Int32))), .val (.ref a_COMMITTED), .unset, .unset] [(.int (2 : Int32)), (.int ((p0 &&& (2147483647 : Int32)) % (7 : Int32)))]))
    refine Goes.step (fun _ k => XS.icmpYes X1.here hx rfl (pc0 := 15) (pc' := 23) rfl (hb hby at_15) rfl (teq u1_2_2).1 (by decide) (by decide) k) ?_
    show Goes _ _ _ _ _ _ _ (T1.setTop (mkF m 23 #[.val (.int p0), .val (.int ((p0 &&& (2147483647 : Int32)) % (7 : Int32))), .val (.ref a_COMMITTED), .unset, .unset] []))
    refine Goes.step (fun _ k => XS.iconst X1.here hx rfl (hb hby at_23) k) ?_
    show Goes _ _ _ _ _ _ _ (T1.setTop (mkF m 24 #[.val (.int p0), .val (.int ((p0 &&& (2147483647 : Int32)) % (7 : Int32))), .val (.ref a_COMMITTED), .unset, .unset] [(.int (1 : Int32))]))
    refine Goes.step (fun _ k => XS.goto X1.here hx rfl (pc0 := 24) (pc' := 28) rfl (hb hby at_24) (by decide) (by decide) k) ?_
    show Goes _ _ _ _ _ _ _ (T1.setTop (mkF m 28 #[.val (.int p0), .val (.int ((p0 &&& (2147483647 : Int32)) % (7 : Int32))), .val (.ref a_COMMITTED), .unset, .unset] [(.int (1 : Int32))]))
    refine Goes.step (fun _ k => XS.istoreN X1.here hx rfl (hb hby at_28) rfl (l' := #[.val (.int p0), .val (.int ((p0 &&& (2147483647 : Int32)) % (7 : Int32))), .val (.ref a_COMMITTED), .val (.int (1 : Int32)), .unset]) rfl k) ?_
    show Goes _ _ _ _ _ _ _ (T1.setTop (mkF m 29 #[.val (.int p0), .val (.int ((p0 &&& (2147483647 : Int32)) % (7 : Int32))), .val (.ref a_COMMITTED), .val (.int (1 : Int32)), .unset] []))
    refine Goes.step (fun _ k => XS.aloadN X1.here hx rfl (hb hby at_29) rfl rfl k) ?_
    show Goes _ _ _ _ _ _ _ (T1.setTop (mkF m 30 #[.val (.int p0), .val (.int ((p0 &&& (2147483647 : Int32)) % (7 : Int32))), .val (.ref a_COMMITTED), .val (.int (1 : Int32)), .unset] [(.ref a_COMMITTED)]))
    obtain ⟨cq4, kq4, q4a, q4b, q4c⟩ := isOf hZ eh1 E_COMMITTED
    obtain ⟨_, _, ⟨T4, L4, k4, n4⟩, -, X4, ⟨Lc4, hQ4, l4, y4, z4⟩, st4⟩ := X1.virtualBack hx (y := (⟨"com/example/concordat/concordat/TransactionStatus", "isFinal", "()Z"⟩ : MethodName)) (z := (⟨"com/example/concordat/concordat/TransactionStatus", "isFinal", "()Z"⟩ : MethodName)) hown (mvT hZ (hw _ (List.mem_of_getElem? (i := 8) rfl))) (mvT hZ (hw _ (List.mem_of_getElem? (i := 9) rfl))) (notFace_of_selects (args := #[]) (mvT hZ (hw _ (List.mem_of_getElem? (i := 11) rfl)))) (mvT hZ (hw _ (List.mem_of_getElem? (i := 11) rfl))) (mvT hZ (hw _ (List.mem_of_getElem? (i := 10) rfl))) (by decide) (backOf (W := 0) (rm2 l Z a0 hw [] a_COMMITTED a_COMMITTED a_ROLLED_BACK h0 n0 Z0 S_COMMITTED S_ROLLED_BACK X00) hZ (hw _ (List.mem_of_getElem? (i := 12) rfl)) (hw _ (List.mem_of_getElem? (i := 6) rfl)) (by decide) (by decide)) q4a q4c (g := (mkF m 30 #[.val (.int p0), .val (.int ((p0 &&& (2147483647 : Int32)) % (7 : Int32))), .val (.ref a_COMMITTED), .val (.int (1 : Int32)), .unset] [(.ref a_COMMITTED)])) rfl (by rw [hml]; rfl) (Steps.refl _) (argsL := []) (rest := []) (lenOf pd_1 rfl) rfl (by show 2 * 0 + _ ≤ _; exact Nat.le_of_eq rfl) (hb hby at_30) (fun _ _ => ⟨rfl, eh1, (by decide : 0 + 0 ≤ _), (by decide : 0 + 0 ≤ _)⟩)
    dsimp only [Pt.U, Pt.locs, Pt.cells, Pt.slots] at X4 l4 y4 z4 st4 hQ4
    subst l4 y4 z4
    obtain ⟨N4, eh4, hR4⟩ := hQ4
    have NA4 := Fr.app NA1 N4
    rcases hR4 with ⟨rfl, u4_0_0⟩ | ⟨rfl, u4_1_0, u4_1_1⟩ | ⟨rfl, u4_2_0, u4_2_1⟩
    · refine Goes.back st4 ?_
      show Goes _ _ _ _ _ _ _ (T4.setTop (mkF m 33 #[.val (.int p0), .val (.int ((p0 &&& (2147483647 : Int32)) % (7 : Int32))), .val (.ref a_COMMITTED), .val (.int (1 : Int32)), .unset] [(.int (1 : Int32))]))
      refine Goes.step (fun _ k => XS.istore X4.here hx rfl (hb hby at_33) rfl (l' := #[.val (.int p0), .val (.int ((p0 &&& (2147483647 : Int32)) % (7 : Int32))), .val (.ref a_COMMITTED), .val (.int (1 : Int32)), .val (.int (1 : Int32))]) rfl k) ?_
      show Goes _ _ _ _ _ _ _ (T4.setTop (mkF m 35 #[.val (.int p0), .val (.int ((p0 &&& (2147483647 : Int32)) % (7 : Int32))), .val (.ref a_COMMITTED), .val (.int (1 : Int32)), .val (.int (1 : Int32))] []))
      refine Goes.step (fun _ k => XS.iload X4.here hx rfl (hb hby at_35) rfl  k) ?_
      show Goes _ _ _ _ _ _ _ (T4.setTop (mkF m 37 #[.val (.int p0), .val (.int ((p0 &&& (2147483647 : Int32)) % (7 : Int32))), .val (.ref a_COMMITTED), .val (.int (1 : Int32)), .val (.int (1 : Int32))] [(.int (1 : Int32))]))
      refine Goes.step (fun _ k => XS.iloadN X4.here hx rfl (hb hby at_37) rfl  k) ?_
      show Goes _ _ _ _ _ _ _ (T4.setTop (mkF m 38 #[.val (.int p0), .val (.int ((p0 &&& (2147483647 : Int32)) % (7 : Int32))), .val (.ref a_COMMITTED), .val (.int (1 : Int32)), .val (.int (1 : Int32))] [(.int (1 : Int32)), (.int (1 : Int32))]))
      refine Goes.step (fun _ k => XS.icmpYes X4.here hx rfl (pc0 := 38) (pc' := 43) rfl (hb hby at_38) rfl (teq (by decide : (1 : Int32) = (1 : Int32))).1 (by decide) (by decide) k) ?_
      show Goes _ _ _ _ _ _ _ (T4.setTop (mkF m 43 #[.val (.int p0), .val (.int ((p0 &&& (2147483647 : Int32)) % (7 : Int32))), .val (.ref a_COMMITTED), .val (.int (1 : Int32)), .val (.int (1 : Int32))] []))
      refine Goes.step (fun _ k => XS.iloadN X4.here hx rfl (hb hby at_43) rfl  k) ?_
      show Goes _ _ _ _ _ _ _ (T4.setTop (mkF m 44 #[.val (.int p0), .val (.int ((p0 &&& (2147483647 : Int32)) % (7 : Int32))), .val (.ref a_COMMITTED), .val (.int (1 : Int32)), .val (.int (1 : Int32))] [(.int (1 : Int32))]))
      refine Goes.step (fun _ k => XS.ifNo X4.here hx rfl (hb hby at_44) rfl ((if0 _ _).trans (feq (by decide : ¬ ((1 : Int32) = (0 : Int32)))).1) k) ?_
      show Goes _ _ _ _ _ _ _ (T4.setTop (mkF m 47 #[.val (.int p0), .val (.int ((p0 &&& (2147483647 : Int32)) % (7 : Int32))), .val (.ref a_COMMITTED), .val (.int (1 : Int32)), .val (.int (1 : Int32))] []))
      refine Goes.step (fun _ k => XS.aloadN X4.here hx rfl (hb hby at_47) rfl rfl k) ?_
      show Goes _ _ _ _ _ _ _ (T4.setTop (mkF m 48 #[.val (.int p0), .val (.int ((p0 &&& (2147483647 : Int32)) % (7 : Int32))), .val (.ref a_COMMITTED), .val (.int (1 : Int32)), .val (.int (1 : Int32))] [(.ref a_COMMITTED)]))
      obtain ⟨cq5, kq5, q5a, q5b, q5c⟩ := isOf hZ eh4 E_COMMITTED
      obtain ⟨_, _, ⟨T5, L5, k5, n5⟩, -, X5, ⟨Lc5, hQ5, l5, y5, z5⟩, st5⟩ := X4.virtualBack hx (y := (⟨"com/example/concordat/concordat/TransactionStatus", "outcome", "()Lcom/example/concordat/concordat/TransactionStatus;"⟩ : MethodName)) (z := (⟨"com/example/concordat/concordat/TransactionStatus", "outcome", "()Lcom/example/concordat/concordat/TransactionStatus;"⟩ : MethodName)) hown (mvT hZ (hw _ (List.mem_of_getElem? (i := 24) rfl))) (mvT hZ (hw _ (List.mem_of_getElem? (i := 25) rfl))) (notFace_of_selects (args := #[]) (mvT hZ (hw _ (List.mem_of_getElem? (i := 27) rfl)))) (mvT hZ (hw _ (List.mem_of_getElem? (i := 27) rfl))) (mvT hZ (hw _ (List.mem_of_getElem? (i := 26) rfl))) (by decide) (backOf (W := 0) (rm3 l Z a0 hw [] a_COMMITTED a_COMMITTED a_ROLLED_BACK (2 : Int32) h0 n0 Z0 S_COMMITTED S_ROLLED_BACK X00 O_COMMITTED E_COMMITTED) hZ (hw _ (List.mem_of_getElem? (i := 28) rfl)) (hw _ (List.mem_of_getElem? (i := 6) rfl)) (by decide) (by decide)) q5a q5c (g := (mkF m 48 #[.val (.int p0), .val (.int ((p0 &&& (2147483647 : Int32)) % (7 : Int32))), .val (.ref a_COMMITTED), .val (.int (1 : Int32)), .val (.int (1 : Int32))] [(.ref a_COMMITTED)])) rfl (by rw [hml]; rfl) (Steps.refl _) (argsL := []) (rest := []) (lenOf pd_2 rfl) rfl (by show 2 * 0 + _ ≤ _; exact Nat.le_of_eq rfl) (hb hby at_48) (fun _ _ => ⟨rfl, eh4, (by decide : 0 + 0 ≤ _), (by decide : 0 + 0 ≤ _)⟩)
      dsimp only [Pt.U, Pt.locs, Pt.cells, Pt.slots] at X5 l5 y5 z5 st5 hQ5
      subst l5 y5 z5
      obtain ⟨N5, eh5, hR5⟩ := hQ5
      have NA5 := Fr.app NA4 N5
      rcases hR5 with ⟨rfl, u5_0_0⟩ | ⟨rfl, u5_1_0, u5_1_1⟩ | ⟨rfl, u5_2_0, u5_2_1, u5_2_2⟩ | ⟨rfl, u5_3_0, u5_3_1, u5_3_2⟩
      · exact absurd u5_0_0 (by decide : ¬ ((2 : Int32) = (1 : Int32)))
      · exact absurd u5_1_1 (by decide : ¬ ((2 : Int32) = (3 : Int32)))
      · exact absurd u5_2_2 (by decide : ¬ ((2 : Int32) = (6 : Int32)))
      · refine Goes.back st5 ?_
        show Goes _ _ _ _ _ _ _ (T5.setTop (mkF m 51 #[.val (.int p0), .val (.int ((p0 &&& (2147483647 : Int32)) % (7 : Int32))), .val (.ref a_COMMITTED), .val (.int (1 : Int32)), .val (.int (1 : Int32))] [(.ref a_COMMITTED)]))
        refine Goes.step (fun _ k => XS.aloadN X5.here hx rfl (hb hby at_51) rfl rfl k) ?_
        show Goes _ _ _ _ _ _ _ (T5.setTop (mkF m 52 #[.val (.int p0), .val (.int ((p0 &&& (2147483647 : Int32)) % (7 : Int32))), .val (.ref a_COMMITTED), .val (.int (1 : Int32)), .val (.int (1 : Int32))] [(.ref a_COMMITTED), (.ref a_COMMITTED)]))
        refine Goes.step (fun _ k => Jvm.RoadKit.acmp X5 hx rfl rfl rfl (pc0 := 52) (pc' := 57) (same := true) rfl (hb hby at_52) rfl (decide_eq_true rfl) (by decide) (by decide) k) ?_
        show Goes _ _ _ _ _ _ _ (T5.setTop (mkF m 57 #[.val (.int p0), .val (.int ((p0 &&& (2147483647 : Int32)) % (7 : Int32))), .val (.ref a_COMMITTED), .val (.int (1 : Int32)), .val (.int (1 : Int32))] []))
        refine Goes.step (fun _ k => XS.iconst X5.here hx rfl (hb hby at_57) k) ?_
        show Goes _ _ _ _ _ _ _ (T5.setTop (mkF m 58 #[.val (.int p0), .val (.int ((p0 &&& (2147483647 : Int32)) % (7 : Int32))), .val (.ref a_COMMITTED), .val (.int (1 : Int32)), .val (.int (1 : Int32))] [(.int (1 : Int32))]))
        exact Goes.ret X5 hx (BodyLoose.notSynchronized Bd) Bd.returns rfl (Or.inl ⟨rfl, by simp, _, rfl⟩) (hb hby at_58) (by show Q0 Z p0 a_ACTIVE a_COMMITTED a_ROLLED_BACK a_ROLLING_BACK a_RUNNING a_COMPENSATING a_COMMITTING h0 n0 (some (.int (1 : Int32))) T5.heap _; rw [eh5]; exact ⟨rfl, NA5⟩) (by decide) (by decide)
    · exact absurd (rfl : a_COMMITTED = a_COMMITTED) u4_1_0
    · exact absurd (rfl : a_COMMITTED = a_COMMITTED) u4_2_0
  · refine Goes.step st1 ?_
    show Goes _ _ _ _ _ _ _ (T1.setTop (mkF m 12 #[.val (.int p0), .val (.int ((p0 &&& (2147483647 : Int32)) % (7 : Int32))), .unset, .unset, .unset] [(.ref a_ROLLING_BACK)]))
    refine Goes.step (fun _ k => XS.astoreN X1.here hx rfl (hb hby at_12) rfl rfl (l' := #[.val (.int p0), .val (.int ((p0 &&& (2147483647 : Int32)) % (7 : Int32))), .val (.ref a_ROLLING_BACK), .unset, .unset]) rfl k) ?_
    show Goes _ _ _ _ _ _ _ (T1.setTop (mkF m 13 #[.val (.int p0), .val (.int ((p0 &&& (2147483647 : Int32)) % (7 : Int32))), .val (.ref a_ROLLING_BACK), .unset, .unset] []))
    refine Goes.step (fun _ k => XS.iloadN X1.here hx rfl (hb hby at_13) rfl  k) ?_
    show Goes _ _ _ _ _ _ _ (T1.setTop (mkF m 14 #[.val (.int p0), .val (.int ((p0 &&& (2147483647 : Int32)) % (7 : Int32))), .val (.ref a_ROLLING_BACK), .unset, .unset] [(.int ((p0 &&& (2147483647 : Int32)) % (7 : Int32)))]))
    refine Goes.step (fun _ k => XS.iconst X1.here hx rfl (hb hby at_14) k) ?_
    show Goes _ _ _ _ _ _ _ (T1.setTop (mkF m 15 #[.val (.int p0), .val (.int ((p0 &&& (2147483647 : Int32)) % (7 : Int32))), .val (.ref a_ROLLING_BACK), .unset, .unset] [(.int (2 : Int32)), (.int ((p0 &&& (2147483647 : Int32)) % (7 : Int32)))]))
    refine Goes.step (fun _ k => XS.icmpNo X1.here hx rfl (hb hby at_15) rfl (feq u1_3_2).1 k) ?_
    show Goes _ _ _ _ _ _ _ (T1.setTop (mkF m 18 #[.val (.int p0), .val (.int ((p0 &&& (2147483647 : Int32)) % (7 : Int32))), .val (.ref a_ROLLING_BACK), .unset, .unset] []))
    refine Goes.step (fun _ k => XS.iloadN X1.here hx rfl (hb hby at_18) rfl  k) ?_
    show Goes _ _ _ _ _ _ _ (T1.setTop (mkF m 19 #[.val (.int p0), .val (.int ((p0 &&& (2147483647 : Int32)) % (7 : Int32))), .val (.ref a_ROLLING_BACK), .unset, .unset] [(.int ((p0 &&& (2147483647 : Int32)) % (7 : Int32)))]))
    refine Goes.step (fun _ k => XS.iconst X1.here hx rfl (hb hby at_19) k) ?_
    show Goes _ _ _ _ _ _ _ (T1.setTop (mkF m 20 #[.val (.int p0), .val (.int ((p0 &&& (2147483647 : Int32)) % (7 : Int32))), .val (.ref a_ROLLING_BACK), .unset, .unset] [(.int (4 : Int32)), (.int ((p0 &&& (2147483647 : Int32)) % (7 : Int32)))]))
    refine Goes.step (fun _ k => XS.icmpYes X1.here hx rfl (pc0 := 20) (pc' := 27) rfl (hb hby at_20) rfl (feq (by rw [u1_3_3]; decide : ¬ (((p0 &&& (2147483647 : Int32)) % (7 : Int32)) = (4 : Int32)))).2 (by decide) (by decide) k) ?_
    show Goes _ _ _ _ _ _ _ (T1.setTop (mkF m 27 #[.val (.int p0), .val (.int ((p0 &&& (2147483647 : Int32)) % (7 : Int32))), .val (.ref a_ROLLING_BACK), .unset, .unset] []))
    refine Goes.step (fun _ k => XS.iconst X1.here hx rfl (hb hby at_27) k) ?_
    show Goes _ _ _ _ _ _ _ (T1.setTop (mkF m 28 #[.val (.int p0), .val (.int ((p0 &&& (2147483647 : Int32)) % (7 : Int32))), .val (.ref a_ROLLING_BACK), .unset, .unset] [(.int (0 : Int32))]))
    refine Goes.step (fun _ k => XS.istoreN X1.here hx rfl (hb hby at_28) rfl (l' := #[.val (.int p0), .val (.int ((p0 &&& (2147483647 : Int32)) % (7 : Int32))), .val (.ref a_ROLLING_BACK), .val (.int (0 : Int32)), .unset]) rfl k) ?_
    show Goes _ _ _ _ _ _ _ (T1.setTop (mkF m 29 #[.val (.int p0), .val (.int ((p0 &&& (2147483647 : Int32)) % (7 : Int32))), .val (.ref a_ROLLING_BACK), .val (.int (0 : Int32)), .unset] []))
    refine Goes.step (fun _ k => XS.aloadN X1.here hx rfl (hb hby at_29) rfl rfl k) ?_
    show Goes _ _ _ _ _ _ _ (T1.setTop (mkF m 30 #[.val (.int p0), .val (.int ((p0 &&& (2147483647 : Int32)) % (7 : Int32))), .val (.ref a_ROLLING_BACK), .val (.int (0 : Int32)), .unset] [(.ref a_ROLLING_BACK)]))
    obtain ⟨cq6, kq6, q6a, q6b, q6c⟩ := isOf hZ eh1 E_ROLLING_BACK
    obtain ⟨_, _, ⟨T6, L6, k6, n6⟩, -, X6, ⟨Lc6, hQ6, l6, y6, z6⟩, st6⟩ := X1.virtualBack hx (y := (⟨"com/example/concordat/concordat/TransactionStatus", "isFinal", "()Z"⟩ : MethodName)) (z := (⟨"com/example/concordat/concordat/TransactionStatus", "isFinal", "()Z"⟩ : MethodName)) hown (mvT hZ (hw _ (List.mem_of_getElem? (i := 8) rfl))) (mvT hZ (hw _ (List.mem_of_getElem? (i := 9) rfl))) (notFace_of_selects (args := #[]) (mvT hZ (hw _ (List.mem_of_getElem? (i := 11) rfl)))) (mvT hZ (hw _ (List.mem_of_getElem? (i := 11) rfl))) (mvT hZ (hw _ (List.mem_of_getElem? (i := 10) rfl))) (by decide) (backOf (W := 0) (rm2 l Z a0 hw [] a_ROLLING_BACK a_COMMITTED a_ROLLED_BACK h0 n0 Z0 S_COMMITTED S_ROLLED_BACK X00) hZ (hw _ (List.mem_of_getElem? (i := 12) rfl)) (hw _ (List.mem_of_getElem? (i := 6) rfl)) (by decide) (by decide)) q6a q6c (g := (mkF m 30 #[.val (.int p0), .val (.int ((p0 &&& (2147483647 : Int32)) % (7 : Int32))), .val (.ref a_ROLLING_BACK), .val (.int (0 : Int32)), .unset] [(.ref a_ROLLING_BACK)])) rfl (by rw [hml]; rfl) (Steps.refl _) (argsL := []) (rest := []) (lenOf pd_1 rfl) rfl (by show 2 * 0 + _ ≤ _; exact Nat.le_of_eq rfl) (hb hby at_30) (fun _ _ => ⟨rfl, eh1, (by decide : 0 + 0 ≤ _), (by decide : 0 + 0 ≤ _)⟩)
    dsimp only [Pt.U, Pt.locs, Pt.cells, Pt.slots] at X6 l6 y6 z6 st6 hQ6
    subst l6 y6 z6
    obtain ⟨N6, eh6, hR6⟩ := hQ6
    have NA6 := Fr.app NA1 N6
    rcases hR6 with ⟨rfl, u6_0_0⟩ | ⟨rfl, u6_1_0, u6_1_1⟩ | ⟨rfl, u6_2_0, u6_2_1⟩
    · exact absurd u6_0_0 ne_ROLLING_BACK_COMMITTED
    · exact absurd u6_1_1 ne_ROLLING_BACK_ROLLED_BACK
    · refine Goes.back st6 ?_
      show Goes _ _ _ _ _ _ _ (T6.setTop (mkF m 33 #[.val (.int p0), .val (.int ((p0 &&& (2147483647 : Int32)) % (7 : Int32))), .val (.ref a_ROLLING_BACK), .val (.int (0 : Int32)), .unset] [(.int (0 : Int32))]))
      refine Goes.step (fun _ k => XS.istore X6.here hx rfl (hb hby at_33) rfl (l' := #[.val (.int p0), .val (.int ((p0 &&& (2147483647 : Int32)) % (7 : Int32))), .val (.ref a_ROLLING_BACK), .val (.int (0 : Int32)), .val (.int (0 : Int32))]) rfl k) ?_
      show Goes _ _ _ _ _ _ _ (T6.setTop (mkF m 35 #[.val (.int p0), .val (.int ((p0 &&& (2147483647 : Int32)) % (7 : Int32))), .val (.ref a_ROLLING_BACK), .val (.int (0 : Int32)), .val (.int (0 : Int32))] []))
      refine Goes.step (fun _ k => XS.iload X6.here hx rfl (hb hby at_35) rfl  k) ?_
      show Goes _ _ _ _ _ _ _ (T6.setTop (mkF m 37 #[.val (.int p0), .val (.int ((p0 &&& (2147483647 : Int32)) % (7 : Int32))), .val (.ref a_ROLLING_BACK), .val (.int (0 : Int32)), .val (.int (0 : Int32))] [(.int (0 : Int32))]))
      refine Goes.step (fun _ k => XS.iloadN X6.here hx rfl (hb hby at_37) rfl  k) ?_
      show Goes _ _ _ _ _ _ _ (T6.setTop (mkF m 38 #[.val (.int p0), .val (.int ((p0 &&& (2147483647 : Int32)) % (7 : Int32))), .val (.ref a_ROLLING_BACK), .val (.int (0 : Int32)), .val (.int (0 : Int32))] [(.int (0 : Int32)), (.int (0 : Int32))]))
      refine Goes.step (fun _ k => XS.icmpYes X6.here hx rfl (pc0 := 38) (pc' := 43) rfl (hb hby at_38) rfl (teq (by decide : (0 : Int32) = (0 : Int32))).1 (by decide) (by decide) k) ?_
      show Goes _ _ _ _ _ _ _ (T6.setTop (mkF m 43 #[.val (.int p0), .val (.int ((p0 &&& (2147483647 : Int32)) % (7 : Int32))), .val (.ref a_ROLLING_BACK), .val (.int (0 : Int32)), .val (.int (0 : Int32))] []))
      refine Goes.step (fun _ k => XS.iloadN X6.here hx rfl (hb hby at_43) rfl  k) ?_
      show Goes _ _ _ _ _ _ _ (T6.setTop (mkF m 44 #[.val (.int p0), .val (.int ((p0 &&& (2147483647 : Int32)) % (7 : Int32))), .val (.ref a_ROLLING_BACK), .val (.int (0 : Int32)), .val (.int (0 : Int32))] [(.int (0 : Int32))]))
      refine Goes.step (fun _ k => XS.ifYes X6.here hx rfl (pc0 := 44) (pc' := 57) rfl (hb hby at_44) rfl ((if0 _ _).trans (teq (by decide : (0 : Int32) = (0 : Int32))).1) (by decide) (by decide) k) ?_
      show Goes _ _ _ _ _ _ _ (T6.setTop (mkF m 57 #[.val (.int p0), .val (.int ((p0 &&& (2147483647 : Int32)) % (7 : Int32))), .val (.ref a_ROLLING_BACK), .val (.int (0 : Int32)), .val (.int (0 : Int32))] []))
      refine Goes.step (fun _ k => XS.iconst X6.here hx rfl (hb hby at_57) k) ?_
      show Goes _ _ _ _ _ _ _ (T6.setTop (mkF m 58 #[.val (.int p0), .val (.int ((p0 &&& (2147483647 : Int32)) % (7 : Int32))), .val (.ref a_ROLLING_BACK), .val (.int (0 : Int32)), .val (.int (0 : Int32))] [(.int (1 : Int32))]))
      exact Goes.ret X6 hx (BodyLoose.notSynchronized Bd) Bd.returns rfl (Or.inl ⟨rfl, by simp, _, rfl⟩) (hb hby at_58) (by show Q0 Z p0 a_ACTIVE a_COMMITTED a_ROLLED_BACK a_ROLLING_BACK a_RUNNING a_COMPENSATING a_COMMITTING h0 n0 (some (.int (1 : Int32))) T6.heap _; rw [eh6]; exact ⟨rfl, NA6⟩) (by decide) (by decide)
  · refine Goes.step st1 ?_
    show Goes _ _ _ _ _ _ _ (T1.setTop (mkF m 12 #[.val (.int p0), .val (.int ((p0 &&& (2147483647 : Int32)) % (7 : Int32))), .unset, .unset, .unset] [(.ref a_ROLLED_BACK)]))
    refine Goes.step (fun _ k => XS.astoreN X1.here hx rfl (hb hby at_12) rfl rfl (l' := #[.val (.int p0), .val (.int ((p0 &&& (2147483647 : Int32)) % (7 : Int32))), .val (.ref a_ROLLED_BACK), .unset, .unset]) rfl k) ?_
    show Goes _ _ _ _ _ _ _ (T1.setTop (mkF m 13 #[.val (.int p0), .val (.int ((p0 &&& (2147483647 : Int32)) % (7 : Int32))), .val (.ref a_ROLLED_BACK), .unset, .unset] []))
    refine Goes.step (fun _ k => XS.iloadN X1.here hx rfl (hb hby at_13) rfl  k) ?_
    show Goes _ _ _ _ _ _ _ (T1.setTop (mkF m 14 #[.val (.int p0), .val (.int ((p0 &&& (2147483647 : Int32)) % (7 : Int32))), .val (.ref a_ROLLED_BACK), .unset, .unset] [(.int ((p0 &&& (2147483647 : Int32)) % (7 : Int32)))]))
    refine Goes.step (fun _ k => XS.iconst X1.here hx rfl (hb hby at_14) k) ?_
    show Goes _ _ _ _ _ _ _ (T1.setTop (mkF m 15 #[.val (.int p0), .val (.int ((p0 &&& (2147483647 : Int32)) % (7 : Int32))), .val (.ref a_ROLLED_BACK), .unset, .unset] [(.int (2 : Int32)), (.int ((p0 &&& (2147483647 : Int32)) % (7 : Int32)))]))
    refine Goes.step (fun _ k => XS.icmpNo X1.here hx rfl (hb hby at_15) rfl (feq u1_4_2).1 k) ?_
    show Goes _ _ _ _ _ _ _ (T1.setTop (mkF m 18 #[.val (.int p0), .val (.int ((p0 &&& (2147483647 : Int32)) % (7 : Int32))), .val (.ref a_ROLLED_BACK), .unset, .unset] []))
    refine Goes.step (fun _ k => XS.iloadN X1.here hx rfl (hb hby at_18) rfl  k) ?_
    show Goes _ _ _ _ _ _ _ (T1.setTop (mkF m 19 #[.val (.int p0), .val (.int ((p0 &&& (2147483647 : Int32)) % (7 : Int32))), .val (.ref a_ROLLED_BACK), .unset, .unset] [(.int ((p0 &&& (2147483647 : Int32)) % (7 : Int32)))]))
    refine Goes.step (fun _ k => XS.iconst X1.here hx rfl (hb hby at_19) k) ?_
    show Goes _ _ _ _ _ _ _ (T1.setTop (mkF m 20 #[.val (.int p0), .val (.int ((p0 &&& (2147483647 : Int32)) % (7 : Int32))), .val (.ref a_ROLLED_BACK), .unset, .unset] [(.int (4 : Int32)), (.int ((p0 &&& (2147483647 : Int32)) % (7 : Int32)))]))
    refine Goes.step (fun _ k => XS.icmpNo X1.here hx rfl (hb hby at_20) rfl (teq u1_4_4).2 k) ?_
    show Goes _ _ _ _ _ _ _ (T1.setTop (mkF m 23 #[.val (.int p0), .val (.int ((p0 &&& (2147483647 : Int32)) % (7 : Int32))), .val (.ref a_ROLLED_BACK), .unset, .unset] []))
    refine Goes.step (fun _ k => XS.iconst X1.here hx rfl (hb hby at_23) k) ?_
    show Goes _ _ _ _ _ _ _ (T1.setTop (mkF m 24 #[.val (.int p0), .val (.int ((p0 &&& (2147483647 : Int32)) % (7 : Int32))), .val (.ref a_ROLLED_BACK), .unset, .unset] [(.int (1 : Int32))]))
    refine Goes.step (fun _ k => XS.goto X1.here hx rfl (pc0 := 24) (pc' := 28) rfl (hb hby at_24) (by decide) (by decide) k) ?_
    show Goes _ _ _ _ _ _ _ (T1.setTop (mkF m 28 #[.val (.int p0), .val (.int ((p0 &&& (2147483647 : Int32)) % (7 : Int32))), .val (.ref a_ROLLED_BACK), .unset, .unset] [(.int (1 : Int32))]))
    refine Goes.step (fun _ k => XS.istoreN X1.here hx rfl (hb hby at_28) rfl (l' := #[.val (.int p0), .val (.int ((p0 &&& (2147483647 : Int32)) % (7 : Int32))), .val (.ref a_ROLLED_BACK), .val (.int (1 : Int32)), .unset]) rfl k) ?_
    show Goes _ _ _ _ _ _ _ (T1.setTop (mkF m 29 #[.val (.int p0), .val (.int ((p0 &&& (2147483647 : Int32)) % (7 : Int32))), .val (.ref a_ROLLED_BACK), .val (.int (1 : Int32)), .unset] []))
    refine Goes.step (fun _ k => XS.aloadN X1.here hx rfl (hb hby at_29) rfl rfl k) ?_
    show Goes _ _ _ _ _ _ _ (T1.setTop (mkF m 30 #[.val (.int p0), .val (.int ((p0 &&& (2147483647 : Int32)) % (7 : Int32))), .val (.ref a_ROLLED_BACK), .val (.int (1 : Int32)), .unset] [(.ref a_ROLLED_BACK)]))
    obtain ⟨cq7, kq7, q7a, q7b, q7c⟩ := isOf hZ eh1 E_ROLLED_BACK
    obtain ⟨_, _, ⟨T7, L7, k7, n7⟩, -, X7, ⟨Lc7, hQ7, l7, y7, z7⟩, st7⟩ := X1.virtualBack hx (y := (⟨"com/example/concordat/concordat/TransactionStatus", "isFinal", "()Z"⟩ : MethodName)) (z := (⟨"com/example/concordat/concordat/TransactionStatus", "isFinal", "()Z"⟩ : MethodName)) hown (mvT hZ (hw _ (List.mem_of_getElem? (i := 8) rfl))) (mvT hZ (hw _ (List.mem_of_getElem? (i := 9) rfl))) (notFace_of_selects (args := #[]) (mvT hZ (hw _ (List.mem_of_getElem? (i := 11) rfl)))) (mvT hZ (hw _ (List.mem_of_getElem? (i := 11) rfl))) (mvT hZ (hw _ (List.mem_of_getElem? (i := 10) rfl))) (by decide) (backOf (W := 0) (rm2 l Z a0 hw [] a_ROLLED_BACK a_COMMITTED a_ROLLED_BACK h0 n0 Z0 S_COMMITTED S_ROLLED_BACK X00) hZ (hw _ (List.mem_of_getElem? (i := 12) rfl)) (hw _ (List.mem_of_getElem? (i := 6) rfl)) (by decide) (by decide)) q7a q7c (g := (mkF m 30 #[.val (.int p0), .val (.int ((p0 &&& (2147483647 : Int32)) % (7 : Int32))), .val (.ref a_ROLLED_BACK), .val (.int (1 : Int32)), .unset] [(.ref a_ROLLED_BACK)])) rfl (by rw [hml]; rfl) (Steps.refl _) (argsL := []) (rest := []) (lenOf pd_1 rfl) rfl (by show 2 * 0 + _ ≤ _; exact Nat.le_of_eq rfl) (hb hby at_30) (fun _ _ => ⟨rfl, eh1, (by decide : 0 + 0 ≤ _), (by decide : 0 + 0 ≤ _)⟩)
    dsimp only [Pt.U, Pt.locs, Pt.cells, Pt.slots] at X7 l7 y7 z7 st7 hQ7
    subst l7 y7 z7
    obtain ⟨N7, eh7, hR7⟩ := hQ7
    have NA7 := Fr.app NA1 N7
    rcases hR7 with ⟨rfl, u7_0_0⟩ | ⟨rfl, u7_1_0, u7_1_1⟩ | ⟨rfl, u7_2_0, u7_2_1⟩
    · exact absurd u7_0_0 ne_ROLLED_BACK_COMMITTED
    · refine Goes.back st7 ?_
      show Goes _ _ _ _ _ _ _ (T7.setTop (mkF m 33 #[.val (.int p0), .val (.int ((p0 &&& (2147483647 : Int32)) % (7 : Int32))), .val (.ref a_ROLLED_BACK), .val (.int (1 : Int32)), .unset] [(.int (1 : Int32))]))
      refine Goes.step (fun _ k => XS.istore X7.here hx rfl (hb hby at_33) rfl (l' := #[.val (.int p0), .val (.int ((p0 &&& (2147483647 : Int32)) % (7 : Int32))), .val (.ref a_ROLLED_BACK), .val (.int (1 : Int32)), .val (.int (1 : Int32))]) rfl k) ?_
      show Goes _ _ _ _ _ _ _ (T7.setTop (mkF m 35 #[.val (.int p0), .val (.int ((p0 &&& (2147483647 : Int32)) % (7 : Int32))), .val (.ref a_ROLLED_BACK), .val (.int (1 : Int32)), .val (.int (1 : Int32))] []))
      refine Goes.step (fun _ k => XS.iload X7.here hx rfl (hb hby at_35) rfl  k) ?_
      show Goes _ _ _ _ _ _ _ (T7.setTop (mkF m 37 #[.val (.int p0), .val (.int ((p0 &&& (2147483647 : Int32)) % (7 : Int32))), .val (.ref a_ROLLED_BACK), .val (.int (1 : Int32)), .val (.int (1 : Int32))] [(.int (1 : Int32))]))
      refine Goes.step (fun _ k => XS.iloadN X7.here hx rfl (hb hby at_37) rfl  k) ?_
      show Goes _ _ _ _ _ _ _ (T7.setTop (mkF m 38 #[.val (.int p0), .val (.int ((p0 &&& (2147483647 : Int32)) % (7 : Int32))), .val (.ref a_ROLLED_BACK), .val (.int (1 : Int32)), .val (.int (1 : Int32))] [(.int (1 : Int32)), (.int (1 : Int32))]))
      refine Goes.step (fun _ k => XS.icmpYes X7.here hx rfl (pc0 := 38) (pc' := 43) rfl (hb hby at_38) rfl (teq (by decide : (1 : Int32) = (1 : Int32))).1 (by decide) (by decide) k) ?_
      show Goes _ _ _ _ _ _ _ (T7.setTop (mkF m 43 #[.val (.int p0), .val (.int ((p0 &&& (2147483647 : Int32)) % (7 : Int32))), .val (.ref a_ROLLED_BACK), .val (.int (1 : Int32)), .val (.int (1 : Int32))] []))
      refine Goes.step (fun _ k => XS.iloadN X7.here hx rfl (hb hby at_43) rfl  k) ?_
      show Goes _ _ _ _ _ _ _ (T7.setTop (mkF m 44 #[.val (.int p0), .val (.int ((p0 &&& (2147483647 : Int32)) % (7 : Int32))), .val (.ref a_ROLLED_BACK), .val (.int (1 : Int32)), .val (.int (1 : Int32))] [(.int (1 : Int32))]))
      refine Goes.step (fun _ k => XS.ifNo X7.here hx rfl (hb hby at_44) rfl ((if0 _ _).trans (feq (by decide : ¬ ((1 : Int32) = (0 : Int32)))).1) k) ?_
      show Goes _ _ _ _ _ _ _ (T7.setTop (mkF m 47 #[.val (.int p0), .val (.int ((p0 &&& (2147483647 : Int32)) % (7 : Int32))), .val (.ref a_ROLLED_BACK), .val (.int (1 : Int32)), .val (.int (1 : Int32))] []))
      refine Goes.step (fun _ k => XS.aloadN X7.here hx rfl (hb hby at_47) rfl rfl k) ?_
      show Goes _ _ _ _ _ _ _ (T7.setTop (mkF m 48 #[.val (.int p0), .val (.int ((p0 &&& (2147483647 : Int32)) % (7 : Int32))), .val (.ref a_ROLLED_BACK), .val (.int (1 : Int32)), .val (.int (1 : Int32))] [(.ref a_ROLLED_BACK)]))
      obtain ⟨cq8, kq8, q8a, q8b, q8c⟩ := isOf hZ eh7 E_ROLLED_BACK
      obtain ⟨_, _, ⟨T8, L8, k8, n8⟩, -, X8, ⟨Lc8, hQ8, l8, y8, z8⟩, st8⟩ := X7.virtualBack hx (y := (⟨"com/example/concordat/concordat/TransactionStatus", "outcome", "()Lcom/example/concordat/concordat/TransactionStatus;"⟩ : MethodName)) (z := (⟨"com/example/concordat/concordat/TransactionStatus", "outcome", "()Lcom/example/concordat/concordat/TransactionStatus;"⟩ : MethodName)) hown (mvT hZ (hw _ (List.mem_of_getElem? (i := 24) rfl))) (mvT hZ (hw _ (List.mem_of_getElem? (i := 25) rfl))) (notFace_of_selects (args := #[]) (mvT hZ (hw _ (List.mem_of_getElem? (i := 27) rfl)))) (mvT hZ (hw _ (List.mem_of_getElem? (i := 27) rfl))) (mvT hZ (hw _ (List.mem_of_getElem? (i := 26) rfl))) (by decide) (backOf (W := 0) (rm3 l Z a0 hw [] a_ROLLED_BACK a_COMMITTED a_ROLLED_BACK (4 : Int32) h0 n0 Z0 S_COMMITTED S_ROLLED_BACK X00 O_ROLLED_BACK E_ROLLED_BACK) hZ (hw _ (List.mem_of_getElem? (i := 28) rfl)) (hw _ (List.mem_of_getElem? (i := 6) rfl)) (by decide) (by decide)) q8a q8c (g := (mkF m 48 #[.val (.int p0), .val (.int ((p0 &&& (2147483647 : Int32)) % (7 : Int32))), .val (.ref a_ROLLED_BACK), .val (.int (1 : Int32)), .val (.int (1 : Int32))] [(.ref a_ROLLED_BACK)])) rfl (by rw [hml]; rfl) (Steps.refl _) (argsL := []) (rest := []) (lenOf pd_2 rfl) rfl (by show 2 * 0 + _ ≤ _; exact Nat.le_of_eq rfl) (hb hby at_48) (fun _ _ => ⟨rfl, eh7, (by decide : 0 + 0 ≤ _), (by decide : 0 + 0 ≤ _)⟩)
      dsimp only [Pt.U, Pt.locs, Pt.cells, Pt.slots] at X8 l8 y8 z8 st8 hQ8
      subst l8 y8 z8
      obtain ⟨N8, eh8, hR8⟩ := hQ8
      have NA8 := Fr.app NA7 N8
      rcases hR8 with ⟨rfl, u8_0_0⟩ | ⟨rfl, u8_1_0, u8_1_1⟩ | ⟨rfl, u8_2_0, u8_2_1, u8_2_2⟩ | ⟨rfl, u8_3_0, u8_3_1, u8_3_2⟩
      · exact absurd u8_0_0 (by decide : ¬ ((4 : Int32) = (1 : Int32)))
      · exact absurd u8_1_1 (by decide : ¬ ((4 : Int32) = (3 : Int32)))
      · exact absurd u8_2_2 (by decide : ¬ ((4 : Int32) = (6 : Int32)))
      · refine Goes.back st8 ?_
        show Goes _ _ _ _ _ _ _ (T8.setTop (mkF m 51 #[.val (.int p0), .val (.int ((p0 &&& (2147483647 : Int32)) % (7 : Int32))), .val (.ref a_ROLLED_BACK), .val (.int (1 : Int32)), .val (.int (1 : Int32))] [(.ref a_ROLLED_BACK)]))
        refine Goes.step (fun _ k => XS.aloadN X8.here hx rfl (hb hby at_51) rfl rfl k) ?_
        show Goes _ _ _ _ _ _ _ (T8.setTop (mkF m 52 #[.val (.int p0), .val (.int ((p0 &&& (2147483647 : Int32)) % (7 : Int32))), .val (.ref a_ROLLED_BACK), .val (.int (1 : Int32)), .val (.int (1 : Int32))] [(.ref a_ROLLED_BACK), (.ref a_ROLLED_BACK)]))
        refine Goes.step (fun _ k => Jvm.RoadKit.acmp X8 hx rfl rfl rfl (pc0 := 52) (pc' := 57) (same := true) rfl (hb hby at_52) rfl (decide_eq_true rfl) (by decide) (by decide) k) ?_
        show Goes _ _ _ _ _ _ _ (T8.setTop (mkF m 57 #[.val (.int p0), .val (.int ((p0 &&& (2147483647 : Int32)) % (7 : Int32))), .val (.ref a_ROLLED_BACK), .val (.int (1 : Int32)), .val (.int (1 : Int32))] []))
        refine Goes.step (fun _ k => XS.iconst X8.here hx rfl (hb hby at_57) k) ?_
        show Goes _ _ _ _ _ _ _ (T8.setTop (mkF m 58 #[.val (.int p0), .val (.int ((p0 &&& (2147483647 : Int32)) % (7 : Int32))), .val (.ref a_ROLLED_BACK), .val (.int (1 : Int32)), .val (.int (1 : Int32))] [(.int (1 : Int32))]))
        exact Goes.ret X8 hx (BodyLoose.notSynchronized Bd) Bd.returns rfl (Or.inl ⟨rfl, by simp, _, rfl⟩) (hb hby at_58) (by show Q0 Z p0 a_ACTIVE a_COMMITTED a_ROLLED_BACK a_ROLLING_BACK a_RUNNING a_COMPENSATING a_COMMITTING h0 n0 (some (.int (1 : Int32))) T8.heap _; rw [eh8]; exact ⟨rfl, NA8⟩) (by decide) (by decide)
    · exact absurd (rfl : a_ROLLED_BACK = a_ROLLED_BACK) u7_2_1
  · refine Goes.step st1 ?_
    show Goes _ _ _ _ _ _ _ (T1.setTop (mkF m 12 #[.val (.int p0), .val (.int ((p0 &&& (2147483647 : Int32)) % (7 : Int32))), .unset, .unset, .unset] [(.ref a_RUNNING)]))
    refine Goes.step (fun _ k => XS.astoreN X1.here hx rfl (hb hby at_12) rfl rfl (l' := #[.val (.int p0), .val (.int ((p0 &&& (2147483647 : Int32)) % (7 : Int32))), .val (.ref a_RUNNING), .unset, .unset]) rfl k) ?_
    show Goes _ _ _ _ _ _ _ (T1.setTop (mkF m 13 #[.val (.int p0), .val (.int ((p0 &&& (2147483647 : Int32)) % (7 : Int32))), .val (.ref a_RUNNING), .unset, .unset] []))
    refine Goes.step (fun _ k => XS.iloadN X1.here hx rfl (hb hby at_13) rfl  k) ?_
    show Goes _ _ _ _ _ _ _ (T1.setTop (mkF m 14 #[.val (.int p0), .val (.int ((p0 &&& (2147483647 : Int32)) % (7 : Int32))), .val (.ref a_RUNNING), .unset, .unset] [(.int ((p0 &&& (2147483647 : Int32)) % (7 : Int32)))]))
    refine Goes.step (fun _ k => XS.iconst X1.here hx rfl (hb hby at_14) k) ?_
    show Goes _ _ _ _ _ _ _ (T1.setTop (mkF m 15 #[.val (.int p0), .val (.int ((p0 &&& (2147483647 : Int32)) % (7 : Int32))), .val (.ref a_RUNNING), .unset, .unset] [(.int (2 : Int32)), (.int ((p0 &&& (2147483647 : Int32)) % (7 : Int32)))]))
    refine Goes.step (fun _ k => XS.icmpNo X1.here hx rfl (hb hby at_15) rfl (feq u1_5_2).1 k) ?_
    show Goes _ _ _ _ _ _ _ (T1.setTop (mkF m 18 #[.val (.int p0), .val (.int ((p0 &&& (2147483647 : Int32)) % (7 : Int32))), .val (.ref a_RUNNING), .unset, .unset] []))
    refine Goes.step (fun _ k => XS.iloadN X1.here hx rfl (hb hby at_18) rfl  k) ?_
    show Goes _ _ _ _ _ _ _ (T1.setTop (mkF m 19 #[.val (.int p0), .val (.int ((p0 &&& (2147483647 : Int32)) % (7 : Int32))), .val (.ref a_RUNNING), .unset, .unset] [(.int ((p0 &&& (2147483647 : Int32)) % (7 : Int32)))]))
    refine Goes.step (fun _ k => XS.iconst X1.here hx rfl (hb hby at_19) k) ?_
    show Goes _ _ _ _ _ _ _ (T1.setTop (mkF m 20 #[.val (.int p0), .val (.int ((p0 &&& (2147483647 : Int32)) % (7 : Int32))), .val (.ref a_RUNNING), .unset, .unset] [(.int (4 : Int32)), (.int ((p0 &&& (2147483647 : Int32)) % (7 : Int32)))]))
    refine Goes.step (fun _ k => XS.icmpYes X1.here hx rfl (pc0 := 20) (pc' := 27) rfl (hb hby at_20) rfl (feq u1_5_4).2 (by decide) (by decide) k) ?_
    show Goes _ _ _ _ _ _ _ (T1.setTop (mkF m 27 #[.val (.int p0), .val (.int ((p0 &&& (2147483647 : Int32)) % (7 : Int32))), .val (.ref a_RUNNING), .unset, .unset] []))
    refine Goes.step (fun _ k => XS.iconst X1.here hx rfl (hb hby at_27) k) ?_
    show Goes _ _ _ _ _ _ _ (T1.setTop (mkF m 28 #[.val (.int p0), .val (.int ((p0 &&& (2147483647 : Int32)) % (7 : Int32))), .val (.ref a_RUNNING), .unset, .unset] [(.int (0 : Int32))]))
    refine Goes.step (fun _ k => XS.istoreN X1.here hx rfl (hb hby at_28) rfl (l' := #[.val (.int p0), .val (.int ((p0 &&& (2147483647 : Int32)) % (7 : Int32))), .val (.ref a_RUNNING), .val (.int (0 : Int32)), .unset]) rfl k) ?_
    show Goes _ _ _ _ _ _ _ (T1.setTop (mkF m 29 #[.val (.int p0), .val (.int ((p0 &&& (2147483647 : Int32)) % (7 : Int32))), .val (.ref a_RUNNING), .val (.int (0 : Int32)), .unset] []))
    refine Goes.step (fun _ k => XS.aloadN X1.here hx rfl (hb hby at_29) rfl rfl k) ?_
    show Goes _ _ _ _ _ _ _ (T1.setTop (mkF m 30 #[.val (.int p0), .val (.int ((p0 &&& (2147483647 : Int32)) % (7 : Int32))), .val (.ref a_RUNNING), .val (.int (0 : Int32)), .unset] [(.ref a_RUNNING)]))
    obtain ⟨cq9, kq9, q9a, q9b, q9c⟩ := isOf hZ eh1 E_RUNNING
    obtain ⟨_, _, ⟨T9, L9, k9, n9⟩, -, X9, ⟨Lc9, hQ9, l9, y9, z9⟩, st9⟩ := X1.virtualBack hx (y := (⟨"com/example/concordat/concordat/TransactionStatus", "isFinal", "()Z"⟩ : MethodName)) (z := (⟨"com/example/concordat/concordat/TransactionStatus", "isFinal", "()Z"⟩ : MethodName)) hown (mvT hZ (hw _ (List.mem_of_getElem? (i := 8) rfl))) (mvT hZ (hw _ (List.mem_of_getElem? (i := 9) rfl))) (notFace_of_selects (args := #[]) (mvT hZ (hw _ (List.mem_of_getElem? (i := 11) rfl)))) (mvT hZ (hw _ (List.mem_of_getElem? (i := 11) rfl))) (mvT hZ (hw _ (List.mem_of_getElem? (i := 10) rfl))) (by decide) (backOf (W := 0) (rm2 l Z a0 hw [] a_RUNNING a_COMMITTED a_ROLLED_BACK h0 n0 Z0 S_COMMITTED S_ROLLED_BACK X00) hZ (hw _ (List.mem_of_getElem? (i := 12) rfl)) (hw _ (List.mem_of_getElem? (i := 6) rfl)) (by decide) (by decide)) q9a q9c (g := (mkF m 30 #[.val (.int p0), .val (.int ((p0 &&& (2147483647 : Int32)) % (7 : Int32))), .val (.ref a_RUNNING), .val (.int (0 : Int32)), .unset] [(.ref a_RUNNING)])) rfl (by rw [hml]; rfl) (Steps.refl _) (argsL := []) (rest := []) (lenOf pd_1 rfl) rfl (by show 2 * 0 + _ ≤ _; exact Nat.le_of_eq rfl) (hb hby at_30) (fun _ _ => ⟨rfl, eh1, (by decide : 0 + 0 ≤ _), (by decide : 0 + 0 ≤ _)⟩)
    dsimp only [Pt.U, Pt.locs, Pt.cells, Pt.slots] at X9 l9 y9 z9 st9 hQ9
    subst l9 y9 z9
    obtain ⟨N9, eh9, hR9⟩ := hQ9
    have NA9 := Fr.app NA1 N9
    rcases hR9 with ⟨rfl, u9_0_0⟩ | ⟨rfl, u9_1_0, u9_1_1⟩ | ⟨rfl, u9_2_0, u9_2_1⟩
    · exact absurd u9_0_0 ne_RUNNING_COMMITTED
    · exact absurd u9_1_1 ne_RUNNING_ROLLED_BACK
    · refine Goes.back st9 ?_
      show Goes _ _ _ _ _ _ _ (T9.setTop (mkF m 33 #[.val (.int p0), .val (.int ((p0 &&& (2147483647 : Int32)) % (7 : Int32))), .val (.ref a_RUNNING), .val (.int (0 : Int32)), .unset] [(.int (0 : Int32))]))
      refine Goes.step (fun _ k => XS.istore X9.here hx rfl (hb hby at_33) rfl (l' := #[.val (.int p0), .val (.int ((p0 &&& (2147483647 : Int32)) % (7 : Int32))), .val (.ref a_RUNNING), .val (.int (0 : Int32)), .val (.int (0 : Int32))]) rfl k) ?_
      show Goes _ _ _ _ _ _ _ (T9.setTop (mkF m 35 #[.val (.int p0), .val (.int ((p0 &&& (2147483647 : Int32)) % (7 : Int32))), .val (.ref a_RUNNING), .val (.int (0 : Int32)), .val (.int (0 : Int32))] []))
      refine Goes.step (fun _ k => XS.iload X9.here hx rfl (hb hby at_35) rfl  k) ?_
      show Goes _ _ _ _ _ _ _ (T9.setTop (mkF m 37 #[.val (.int p0), .val (.int ((p0 &&& (2147483647 : Int32)) % (7 : Int32))), .val (.ref a_RUNNING), .val (.int (0 : Int32)), .val (.int (0 : Int32))] [(.int (0 : Int32))]))
      refine Goes.step (fun _ k => XS.iloadN X9.here hx rfl (hb hby at_37) rfl  k) ?_
      show Goes _ _ _ _ _ _ _ (T9.setTop (mkF m 38 #[.val (.int p0), .val (.int ((p0 &&& (2147483647 : Int32)) % (7 : Int32))), .val (.ref a_RUNNING), .val (.int (0 : Int32)), .val (.int (0 : Int32))] [(.int (0 : Int32)), (.int (0 : Int32))]))
      refine Goes.step (fun _ k => XS.icmpYes X9.here hx rfl (pc0 := 38) (pc' := 43) rfl (hb hby at_38) rfl (teq (by decide : (0 : Int32) = (0 : Int32))).1 (by decide) (by decide) k) ?_
      show Goes _ _ _ _ _ _ _ (T9.setTop (mkF m 43 #[.val (.int p0), .val (.int ((p0 &&& (2147483647 : Int32)) % (7 : Int32))), .val (.ref a_RUNNING), .val (.int (0 : Int32)), .val (.int (0 : Int32))] []))
      refine Goes.step (fun _ k => XS.iloadN X9.here hx rfl (hb hby at_43) rfl  k) ?_
      show Goes _ _ _ _ _ _ _ (T9.setTop (mkF m 44 #[.val (.int p0), .val (.int ((p0 &&& (2147483647 : Int32)) % (7 : Int32))), .val (.ref a_RUNNING), .val (.int (0 : Int32)), .val (.int (0 : Int32))] [(.int (0 : Int32))]))
      refine Goes.step (fun _ k => XS.ifYes X9.here hx rfl (pc0 := 44) (pc' := 57) rfl (hb hby at_44) rfl ((if0 _ _).trans (teq (by decide : (0 : Int32) = (0 : Int32))).1) (by decide) (by decide) k) ?_
      show Goes _ _ _ _ _ _ _ (T9.setTop (mkF m 57 #[.val (.int p0), .val (.int ((p0 &&& (2147483647 : Int32)) % (7 : Int32))), .val (.ref a_RUNNING), .val (.int (0 : Int32)), .val (.int (0 : Int32))] []))
      refine Goes.step (fun _ k => XS.iconst X9.here hx rfl (hb hby at_57) k) ?_
      show Goes _ _ _ _ _ _ _ (T9.setTop (mkF m 58 #[.val (.int p0), .val (.int ((p0 &&& (2147483647 : Int32)) % (7 : Int32))), .val (.ref a_RUNNING), .val (.int (0 : Int32)), .val (.int (0 : Int32))] [(.int (1 : Int32))]))
      exact Goes.ret X9 hx (BodyLoose.notSynchronized Bd) Bd.returns rfl (Or.inl ⟨rfl, by simp, _, rfl⟩) (hb hby at_58) (by show Q0 Z p0 a_ACTIVE a_COMMITTED a_ROLLED_BACK a_ROLLING_BACK a_RUNNING a_COMPENSATING a_COMMITTING h0 n0 (some (.int (1 : Int32))) T9.heap _; rw [eh9]; exact ⟨rfl, NA9⟩) (by decide) (by decide)
  · refine Goes.step st1 ?_
    show Goes _ _ _ _ _ _ _ (T1.setTop (mkF m 12 #[.val (.int p0), .val (.int ((p0 &&& (2147483647 : Int32)) % (7 : Int32))), .unset, .unset, .unset] [(.ref a_COMPENSATING)]))
    refine Goes.step (fun _ k => XS.astoreN X1.here hx rfl (hb hby at_12) rfl rfl (l' := #[.val (.int p0), .val (.int ((p0 &&& (2147483647 : Int32)) % (7 : Int32))), .val (.ref a_COMPENSATING), .unset, .unset]) rfl k) ?_
    show Goes _ _ _ _ _ _ _ (T1.setTop (mkF m 13 #[.val (.int p0), .val (.int ((p0 &&& (2147483647 : Int32)) % (7 : Int32))), .val (.ref a_COMPENSATING), .unset, .unset] []))
    refine Goes.step (fun _ k => XS.iloadN X1.here hx rfl (hb hby at_13) rfl  k) ?_
    show Goes _ _ _ _ _ _ _ (T1.setTop (mkF m 14 #[.val (.int p0), .val (.int ((p0 &&& (2147483647 : Int32)) % (7 : Int32))), .val (.ref a_COMPENSATING), .unset, .unset] [(.int ((p0 &&& (2147483647 : Int32)) % (7 : Int32)))]))
    refine Goes.step (fun _ k => XS.iconst X1.here hx rfl (hb hby at_14) k) ?_
    show Goes _ _ _ _ _ _ _ (T1.setTop (mkF m 15 #[.val (.int p0), .val (.int ((p0 &&& (2147483647 : Int32)) % (7 : Int32))), .val (.ref a_COMPENSATING), .unset, .unset] [(.int (2 : Int32)), (.int ((p0 &&& (2147483647 : Int32)) % (7 : Int32)))]))
    refine Goes.step (fun _ k => XS.icmpNo X1.here hx rfl (hb hby at_15) rfl (feq u1_6_2).1 k) ?_
    show Goes _ _ _ _ _ _ _ (T1.setTop (mkF m 18 #[.val (.int p0), .val (.int ((p0 &&& (2147483647 : Int32)) % (7 : Int32))), .val (.ref a_COMPENSATING), .unset, .unset] []))
    refine Goes.step (fun _ k => XS.iloadN X1.here hx rfl (hb hby at_18) rfl  k) ?_
    show Goes _ _ _ _ _ _ _ (T1.setTop (mkF m 19 #[.val (.int p0), .val (.int ((p0 &&& (2147483647 : Int32)) % (7 : Int32))), .val (.ref a_COMPENSATING), .unset, .unset] [(.int ((p0 &&& (2147483647 : Int32)) % (7 : Int32)))]))
    refine Goes.step (fun _ k => XS.iconst X1.here hx rfl (hb hby at_19) k) ?_
    show Goes _ _ _ _ _ _ _ (T1.setTop (mkF m 20 #[.val (.int p0), .val (.int ((p0 &&& (2147483647 : Int32)) % (7 : Int32))), .val (.ref a_COMPENSATING), .unset, .unset] [(.int (4 : Int32)), (.int ((p0 &&& (2147483647 : Int32)) % (7 : Int32)))]))
    refine Goes.step (fun _ k => XS.icmpYes X1.here hx rfl (pc0 := 20) (pc' := 27) rfl (hb hby at_20) rfl (feq u1_6_4).2 (by decide) (by decide) k) ?_
    show Goes _ _ _ _ _ _ _ (T1.setTop (mkF m 27 #[.val (.int p0), .val (.int ((p0 &&& (2147483647 : Int32)) % (7 : Int32))), .val (.ref a_COMPENSATING), .unset, .unset] []))
    refine Goes.step (fun _ k => XS.iconst X1.here hx rfl (hb hby at_27) k) ?_
    show Goes _ _ _ _ _ _ _ (T1.setTop (mkF m 28 #[.val (.int p0), .val (.int ((p0 &&& (2147483647 : Int32)) % (7 : Int32))), .val (.ref a_COMPENSATING), .unset, .unset] [(.int (0 : Int32))]))
    refine Goes.step (fun _ k => XS.istoreN X1.here hx rfl (hb hby at_28) rfl (l' := #[.val (.int p0), .val (.int ((p0 &&& (2147483647 : Int32)) % (7 : Int32))), .val (.ref a_COMPENSATING), .val (.int (0 : Int32)), .unset]) rfl k) ?_
    show Goes _ _ _ _ _ _ _ (T1.setTop (mkF m 29 #[.val (.int p0), .val (.int ((p0 &&& (2147483647 : Int32)) % (7 : Int32))), .val (.ref a_COMPENSATING), .val (.int (0 : Int32)), .unset] []))
    refine Goes.step (fun _ k => XS.aloadN X1.here hx rfl (hb hby at_29) rfl rfl k) ?_
    show Goes _ _ _ _ _ _ _ (T1.setTop (mkF m 30 #[.val (.int p0), .val (.int ((p0 &&& (2147483647 : Int32)) % (7 : Int32))), .val (.ref a_COMPENSATING), .val (.int (0 : Int32)), .unset] [(.ref a_COMPENSATING)]))
    obtain ⟨cq10, kq10, q10a, q10b, q10c⟩ := isOf hZ eh1 E_COMPENSATING
    obtain ⟨_, _, ⟨T10, L10, k10, n10⟩, -, X10, ⟨Lc10, hQ10, l10, y10, z10⟩, st10⟩ := X1.virtualBack hx (y := (⟨"com/example/concordat/concordat/TransactionStatus", "isFinal", "()Z"⟩ : MethodName)) (z := (⟨"com/example/concordat/concordat/TransactionStatus", "isFinal", "()Z"⟩ : MethodName)) hown (mvT hZ (hw _ (List.mem_of_getElem? (i := 8) rfl))) (mvT hZ (hw _ (List.mem_of_getElem? (i := 9) rfl))) (notFace_of_selects (args := #[]) (mvT hZ (hw _ (List.mem_of_getElem? (i := 11) rfl)))) (mvT hZ (hw _ (List.mem_of_getElem? (i := 11) rfl))) (mvT hZ (hw _ (List.mem_of_getElem? (i := 10) rfl))) (by decide) (backOf (W := 0) (rm2 l Z a0 hw [] a_COMPENSATING a_COMMITTED a_ROLLED_BACK h0 n0 Z0 S_COMMITTED S_ROLLED_BACK X00) hZ (hw _ (List.mem_of_getElem? (i := 12) rfl)) (hw _ (List.mem_of_getElem? (i := 6) rfl)) (by decide) (by decide)) q10a q10c (g := (mkF m 30 #[.val (.int p0), .val (.int ((p0 &&& (2147483647 : Int32)) % (7 : Int32))), .val (.ref a_COMPENSATING), .val (.int (0 : Int32)), .unset] [(.ref a_COMPENSATING)])) rfl (by rw [hml]; rfl) (Steps.refl _) (argsL := []) (rest := []) (lenOf pd_1 rfl) rfl (by show 2 * 0 + _ ≤ _; exact Nat.le_of_eq rfl) (hb hby at_30) (fun _ _ => ⟨rfl, eh1, (by decide : 0 + 0 ≤ _), (by decide : 0 + 0 ≤ _)⟩)
    dsimp only [Pt.U, Pt.locs, Pt.cells, Pt.slots] at X10 l10 y10 z10 st10 hQ10
    subst l10 y10 z10
    obtain ⟨N10, eh10, hR10⟩ := hQ10
    have NA10 := Fr.app NA1 N10
    rcases hR10 with ⟨rfl, u10_0_0⟩ | ⟨rfl, u10_1_0, u10_1_1⟩ | ⟨rfl, u10_2_0, u10_2_1⟩
    · exact absurd u10_0_0 ne_COMPENSATING_COMMITTED
    · exact absurd u10_1_1 ne_COMPENSATING_ROLLED_BACK
    · refine Goes.back st10 ?_
      show Goes _ _ _ _ _ _ _ (T10.setTop (mkF m 33 #[.val (.int p0), .val (.int ((p0 &&& (2147483647 : Int32)) % (7 : Int32))), .val (.ref a_COMPENSATING), .val (.int (0 : Int32)), .unset] [(.int (0 : Int32))]))
      refine Goes.step (fun _ k => XS.istore X10.here hx rfl (hb hby at_33) rfl (l' := #[.val (.int p0), .val (.int ((p0 &&& (2147483647 : Int32)) % (7 : Int32))), .val (.ref a_COMPENSATING), .val (.int (0 : Int32)), .val (.int (0 : Int32))]) rfl k) ?_
      show Goes _ _ _ _ _ _ _ (T10.setTop (mkF m 35 #[.val (.int p0), .val (.int ((p0 &&& (2147483647 : Int32)) % (7 : Int32))), .val (.ref a_COMPENSATING), .val (.int (0 : Int32)), .val (.int (0 : Int32))] []))
      refine Goes.step (fun _ k => XS.iload X10.here hx rfl (hb hby at_35) rfl  k) ?_
      show Goes _ _ _ _ _ _ _ (T10.setTop (mkF m 37 #[.val (.int p0), .val (.int ((p0 &&& (2147483647 : Int32)) % (7 : Int32))), .val (.ref a_COMPENSATING), .val (.int (0 : Int32)), .val (.int (0 : Int32))] [(.int (0 : Int32))]))
      refine Goes.step (fun _ k => XS.iloadN X10.here hx rfl (hb hby at_37) rfl  k) ?_
      show Goes _ _ _ _ _ _ _ (T10.setTop (mkF m 38 #[.val (.int p0), .val (.int ((p0 &&& (2147483647 : Int32)) % (7 : Int32))), .val (.ref a_COMPENSATING), .val (.int (0 : Int32)), .val (.int (0 : Int32))] [(.int (0 : Int32)), (.int (0 : Int32))]))
      refine Goes.step (fun _ k => XS.icmpYes X10.here hx rfl (pc0 := 38) (pc' := 43) rfl (hb hby at_38) rfl (teq (by decide : (0 : Int32) = (0 : Int32))).1 (by decide) (by decide) k) ?_
      show Goes _ _ _ _ _ _ _ (T10.setTop (mkF m 43 #[.val (.int p0), .val (.int ((p0 &&& (2147483647 : Int32)) % (7 : Int32))), .val (.ref a_COMPENSATING), .val (.int (0 : Int32)), .val (.int (0 : Int32))] []))
      refine Goes.step (fun _ k => XS.iloadN X10.here hx rfl (hb hby at_43) rfl  k) ?_
      show Goes _ _ _ _ _ _ _ (T10.setTop (mkF m 44 #[.val (.int p0), .val (.int ((p0 &&& (2147483647 : Int32)) % (7 : Int32))), .val (.ref a_COMPENSATING), .val (.int (0 : Int32)), .val (.int (0 : Int32))] [(.int (0 : Int32))]))
      refine Goes.step (fun _ k => XS.ifYes X10.here hx rfl (pc0 := 44) (pc' := 57) rfl (hb hby at_44) rfl ((if0 _ _).trans (teq (by decide : (0 : Int32) = (0 : Int32))).1) (by decide) (by decide) k) ?_
      show Goes _ _ _ _ _ _ _ (T10.setTop (mkF m 57 #[.val (.int p0), .val (.int ((p0 &&& (2147483647 : Int32)) % (7 : Int32))), .val (.ref a_COMPENSATING), .val (.int (0 : Int32)), .val (.int (0 : Int32))] []))
      refine Goes.step (fun _ k => XS.iconst X10.here hx rfl (hb hby at_57) k) ?_
      show Goes _ _ _ _ _ _ _ (T10.setTop (mkF m 58 #[.val (.int p0), .val (.int ((p0 &&& (2147483647 : Int32)) % (7 : Int32))), .val (.ref a_COMPENSATING), .val (.int (0 : Int32)), .val (.int (0 : Int32))] [(.int (1 : Int32))]))
      exact Goes.ret X10 hx (BodyLoose.notSynchronized Bd) Bd.returns rfl (Or.inl ⟨rfl, by simp, _, rfl⟩) (hb hby at_58) (by show Q0 Z p0 a_ACTIVE a_COMMITTED a_ROLLED_BACK a_ROLLING_BACK a_RUNNING a_COMPENSATING a_COMMITTING h0 n0 (some (.int (1 : Int32))) T10.heap _; rw [eh10]; exact ⟨rfl, NA10⟩) (by decide) (by decide)
set_option maxRecDepth 65536 in
set_option maxHeartbeats 40000000 in
theorem comes_1 {Post : Tables → Env → Array Value → State → Outcome → State → Prop} (hpost : ∀ tb e args s v u, (limb_1_1.after args s (.returned v) u = true ∧ limb_1_2.after args s (.returned v) u = true ∧ True) → FrameEnd s (.returned v) u (Jvm.fieldLocs frame_1_writes args s ++ Jvm.arrayLocs frame_1_arrays args s ++ Jvm.staticLocs frame_1_statics s) 0 0 → Post tb e args s (.returned v) u) :
    ArmFor flags0 classFile x code maxLocals ret World_1 tables_1 room_1 Calls_1 rest_1 Pre_1 Post := by
  intro l hfl _ _ p e ha hc hk s m args below hf hA hF happ hP
  obtain ⟨hcalls, hrest, hpre⟩ := hP
  obtain ⟨-, -, -, hnamed, -, -, -, hat⟩ := (Spec.applies_iff hf).mp happ
  obtain ⟨hg, hn⟩ := and_e (Cond.before_iff.mp (show (Jvm.Cond.and given_1 narrow_1).before args s = true from hpre))
  obtain ⟨gg1, gg2⟩ := and_e hg
  obtain ⟨w0, rfl⟩ : ∃ w0 : Value, args = #[w0] := by
    have hs : args.size = 1 := by simpa [Cond.value, given_1] using gg1
    obtain ⟨L⟩ := args
    match L, hs with
    | [w0], _ => exact ⟨w0, rfl⟩
  have hw := fun d (hd : d ∈ tables_1) => atoms_spec (ws := Jvm.Cond.code x code maxLocals ret :: tables_1) hat d (List.mem_cons_of_mem _ hd)
  have hfit : Fit s := fun {y c} hc i hi => by
    obtain ⟨ha, rfl⟩ := Array.getElem?_eq_some_iff.mp hc
    have q := List.all_eq_true.mp ((Array.all_eq_true_iff_forall_mem.mp hF) _ (Array.getElem_mem ha)) i (List.mem_range.mpr hi)
    simpa [Array.getElem?_eq_getElem hi] using q
  obtain ⟨i0, ei0⟩ := is_v gg2
  obtain rfl : w0 = (.int i0) := Option.some.inj ei0
  obtain ⟨nn1, nn2⟩ := and_e hn
  obtain ⟨a_ACTIVE, ev_ACTIVE⟩ := exa_v nn1
  have E_ACTIVE := Exa.start ev_ACTIVE nn1
  have S_ACTIVE := Sta.start ev_ACTIVE (Or.inr ⟨(hw _ (List.mem_of_getElem? (i := 6) rfl)), (hw _ (List.mem_of_getElem? (i := 7) rfl))⟩)
  obtain ⟨nn3, nn4⟩ := and_e nn2
  obtain ⟨a_COMMITTED, ev_COMMITTED⟩ := exa_v nn3
  have E_COMMITTED := Exa.start ev_COMMITTED nn3
  have S_COMMITTED := Sta.start ev_COMMITTED (Or.inr ⟨(hw _ (List.mem_of_getElem? (i := 6) rfl)), (hw _ (List.mem_of_getElem? (i := 14) rfl))⟩)
  obtain ⟨nn5, nn6⟩ := and_e nn4
  obtain ⟨nn7, nn8⟩ := and_e nn6
  obtain ⟨nn9, nn10⟩ := and_e nn8
  obtain ⟨a_ROLLED_BACK, ev_ROLLED_BACK⟩ := exa_v nn9
  have E_ROLLED_BACK := Exa.start ev_ROLLED_BACK nn9
  have S_ROLLED_BACK := Sta.start ev_ROLLED_BACK (Or.inr ⟨(hw _ (List.mem_of_getElem? (i := 6) rfl)), (hw _ (List.mem_of_getElem? (i := 16) rfl))⟩)
  obtain ⟨nn11, nn12⟩ := and_e nn10
  obtain ⟨nn13, nn14⟩ := and_e nn12
  obtain ⟨a_ROLLING_BACK, ev_ROLLING_BACK⟩ := exa_v nn13
  have E_ROLLING_BACK := Exa.start ev_ROLLING_BACK nn13
  have S_ROLLING_BACK := Sta.start ev_ROLLING_BACK (Or.inr ⟨(hw _ (List.mem_of_getElem? (i := 6) rfl)), (hw _ (List.mem_of_getElem? (i := 18) rfl))⟩)
  obtain ⟨nn15, nn16⟩ := and_e nn14
  obtain ⟨nn17, nn18⟩ := and_e nn16
  obtain ⟨a_RUNNING, ev_RUNNING⟩ := exa_v nn17
  have E_RUNNING := Exa.start ev_RUNNING nn17
  have S_RUNNING := Sta.start ev_RUNNING (Or.inr ⟨(hw _ (List.mem_of_getElem? (i := 6) rfl)), (hw _ (List.mem_of_getElem? (i := 20) rfl))⟩)
  obtain ⟨nn19, nn20⟩ := and_e nn18
  obtain ⟨nn21, nn22⟩ := and_e nn20
  obtain ⟨a_COMPENSATING, ev_COMPENSATING⟩ := exa_v nn21
  have E_COMPENSATING := Exa.start ev_COMPENSATING nn21
  have S_COMPENSATING := Sta.start ev_COMPENSATING (Or.inr ⟨(hw _ (List.mem_of_getElem? (i := 6) rfl)), (hw _ (List.mem_of_getElem? (i := 22) rfl))⟩)
  obtain ⟨nn23, nn24⟩ := and_e nn22
  obtain ⟨nn25, nn26⟩ := and_e nn24
  obtain ⟨a_COMMITTING, ev_COMMITTING⟩ := exa_v nn25
  have E_COMMITTING := Exa.start ev_COMMITTING nn25
  have S_COMMITTING := Sta.start ev_COMMITTING (Or.inr ⟨(hw _ (List.mem_of_getElem? (i := 6) rfl)), (hw _ (List.mem_of_getElem? (i := 40) rfl))⟩)
  have O_ACTIVE : Fld s s.heap a_ACTIVE "java/lang/Enum" "ordinal" "I" (.int (0 : Int32)) := Fld.start ((fld_at ev_ACTIVE).symm.trans (own_eqInt nn5))
  have O_COMMITTED : Fld s s.heap a_COMMITTED "java/lang/Enum" "ordinal" "I" (.int (2 : Int32)) := Fld.start ((fld_at ev_COMMITTED).symm.trans (own_eqInt nn7))
  have O_ROLLED_BACK : Fld s s.heap a_ROLLED_BACK "java/lang/Enum" "ordinal" "I" (.int (4 : Int32)) := Fld.start ((fld_at ev_ROLLED_BACK).symm.trans (own_eqInt nn11))
  have O_ROLLING_BACK : Fld s s.heap a_ROLLING_BACK "java/lang/Enum" "ordinal" "I" (.int (3 : Int32)) := Fld.start ((fld_at ev_ROLLING_BACK).symm.trans (own_eqInt nn15))
  have O_RUNNING : Fld s s.heap a_RUNNING "java/lang/Enum" "ordinal" "I" (.int (5 : Int32)) := Fld.start ((fld_at ev_RUNNING).symm.trans (own_eqInt nn19))
  have O_COMPENSATING : Fld s s.heap a_COMPENSATING "java/lang/Enum" "ordinal" "I" (.int (6 : Int32)) := Fld.start ((fld_at ev_COMPENSATING).symm.trans (own_eqInt nn23))
  have O_COMMITTING : Fld s s.heap a_COMMITTING "java/lang/Enum" "ordinal" "I" (.int (1 : Int32)) := Fld.start ((fld_at ev_COMMITTING).symm.trans (own_eqInt nn26))
  obtain ⟨n, o, h1, h2, h3, _, L, rfl, ⟨rfl, N⟩, hq⟩ := rm0 l s _ hw tables_1 i0 a_ACTIVE a_COMMITTED a_ROLLED_BACK a_ROLLING_BACK a_RUNNING a_COMPENSATING a_COMMITTING s.heap s.heap.size (Nat.le_refl _) S_ACTIVE S_COMMITTED S_ROLLED_BACK S_ROLLING_BACK S_RUNNING S_COMPENSATING S_COMMITTING E_ACTIVE E_COMMITTED E_ROLLED_BACK E_ROLLING_BACK E_RUNNING E_COMPENSATING E_COMMITTING O_ACTIVE O_COMMITTED O_ROLLED_BACK O_ROLLING_BACK O_RUNNING O_COMPENSATING O_COMMITTING (own_neFld O_COMMITTED O_ACTIVE (by decide)) (own_neFld O_ROLLED_BACK O_ACTIVE (by decide)) (own_neFld O_ROLLED_BACK O_COMMITTED (by decide)) (own_neFld O_ROLLING_BACK O_ACTIVE (by decide)) (own_neFld O_ROLLING_BACK O_COMMITTED (by decide)) (own_neFld O_ROLLING_BACK O_ROLLED_BACK (by decide)) (own_neFld O_RUNNING O_ACTIVE (by decide)) (own_neFld O_RUNNING O_COMMITTED (by decide)) (own_neFld O_RUNNING O_ROLLED_BACK (by decide)) (own_neFld O_RUNNING O_ROLLING_BACK (by decide)) (own_neFld O_COMPENSATING O_ACTIVE (by decide)) (own_neFld O_COMPENSATING O_COMMITTED (by decide)) (own_neFld O_COMPENSATING O_ROLLED_BACK (by decide)) (own_neFld O_COMPENSATING O_ROLLING_BACK (by decide)) (own_neFld O_COMPENSATING O_RUNNING (by decide)) (own_neFld O_COMMITTING O_ACTIVE (by decide)) (own_neFld O_COMMITTING O_COMMITTED (by decide)) (own_neFld O_COMMITTING O_ROLLED_BACK (by decide)) (own_neFld O_COMMITTING O_ROLLING_BACK (by decide)) (own_neFld O_COMMITTING O_RUNNING (by decide)) (own_neFld O_COMMITTING O_COMPENSATING (by decide)) (Old.start s) p e ha hc hk s m _ below hf ((Spec.applies_iff_loose hf).mp happ).1 ⟨rfl, State.Warmed39.refl s, rfl⟩ trivial
  refine ⟨n, _, h1, h2, h3, hpost _ _ _ _ _ _ ⟨Cond.after_iff.mpr rfl, Cond.after_iff.mpr (eq_i res_at (Term.int_eval (1)) rfl), trivial⟩ ⟨hq.1, hq.2.1, (hq.2.2.sift fun y hy => Or.inr (N y hy)).mono (by decide) (by decide)⟩⟩
theorem main_1_1 : Claimed_1_1 := comes_1 fun _ _ _ _ _ _ h hF => ⟨h.1, hF⟩
theorem main_1_2 : Claimed_1_2 := comes_1 fun _ _ _ _ _ _ h hF => ⟨h.2.1, hF⟩
end Jvm.Pilot.@@N@@
namespace Jvm.Pilot.@@N@@
open Jvm Jvm.ClassFile Sem Op Lib Jvm.Free Jvm.Stand Jvm.Pilot.@@N@@.Jvm.D
/-! MADE BY PROGRAM (witnessworld.py) out of the Statement's table words and the real class files: 12 classes; the members and pool entries that the words name. The judged class is class 1, her method 2. -/
namespace start1
open Jvm.ClassFile
def u (s : String) : CpInfo := .utf8 (stringToUtf16 s)
/-- a pool by its gaps: so many unusable entries, then the entry; so many at the end -/
def gap : Nat → List CpInfo → List CpInfo
  | 0, r => r
  | n + 1, r => .unusable :: gap n r
def poolList (es : List (Nat × CpInfo)) (last : Nat) : List CpInfo := es.foldr (fun e r => gap e.1 (e.2 :: r)) (gap last [])
def pool (es : List (Nat × CpInfo)) (last : Nat) : Array CpInfo := ⟨poolList es last⟩
def fileOf (pool : Array CpInfo) (this : Nat) (attrs : Array Attribute := #[]) (ms : Array MethodInfo := #[]) (fl : Nat := 33) (sup : Nat := 0) (ifs : Array Nat := #[]) (fds : Array FieldInfo := #[]) : ClassFile where
  minorVersion := 0
  majorVersion := 65
  constantPool := pool
  accessFlags := fl
  thisClass := this
  superClass := sup
  interfaces := ifs
  fields := fds
  methods := ms
  attributes := attrs
def plain (name : String) (sup : Option ClassId) : Class where
  name := name
  kind := .ordinary
  loader := none
  accessFlags := 33
  super := sup
  interfaces := #[]
  cf := none
  fields := #[]
  methods := #[]
  instanceTypes := #[]
  staticTypes := #[]
  resolved := #[]
  callSites := []
  init := .initialized
  statics := none
  mirror := none

def pool0 : Array CpInfo := pool [(5, u "<init>"), (0, u "()V"), (1, .class_ 10), (1, u "java/lang/Object")] 113

def k0m0 : Method := { name := "<init>", desc := "()V", sig := { parameters := [], returnType := none }, accessFlags := 1, code := none }
/-- java/lang/Object -/
def k0 : Class := { plain "java/lang/Object" none with
  accessFlags := 33
  interfaces := #[]
  cf := some (fileOf pool0 8 #[] #[{ accessFlags := 1, nameIndex := 5, descriptorIndex := 6, attributes := #[] }] 33 0 #[] #[])
  fields := #[]
  methods := #[k0m0]
  instanceTypes := #[]
  staticTypes := #[]
  resolved := Array.replicate 124 none
  statics := none }

def pool1 : Array CpInfo := pool [(2, .class_ 4), (1, u "java/lang/Object"), (0, u "<init>"), (0, u "()V"), (0, .fieldref 8 9), (0, .class_ 10), (0, .nameAndType 11 12), (0, u "com/example/concordat/concordat/TransactionStatus"), (0, u "ACTIVE"), (0, u "Lcom/example/concordat/concordat/TransactionStatus;"), (0, .fieldref 8 14), (0, .nameAndType 15 12), (0, u "COMMITTING"), (0, .fieldref 8 17), (0, .nameAndType 18 12), (0, u "COMMITTED"), (0, .fieldref 8 20), (0, .nameAndType 21 12), (0, u "ROLLING_BACK"), (0, .fieldref 8 23), (0, .nameAndType 24 12), (0, u "ROLLED_BACK"), (0, .fieldref 8 26), (0, .nameAndType 27 12), (0, u "RUNNING"), (0, .fieldref 8 29), (0, .nameAndType 30 12), (0, u "COMPENSATING"), (0, .integer 2147483647), (0, .methodref 33 34), (0, .class_ 35), (0, .nameAndType 36 37), (0, u "com/example/concordat/concordat/TransactionStatusIsFinalPinLaw"), (0, u "pick"), (0, u "(I)Lcom/example/concordat/concordat/TransactionStatus;"), (0, .methodref 8 39), (0, .nameAndType 40 41), (0, u "isFinal"), (0, u "()Z"), (0, .methodref 8 43), (0, .nameAndType 44 45), (0, u "outcome"), (0, u "()Lcom/example/concordat/concordat/TransactionStatus;"), (3, u "law"), (0, u "(I)Z")] 2

def k1m0 : Method := { name := "<init>", desc := "()V", sig := { parameters := [], returnType := none }, accessFlags := 1, code := none }
def k1c1 : Code := { maxStack := 2, maxLocals := 1, code := method_2_code, exceptionTable := #[], attributes := #[] }
def k1m1 : Method := { name := "pick", desc := "(I)Lcom/example/concordat/concordat/TransactionStatus;", sig := { parameters := [.int], returnType := some (.object "com/example/concordat/concordat/TransactionStatus") }, accessFlags := 10, code := some k1c1 }
def k1c2 : Code := { maxStack := 2, maxLocals := 5, code := code, exceptionTable := #[], attributes := #[] }
def k1m2 : Method := { name := "law", desc := "(I)Z", sig := { parameters := [.int], returnType := some .boolean }, accessFlags := 9, code := some k1c2 }
/-- com/example/concordat/concordat/TransactionStatusIsFinalPinLaw -/
def k1 : Class := { plain "com/example/concordat/concordat/TransactionStatusIsFinalPinLaw" (some 0) with
  accessFlags := 49
  interfaces := #[]
  cf := some (fileOf pool1 33 #[] #[{ accessFlags := 1, nameIndex := 5, descriptorIndex := 6, attributes := #[] }, { accessFlags := 10, nameIndex := 36, descriptorIndex := 37, attributes := #[] }, { accessFlags := 9, nameIndex := 49, descriptorIndex := 50, attributes := #[] }] 49 2 #[] #[])
  fields := #[]
  methods := #[k1m0, k1m1, k1m2]
  instanceTypes := #[]
  staticTypes := #[]
  resolved := Array.replicate 53 none
  statics := none }

def pool2 : Array CpInfo := pool [(1, .class_ 2), (0, u "java/lang/constant/Constable"), (0, .class_ 4), (0, u "java/lang/Object")] 6

/-- java/lang/constant/Constable -/
def k2 : Class := { plain "java/lang/constant/Constable" (some 0) with
  accessFlags := 1537
  interfaces := #[]
  cf := some (fileOf pool2 1 #[] #[] 1537 3 #[] #[])
  fields := #[]
  methods := #[]
  instanceTypes := #[]
  staticTypes := #[]
  resolved := Array.replicate 11 none
  statics := none }

def pool3 : Array CpInfo := pool [(1, .class_ 2), (0, u "java/lang/Comparable"), (0, .class_ 4), (0, u "java/lang/Object")] 7

/-- java/lang/Comparable -/
def k3 : Class := { plain "java/lang/Comparable" (some 0) with
  accessFlags := 1537
  interfaces := #[]
  cf := some (fileOf pool3 1 #[] #[] 1537 3 #[] #[])
  fields := #[]
  methods := #[]
  instanceTypes := #[]
  staticTypes := #[]
  resolved := Array.replicate 12 none
  statics := none }

def pool4 : Array CpInfo := pool [(1, .class_ 2), (0, u "java/io/Serializable"), (0, .class_ 4), (0, u "java/lang/Object")] 2

/-- java/io/Serializable -/
def k4 : Class := { plain "java/io/Serializable" (some 0) with
  accessFlags := 1537
  interfaces := #[]
  cf := some (fileOf pool4 1 #[] #[] 1537 3 #[] #[])
  fields := #[]
  methods := #[]
  instanceTypes := #[]
  staticTypes := #[]
  resolved := Array.replicate 7 none
  statics := none }

def pool5 : Array CpInfo := pool [(2, .class_ 4), (1, u "java/lang/Enum"), (0, u "name"), (0, u "Ljava/lang/String;"), (0, .fieldref 2 8), (0, .nameAndType 9 10), (0, u "ordinal"), (0, u "I"), (1, .class_ 14), (1, u "java/lang/Object"), (4, u "hash"), (86, .class_ 108), (1, u "java/lang/Enum$EnumDesc"), (2, .class_ 112), (0, u "java/lang/constant/Constable"), (0, .class_ 114), (0, u "java/lang/Comparable"), (0, .class_ 116), (0, u "java/io/Serializable"), (9, u "()I")] 77

def k5c0 : Code := { maxStack := 1, maxLocals := 1, code := jdk_37_method_2_code, exceptionTable := #[], attributes := #[] }
def k5m0 : Method := { name := "ordinal", desc := "()I", sig := { parameters := [], returnType := some .int }, accessFlags := 17, code := some k5c0 }
/-- java/lang/Enum -/
def k5 : Class := { plain "java/lang/Enum" (some 0) with
  accessFlags := 1057
  interfaces := #[2, 3, 4]
  cf := some (fileOf pool5 2 #[.nestMembers #[106]] #[{ accessFlags := 17, nameIndex := 9, descriptorIndex := 126, attributes := #[] }] 1057 12 #[111, 113, 115] #[{ accessFlags := 18, nameIndex := 5, descriptorIndex := 6, attributes := #[] }, { accessFlags := 18, nameIndex := 9, descriptorIndex := 10, attributes := #[] }, { accessFlags := 2, nameIndex := 19, descriptorIndex := 10, attributes := #[] }])
  fields := #[{ name := "name", type := (.object "java/lang/String"), accessFlags := 18, slot := 0, constantValue := 0 }, { name := "ordinal", type := .int, accessFlags := 18, slot := 1, constantValue := 0 }, { name := "hash", type := .int, accessFlags := 2, slot := 2, constantValue := 0 }]
  methods := #[k5m0]
  instanceTypes := #[(.object "java/lang/String"), .int, .int]
  staticTypes := #[]
  resolved := Array.replicate 204 none
  statics := none }

def pool6 : Array CpInfo := pool [(1, .class_ 2), (0, u "com/example/concordat/concordat/TransactionStatus"), (2, u "ACTIVE"), (0, u "Lcom/example/concordat/concordat/TransactionStatus;"), (2, u "COMMITTING"), (0, .fieldref 1 11), (0, .nameAndType 12 6), (0, u "COMMITTED"), (2, u "ROLLING_BACK"), (0, .fieldref 1 17), (0, .nameAndType 18 6), (0, u "ROLLED_BACK"), (2, u "RUNNING"), (2, u "COMPENSATING"), (2, u "$VALUES"), (0, u "[Lcom/example/concordat/concordat/TransactionStatus;"), (6, .class_ 37), (1, u "java/lang/Enum"), (30, .methodref 1 69), (0, .nameAndType 70 71), (0, u "ordinal"), (0, u "()I"), (33, u "isFinal"), (0, u "()Z"), (2, u "outcome"), (0, u "()Lcom/example/concordat/concordat/TransactionStatus;")] 20

def k6c0 : Code := { maxStack := 2, maxLocals := 1, code := prog_23_method_5_code, exceptionTable := #[], attributes := #[] }
def k6m0 : Method := { name := "isFinal", desc := "()Z", sig := { parameters := [], returnType := some .boolean }, accessFlags := 1, code := some k6c0 }
def k6c1 : Code := { maxStack := 1, maxLocals := 1, code := prog_23_method_8_code, exceptionTable := #[], attributes := #[] }
def k6m1 : Method := { name := "outcome", desc := "()Lcom/example/concordat/concordat/TransactionStatus;", sig := { parameters := [], returnType := some (.object "com/example/concordat/concordat/TransactionStatus") }, accessFlags := 1, code := some k6c1 }
/-- com/example/concordat/concordat/TransactionStatus -/
def k6 : Class := { plain "com/example/concordat/concordat/TransactionStatus" (some 5) with
  accessFlags := 16433
  interfaces := #[]
  cf := some (fileOf pool6 1 #[] #[{ accessFlags := 1, nameIndex := 105, descriptorIndex := 106, attributes := #[] }, { accessFlags := 1, nameIndex := 109, descriptorIndex := 110, attributes := #[] }] 16433 35 #[] #[{ accessFlags := 16409, nameIndex := 5, descriptorIndex := 6, attributes := #[] }, { accessFlags := 16409, nameIndex := 9, descriptorIndex := 6, attributes := #[] }, { accessFlags := 16409, nameIndex := 12, descriptorIndex := 6, attributes := #[] }, { accessFlags := 16409, nameIndex := 15, descriptorIndex := 6, attributes := #[] }, { accessFlags := 16409, nameIndex := 18, descriptorIndex := 6, attributes := #[] }, { accessFlags := 16409, nameIndex := 21, descriptorIndex := 6, attributes := #[] }, { accessFlags := 16409, nameIndex := 24, descriptorIndex := 6, attributes := #[] }, { accessFlags := 4122, nameIndex := 27, descriptorIndex := 28, attributes := #[] }])
  fields := #[{ name := "ACTIVE", type := (.object "com/example/concordat/concordat/TransactionStatus"), accessFlags := 16409, slot := 0, constantValue := 0 }, { name := "COMMITTING", type := (.object "com/example/concordat/concordat/TransactionStatus"), accessFlags := 16409, slot := 1, constantValue := 0 }, { name := "COMMITTED", type := (.object "com/example/concordat/concordat/TransactionStatus"), accessFlags := 16409, slot := 2, constantValue := 0 }, { name := "ROLLING_BACK", type := (.object "com/example/concordat/concordat/TransactionStatus"), accessFlags := 16409, slot := 3, constantValue := 0 }, { name := "ROLLED_BACK", type := (.object "com/example/concordat/concordat/TransactionStatus"), accessFlags := 16409, slot := 4, constantValue := 0 }, { name := "RUNNING", type := (.object "com/example/concordat/concordat/TransactionStatus"), accessFlags := 16409, slot := 5, constantValue := 0 }, { name := "COMPENSATING", type := (.object "com/example/concordat/concordat/TransactionStatus"), accessFlags := 16409, slot := 6, constantValue := 0 }, { name := "$VALUES", type := (.array (.object "com/example/concordat/concordat/TransactionStatus")), accessFlags := 4122, slot := 7, constantValue := 0 }]
  methods := #[k6m0, k6m1]
  instanceTypes := #[(.object "java/lang/String"), .int, .int]
  staticTypes := #[(.object "com/example/concordat/concordat/TransactionStatus"), (.object "com/example/concordat/concordat/TransactionStatus"), (.object "com/example/concordat/concordat/TransactionStatus"), (.object "com/example/concordat/concordat/TransactionStatus"), (.object "com/example/concordat/concordat/TransactionStatus"), (.object "com/example/concordat/concordat/TransactionStatus"), (.object "com/example/concordat/concordat/TransactionStatus"), (.array (.object "com/example/concordat/concordat/TransactionStatus"))]
  resolved := Array.replicate 131 none
  statics := some 0 }

def pool7 : Array CpInfo := pool [(1, u "java/lang/Cloneable"), (0, .class_ 1), (0, u "java/lang/Object"), (0, .class_ 3)] 3

/-- java/lang/Cloneable -/
def k7 : Class := { plain "java/lang/Cloneable" (some 0) with
  accessFlags := 1537
  interfaces := #[]
  cf := some (fileOf pool7 2 #[] #[] 1537 4 #[] #[])
  fields := #[]
  methods := #[]
  instanceTypes := #[]
  staticTypes := #[]
  resolved := Array.replicate 8 none
  statics := none }

/-- the primitive byte -/
def k8 : Class := { plain "byte" none with kind := .primitive 'B', accessFlags := 0x411 }
/-- [B -/
def k9 : Class := { plain "[B" (some 0) with kind := .array 8 .byte, interfaces := #[7, 4], accessFlags := 1041 }

/-- the primitive int -/
def k10 : Class := { plain "int" none with kind := .primitive 'I', accessFlags := 0x411 }
/-- [I -/
def k11 : Class := { plain "[I" (some 0) with kind := .array 10 .int, interfaces := #[7, 4], accessFlags := 1041 }

def heap : Heap := #[{ cls := 6, slots := #[.ref 1, .ref 7, .ref 2, .ref 4, .ref 3, .ref 5, .ref 6, .null], vm := .statics 6 },
  { cls := 6, slots := #[.null, .int 0, .int 0], vm := .none },
  { cls := 6, slots := #[.null, .int 2, .int 0], vm := .none },
  { cls := 6, slots := #[.null, .int 4, .int 0], vm := .none },
  { cls := 6, slots := #[.null, .int 3, .int 0], vm := .none },
  { cls := 6, slots := #[.null, .int 5, .int 0], vm := .none },
  { cls := 6, slots := #[.null, .int 6, .int 0], vm := .none },
  { cls := 6, slots := #[.null, .int 1, .int 0], vm := .none }]
def classes : Array Class := #[k0, k1, k2, k3, k4, k5, k6, k7, k8, k9, k10, k11]
def interned : List (Array UInt16 × Addr) := []
def slotsUsed : Nat := 29
def theMethod : MethodId := ⟨1, 2⟩
def args0 : Array Value := #[.int 5]
def aboutOver (below : List Frame) : State where
  vm := { classes := classes, interned := interned.toArray }
  heap := heap
  slotsUsed := slotsUsed
  threads := #[{ frames := .invoking theMethod args0 :: below }]
def below0 : List Frame := [.native { method := ⟨0, 0⟩, args := #[] }]
def about1 : State := aboutOver below0
def p0 : Program := .bare "" "" ""
def e0 : Env := launch0.env 0 0 0
theorem w_frames : about1.frames = Frame.invoking theMethod args0 :: below0 := rfl
set_option maxRecDepth 65536 in
theorem w_args : argsFit about1.vm theMethod args0 = true := by decide +kernel
set_option maxRecDepth 65536 in
theorem w_heap : heapFits about1 = true := by decide +kernel
set_option maxRecDepth 65536 in
theorem w_runnable : about1.curStatus? = some .runnable := by decide +kernel
set_option maxRecDepth 65536 in
theorem w_alone : about1.alone = true := by decide +kernel
set_option maxRecDepth 65536 in
theorem w_named : about1.methodNamed? x = some theMethod := by decide +kernel
set_option maxRecDepth 65536 in
theorem w_hears : about1.hears theMethod below0 = true := by decide +kernel
set_option maxRecDepth 65536 in
theorem w_ripe : about1.ripe theMethod args0 below0 = true := by decide +kernel
theorem w_running : about1.status = .running := rfl
set_option maxRecDepth 65536 in
theorem w_room : about1.hasRoom e0.platform room_1 = true :=
  launch0.hasRoom_least _ room_1 (by decide +kernel) (by decide +kernel) (by decide +kernel) (by decide +kernel) (by decide +kernel) (by decide +kernel)
theorem allAtoms_all (ts : List Jvm.Cond) (a : Array Jvm.Value) (st : Jvm.State) : (allAtoms ts).before a st = ts.all (fun c => c.before a st) := by
  induction ts with
  | nil => rfl
  | cons c t ih =>
    show (Jvm.Cond.and c (allAtoms t)).before a st = _
    rw [Jvm.Cond.before_and, ih, List.all_cons]
def words1 : List Jvm.Cond := Jvm.Cond.code x code maxLocals ret :: tables_1
/-- a 'code' word, met by the world's own term for the bytes: nothing is compared byte by byte -/
theorem code_word {y : MethodName} {bytes : ByteArray} {mx : Nat} {rt : Option FieldType} {a : Array Value} {s : State} {m : MethodId} {meth : Method} {c : Code} (h1 : s.methodNamed? y = some m) (h2 : s.vm.method? m = some meth) (h3 : meth.code = some c) (h4 : c.code = bytes)
    (h5 : (c.maxLocals == mx && c.exceptionTable.isEmpty && decide (c.maxStack ≤ mostOperands) && decide (meth.sig.returnType = rt) && !meth.locks && decide (parseMethodDescriptor y.desc = some meth.sig)) = true) : (Jvm.Cond.code y bytes mx rt).before a s = true := by
  simp only [Bool.and_eq_true, beq_iff_eq, Bool.not_eq_true', decide_eq_true_eq] at h5
  obtain ⟨⟨⟨⟨⟨g1, g2⟩, g3⟩, g4⟩, g5⟩, g6⟩ := h5
  simp [Cond.before, Cond.holds, Cond.value, h1, h2, h3, h4, g1, g2, g3, g4, g5, g6]
def isCode : Jvm.Cond → Bool
  | .code _ _ _ _ => true
  | _ => false
theorem all_split {L : List Jvm.Cond} {P : Jvm.Cond → Bool} (h1 : L.all (fun c => isCode c || P c) = true) (h2 : ∀ c ∈ L.filter isCode, P c = true) : L.all P = true := by
  refine List.all_eq_true.mpr fun c hc => ?_
  have h := List.all_eq_true.mp h1 c hc
  rcases Bool.eq_false_or_eq_true (isCode c) with hi | hi
  · exact h2 c (List.mem_filter.mpr ⟨hc, hi⟩)
  · simpa [hi] using h
set_option maxRecDepth 65536 in
theorem w_c0 : (Jvm.Cond.code x code maxLocals ret).before args0 about1 = true := code_word (m := ⟨1, 2⟩) (meth := k1m2) (c := k1c2) (by decide +kernel) rfl rfl rfl (by decide +kernel)
set_option maxRecDepth 65536 in
theorem w_c1 : (Jvm.Cond.code ({ cls := "com/example/concordat/concordat/TransactionStatusIsFinalPinLaw", name := "pick", desc := "(I)Lcom/example/concordat/concordat/TransactionStatus;" } : Jvm.MethodName) method_2_code (1 : Nat) (Option.some (Jvm.ClassFile.FieldType.object "com/example/concordat/concordat/TransactionStatus"))).before args0 about1 = true := code_word (m := ⟨1, 1⟩) (meth := k1m1) (c := k1c1) (by decide +kernel) rfl rfl rfl (by decide +kernel)
set_option maxRecDepth 65536 in
theorem w_c2 : (Jvm.Cond.code ({ cls := "com/example/concordat/concordat/TransactionStatus", name := "isFinal", desc := "()Z" } : Jvm.MethodName) prog_23_method_5_code (1 : Nat) (Option.some Jvm.ClassFile.FieldType.boolean)).before args0 about1 = true := code_word (m := ⟨6, 0⟩) (meth := k6m0) (c := k6c0) (by decide +kernel) rfl rfl rfl (by decide +kernel)
set_option maxRecDepth 65536 in
theorem w_c3 : (Jvm.Cond.code ({ cls := "com/example/concordat/concordat/TransactionStatus", name := "outcome", desc := "()Lcom/example/concordat/concordat/TransactionStatus;" } : Jvm.MethodName) prog_23_method_8_code (1 : Nat) (Option.some (Jvm.ClassFile.FieldType.object "com/example/concordat/concordat/TransactionStatus"))).before args0 about1 = true := code_word (m := ⟨6, 1⟩) (meth := k6m1) (c := k6c1) (by decide +kernel) rfl rfl rfl (by decide +kernel)
set_option maxRecDepth 65536 in
theorem w_c4 : (Jvm.Cond.code ({ cls := "java/lang/Enum", name := "ordinal", desc := "()I" } : Jvm.MethodName) jdk_37_method_2_code (1 : Nat) (Option.some Jvm.ClassFile.FieldType.int)).before args0 about1 = true := code_word (m := ⟨5, 0⟩) (meth := k5m0) (c := k5c0) (by decide +kernel) rfl rfl rfl (by decide +kernel)
def codes1 : List Jvm.Cond := [Jvm.Cond.code x code maxLocals ret, Jvm.Cond.code ({ cls := "com/example/concordat/concordat/TransactionStatusIsFinalPinLaw", name := "pick", desc := "(I)Lcom/example/concordat/concordat/TransactionStatus;" } : Jvm.MethodName) method_2_code (1 : Nat) (Option.some (Jvm.ClassFile.FieldType.object "com/example/concordat/concordat/TransactionStatus")), Jvm.Cond.code ({ cls := "com/example/concordat/concordat/TransactionStatus", name := "isFinal", desc := "()Z" } : Jvm.MethodName) prog_23_method_5_code (1 : Nat) (Option.some Jvm.ClassFile.FieldType.boolean), Jvm.Cond.code ({ cls := "com/example/concordat/concordat/TransactionStatus", name := "outcome", desc := "()Lcom/example/concordat/concordat/TransactionStatus;" } : Jvm.MethodName) prog_23_method_8_code (1 : Nat) (Option.some (Jvm.ClassFile.FieldType.object "com/example/concordat/concordat/TransactionStatus")), Jvm.Cond.code ({ cls := "java/lang/Enum", name := "ordinal", desc := "()I" } : Jvm.MethodName) jdk_37_method_2_code (1 : Nat) (Option.some Jvm.ClassFile.FieldType.int)]
set_option maxRecDepth 65536 in
theorem codes_eq : words1.filter isCode = codes1 := rfl
theorem w_codes : ∀ c ∈ words1.filter isCode, c.before args0 about1 = true := by
  rw [codes_eq]
  intro c hc
  simp only [codes1, List.mem_cons, List.not_mem_nil, or_false] at hc
  rcases hc with rfl | rfl | rfl | rfl | rfl
  · exact w_c0
  · exact w_c1
  · exact w_c2
  · exact w_c3
  · exact w_c4
set_option maxRecDepth 65536 in
theorem w_t1 : (words1.take 24).all (fun c => isCode c || c.before args0 about1) = true := by decide +kernel
set_option maxRecDepth 65536 in
theorem w_t2 : (words1.drop 24).all (fun c => isCode c || c.before args0 about1) = true := by decide +kernel
theorem w_tables : (allAtoms (Jvm.Cond.code x code maxLocals ret :: tables_1)).before args0 about1 = true := by
  rw [allAtoms_all]
  show words1.all (fun c => c.before args0 about1) = true
  refine all_split ?_ w_codes
  rw [← List.take_append_drop 24 words1, List.all_append, w_t1, w_t2]
  rfl
set_option maxRecDepth 65536 in
theorem w_case : (Jvm.Cond.and given_1 narrow_1).before args0 about1 = true := by decide +kernel
theorem w_applies : (headSpec (Jvm.Cond.code x code maxLocals ret :: tables_1) room_1).applies x e0.platform about1 = true :=
  (Spec.applies_iff w_frames).mpr ⟨w_running, w_runnable, w_alone, w_named, w_hears, w_ripe, w_room, w_tables⟩
theorem atStart : AtStart classFile x code maxLocals ret World_1 tables_1 room_1 Calls_1 rest_1 Pre_1 launch0 p0 e0 about1 theMethod args0 below0 :=
  ⟨lists_1, trivial, launch0.admits_env _ _ _, launch0.least_env, fairChoices_fair.cas, fairChoices_fair.clock, w_frames, w_args, w_heap, w_applies, trivial, trivial, w_case⟩
end start1
theorem witness_1 : WitnessClaimed_1 := ⟨start1.p0, start1.e0, start1.about1, start1.theMethod, start1.args0, start1.below0, start1.atStart⟩
end Jvm.Pilot.@@N@@
