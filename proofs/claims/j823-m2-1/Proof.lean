import JvmDerived
import JvmDerived.Pilot.@@N@@Statement
import JvmDerived.Pilot.@@N@@Code
set_option linter.unusedVariables false
set_option linter.unusedSimpArgs false
namespace Jvm.Pilot.@@N@@
open Jvm Jvm.ClassFile Sem Op Lib Jvm.Free Jvm.Stand Jvm.LawKit Jvm.RoadKit Bundle Jvm.Pilot.@@N@@.Jvm.D
section Own
variable {p : Program} {l : Launch} {e : Env} {R : Room} {s : State} {m : MethodId} {args : Array Value} {below : List Frame} {meth : Method} {c : Code} {T : State} {locs : List Loc} {cells slots cl sl : Nat} {Q : Option Value → Heap → List Loc → Prop}
/-- from the state S the invocation comes to its end, returns, and Q holds of what it returned and left -/
def Goes (p : Program) (e : Env) (below : List Frame) (s : State) (cl sl : Nat) (Q : Option Value → Heap → List Loc → Prop) (S : State) : Prop :=
  ∃ s₂ o, Steps p.tables e below S s₂ ∧ s₂.status = .running ∧ Ended s₂ below o ∧ ∃ v L, o = .returned v ∧ Q v s₂.heap L ∧ FrameEnd s o s₂ L cl sl
theorem Goes.step {S S' : State} (h : ∀ t, Steps p.tables e below S' t → Steps p.tables e below S t) (k : Goes p e below s cl sl Q S') : Goes p e below s cl sl Q S := by
  obtain ⟨s₂, o, a, b⟩ := k
  exact ⟨s₂, o, h _ a, b⟩
theorem Goes.back {S S' : State} (h : Steps p.tables e below S S') (k : Goes p e below s cl sl Q S') : Goes p e below s cl sl Q S := Goes.step (fun _ q => h.trans q) k
theorem Goes.ret (X : Stand p l e R s m args below meth c T locs cells slots) (hx : p.tables.exec = Jvm.exec) (hlk : meth.locks = false) {pc : Nat} {Ls : Array Slot} {w : Value} {t : FieldType} {i : Instr} {rest : List Value} (hret : meth.sig.returnType = some t) (hn : narrow t w = w)
    (hi : (i = .ireturn ∧ (t = .int ∨ t = .boolean ∨ t = .byte ∨ t = .char ∨ t = .short) ∧ ∃ z, w = .int z) ∨ (i = .lreturn ∧ t = .long ∧ ∃ z, w = .long z) ∨ (i = .dreturn ∧ t = .double ∧ ∃ z, w = .double z) ∨ (i = .freturn ∧ t = .float ∧ ∃ z, w = .float z) ∨ (i = .areturn ∧ t.isReference = true ∧ w.isRef = true))
    (hd : decode c.code pc = .ok (i, 1)) (hQ : Q (some w) T.heap locs) (hc : cells ≤ cl) (hs : slots ≤ sl) : Goes p e below s cl sl Q (T.setTop (mkF m pc Ls (w :: rest))) := by
  obtain ⟨fs, hr, hrun, hended, hW, hsame⟩ := X.leave (v := some w) (fun h => by rw [hret] at h; cases h) hlk
  exact ⟨_, _, retOut X hx hret hn hi hd hr, hrun, hended, _, _, rfl, hQ, ⟨_, rfl⟩, hW, hsame.mono hc hs⟩
theorem Goes.retV (X : Stand p l e R s m args below meth c T locs cells slots) (hx : p.tables.exec = Jvm.exec) (hlk : meth.locks = false) {pc : Nat} {Ls : Array Slot} (hret : meth.sig.returnType = none)
    (hd : decode c.code pc = .ok (.return_, 1)) (hQ : Q none T.heap locs) (hc : cells ≤ cl) (hs : slots ≤ sl) : Goes p e below s cl sl Q (T.setTop (mkF m pc Ls [])) := by
  obtain ⟨fs, hr, hrun, hended, hW, hsame⟩ := X.leave (v := none) (fun _ => rfl) hlk
  exact ⟨_, _, X.returnOut hx hret hd hr, hrun, hended, _, _, rfl, hQ, ⟨_, rfl⟩, hW, hsame.mono hc hs⟩
theorem own_eqInt {args : Array Value} {s : State} {t : Term} {k : Int32} (h : (Cond.eq t (.int k)).value args s none s [] = some true) : t.eval args s none [] s = some (.int k) := by
  obtain ⟨x, y, hx, hy, -, k2⟩ := cmp_v (Or.inl h)
  obtain rfl : y = .int k := (Option.some.inj hy).symm
  obtain ⟨z, rfl⟩ := k2
  have e : (Cond.eq t (.int k)).value args s none s [] = some (decide (z = k)) := by simp [Cond.value, hx, hy]
  rw [hx, gotT e h]
theorem own_eqLong {args : Array Value} {s : State} {t : Term} {k : Int64} (h : (Cond.eq t (.long k)).value args s none s [] = some true) : t.eval args s none [] s = some (.long k) := by
  obtain ⟨x, y, hx, hy, -, k2⟩ := cmp_v (Or.inl h)
  obtain rfl : y = .long k := (Option.some.inj hy).symm
  obtain ⟨z, rfl⟩ := k2
  rw [hx, gotT (eq_L hx hy) h]
theorem own_neFld {Z : State} {h : Heap} {a b : Addr} {C n d : String} {x y : Int32} (F : Fld Z h a C n d (.int x)) (G : Fld Z h b C n d (.int y)) (q : x ≠ y) : a ≠ b := fun e => by
  subst e
  obtain ⟨cell, cf, k, i, f, h1, h2, -, -, -, -, h7⟩ := F
  obtain ⟨cell', cf', k', i', f', g1, g2, -, -, -, -, g7⟩ := G
  cases h1.symm.trans g1
  cases h2.symm.trans g2
  rw [h7] at g7
  injection g7 with g8
  injection g8 with g9
  exact q g9
theorem own_miss1 {k : Int32} {a : Int} (b : Int32) (hb : b.toInt = a) (h : ¬ k = b) : a ≠ k.toInt := fun q => h (Int32.toInt_inj.mp (by rw [hb, q]))
theorem own_find3 {k : Int32} {a b c' o1 o2 o3 : Int} {a' b' d' : Int32} (ha : ¬ k = a') (hb : ¬ k = b') (hc : ¬ k = d') (ea : a'.toInt = a := by rfl) (eb : b'.toInt = b := by rfl) (ec : d'.toInt = c' := by rfl) : (#[(a, o1), (b, o2), (c', o3)] : Array (Int × Int)).find? (·.1 == k.toInt) = none :=
  find_miss fun p hp => by
    simp only [List.mem_cons, List.not_mem_nil, or_false] at hp
    rcases hp with rfl | rfl | rfl
    · exact own_miss1 _ ea ha
    · exact own_miss1 _ eb hb
    · exact own_miss1 _ ec hc
theorem own_insKeep {Z : State} {h h' : Heap} {a : Addr} {C : String} {b : Bool} {ws : List Addr} (F : Ins Z h a C b) (K : Keep h h' ws) : Ins Z h' a C b := by
  obtain ⟨cell, cT, h1, h2, h3⟩ := F
  obtain ⟨c', q, r1, r2, r3⟩ := K.2.2 a cell h1
  exact ⟨c', cT, q, h2, by rw [r1, r2]; exact h3⟩
theorem own_insLt {Z : State} {h : Heap} {a : Addr} {C : String} {b : Bool} (F : Ins Z h a C b) : a < h.size := by
  obtain ⟨cell, cT, h1, -⟩ := F
  exact (Array.getElem?_eq_some_iff.mp h1).1
theorem own_cat {v : Value} (h : v.isRef = true) : v.category = 1 := by cases v <;> first | rfl | (simp [Value.isRef] at h)
theorem own_nar {ty : FieldType} {v : Value} (h : v.isRef = true) : narrow ty v = v := by cases v <;> first | (simp [Value.isRef] at h; done) | (cases ty <;> rfl)
theorem own_fit {C : String} {v : Value} (h : v.isRef = true) : fits (.object C) v = true := by cases v <;> first | rfl | (simp [Value.isRef] at h)
/-- a private method is selected by its own type, which is no interface since another method of it is selected -/
theorem own_selPriv {s : State} {args : Array Value} {C : String} {x z y : MethodName} (w : (Cond.selects C x z).before args s = true) (hc : z.cls = y.cls) (hp : (Cond.privateMethod y).before args s = true) (hi : (Cond.instanceMethod y).before args s = true)
    (hy : y.cls ≠ "java/lang/invoke/MethodHandle" ∧ y.cls ≠ "java/lang/invoke/VarHandle") : (Cond.selects y.cls y y).before args s = true := by
  obtain ⟨c2, r2, m2, -, -, q3, -, kP, hkP, hkPi⟩ := Cond.selects_spec w
  have hf := findClass_of_methodNamed q3
  rw [hc] at hf
  exact selects_self_of_private hf hkP hkPi (Cond.privateMethod_at hp) hi hy
/-- an array whose contents aren't told -/
def Arx (Z : State) (h : Heap) (a : Addr) (k : ClassId) (ty : FieldType) (n : Int32) : Prop :=
  ∃ cl : Cell, Arr Z h a cl ty ∧ cl.cls = k ∧ cl.slots.size = n.toNatClampNeg ∧ ¬ n < 0 ∧ ∀ i, i < cl.slots.size → ∃ v, cl.slots[i]? = some v ∧ fits ty v = true
theorem Arx.lt {Z : State} {h : Heap} {a : Addr} {k : ClassId} {ty : FieldType} {n : Int32} (F : Arx Z h a k ty n) : a < h.size := by obtain ⟨cl, A, -⟩ := F; exact A.lt
theorem Arx.ext {Z : State} {h h' : Heap} {a : Addr} {k : ClassId} {ty : FieldType} {n : Int32} (F : Arx Z h a k ty n) (E : Ext h h') : Arx Z h' a k ty n := by obtain ⟨cl, A, r⟩ := F; exact ⟨cl, A.ext E, r⟩
theorem Arx.other {Z : State} {h h' : Heap} {a b : Addr} {k : ClassId} {ty : FieldType} {n : Int32} {sl : Nat} {v : Value} (F : Arx Z h b k ty n) (W : Wr h h' a sl v) (q : b ≠ a) : Arx Z h' b k ty n := by obtain ⟨cl, A, r⟩ := F; exact ⟨cl, A.other W q, r⟩
theorem Arx.keep {Z : State} {h h' : Heap} {a : Addr} {k : ClassId} {ty : FieldType} {n : Int32} {ws : List Addr} (F : Arx Z h a k ty n) (K : Keep h h' ws) (q : a ∉ ws) : Arx Z h' a k ty n := by obtain ⟨cl, A, r⟩ := F; exact ⟨cl, ⟨K.2.1 a cl A.1 q, A.2⟩, r⟩
theorem Arx.set {Z : State} {h h' : Heap} {a : Addr} {k : ClassId} {ty : FieldType} {n : Int32} {cl : Cell} {sl : Nat} {v : Value} (A : Arr Z h a cl ty) (q1 : cl.cls = k) (S : cl.slots.size = n.toNatClampNeg) (P : ¬ n < 0) (G : ∀ i, i < cl.slots.size → ∃ v, cl.slots[i]? = some v ∧ fits ty v = true) (hv : fits ty v = true) (W : Wr h h' a sl v) : Arx Z h' a k ty n := by
  refine ⟨_, A.same W, q1, by rw [sz_set]; exact S, P, fun i hi => ?_⟩
  rw [sz_set] at hi
  by_cases u : sl = i
  · subst u
    exact ⟨v, by simp [Cell.setSlot, hi], hv⟩
  · obtain ⟨w, e1, e2⟩ := G i hi
    refine ⟨w, ?_, e2⟩
    show (cl.slots.setIfInBounds sl v)[i]? = some w
    rw [Array.getElem?_setIfInBounds_ne u]
    exact e1
theorem own_arx {Z : State} {h : Heap} {a : Addr} {k : ClassId} {ty : FieldType} {n : Int32} {vs : List Value} {d : Value} (F : Arv Z h a k ty n vs d) : Arx Z h a k ty n := by
  obtain ⟨cl, A, r1, r2, r3, H, G⟩ := F
  exact ⟨cl, A, r1, r2, r3, fun i hi => ⟨_, H i hi, G i hi⟩⟩
theorem own_arI {cl : Cell} {j : Int32} (G : ∀ i, i < cl.slots.size → ∃ v, cl.slots[i]? = some v ∧ fits .int v = true) (hin : ¬ (j < 0 ∨ cl.slots.size ≤ j.toNatClampNeg)) : ∃ x : Int32, cl.slots[j.toNatClampNeg]? = some (.int x) := by
  obtain ⟨v, e1, e2⟩ := G _ (Nat.lt_of_not_le fun q => hin (Or.inr q))
  obtain ⟨x, rfl⟩ := fit_I e2 (Or.inl rfl)
  exact ⟨x, e1⟩
theorem own_arD {cl : Cell} {j : Int32} (G : ∀ i, i < cl.slots.size → ∃ v, cl.slots[i]? = some v ∧ fits .double v = true) (hin : ¬ (j < 0 ∨ cl.slots.size ≤ j.toNatClampNeg)) : ∃ x, cl.slots[j.toNatClampNeg]? = some (.double x) := by
  obtain ⟨v, e1, e2⟩ := G _ (Nat.lt_of_not_le fun q => hin (Or.inr q))
  obtain ⟨x, rfl⟩ := fit_D e2
  exact ⟨x, e1⟩
end Own
theorem own_arx0 {s : State} {args : Array Value} {t : Term} {a : Addr} {cl : Cell} {ty : FieldType} {n : Int32} (hfit : Fit s) (et : t.eval args s none [] s = some (.ref a)) (A : Arr s s.heap a cl ty) (hl : (Term.length t).eval args s none [] s = some (.int n)) (hn : ¬ n < 0) : Arx s s.heap a cl.cls ty n := by
  obtain ⟨x, c2, e1, e2, e4, e3⟩ := Jvm.Free.SB.Term.length_small hl
  cases et.symm.trans e1
  cases (A.fin (Vm.Alike.refl _)).symm.trans e2
  injection e4 with e5
  have hs : cl.slots.size = n.toNatClampNeg := by
    rw [e5]
    simp only [Int32.toNatClampNeg, len_toInt e3]
    rfl
  refine ⟨cl, A, rfl, hs, hn, fun i hi => ?_⟩
  have hq : ¬ (i.toInt32 < 0 ∨ cl.slots.size ≤ i.toInt32.toNatClampNeg) := idx_in hi e3
  obtain ⟨v, r1, r2⟩ := elem_fit hfit A hq
  refine ⟨v, ?_, r2⟩
  have hi2 : i.toInt32.toNatClampNeg = i := by simp only [Int32.toNatClampNeg, len_toInt (Nat.lt_trans hi e3)]; rfl
  rw [hi2] at r1
  exact r1
section OwnMix
def own_m1 (z : Int64) : Int64 := ((z ^^^ ((z.toUInt64 >>> ((30 : Int32) &&& 0x3f).toInt64.toUInt64).toInt64)) * (-4658895280553007687 : Int64))
def own_m2 (z : Int64) : Int64 := ((z ^^^ ((z.toUInt64 >>> ((27 : Int32) &&& 0x3f).toInt64.toUInt64).toInt64)) * (-7723592293110705685 : Int64))
def own_m3 (z : Int64) : Int64 := (z ^^^ ((z.toUInt64 >>> ((31 : Int32) &&& 0x3f).toInt64.toUInt64).toInt64))
def own_mix (z : Int64) : Int64 := own_m3 (own_m2 (own_m1 z))
theorem own_bx (k : Nat) (hk : 0 < k) (a b : BitVec 64) (h : a ^^^ (a >>> k) = b ^^^ (b >>> k)) : a = b := by
  have h2 : (a ^^^ (a >>> k)) ^^^ (b ^^^ (b >>> k)) = 0#64 := by rw [h, BitVec.xor_self]
  have h4 : (a ^^^ b) ^^^ ((a >>> k) ^^^ (b >>> k)) = 0#64 := by rw [← h2]; ac_rfl
  have h3 : a ^^^ b = (a ^^^ b) >>> k := by
    rw [BitVec.ushiftRight_xor_distrib]
    exact BitVec.xor_eq_zero_iff.mp h4
  have h5 : (a ^^^ b).toNat = (a ^^^ b).toNat / 2 ^ k := by
    have h6 := congrArg BitVec.toNat h3
    rw [BitVec.toNat_ushiftRight, Nat.shiftRight_eq_div_pow] at h6
    exact h6
  have h7 : (a ^^^ b).toNat = 0 := by
    rcases Nat.eq_zero_or_pos (a ^^^ b).toNat with q | q
    · exact q
    · have := Nat.div_lt_self q (Nat.one_lt_two_pow (Nat.ne_of_gt hk))
      omega
  exact BitVec.xor_eq_zero_iff.mp (BitVec.eq_of_toNat_eq (by rw [h7]; rfl))
theorem own_xs (k : Nat) (hk : 0 < k) (s : UInt64) (hs : ∀ z : UInt64, (z >>> s).toBitVec = z.toBitVec >>> k) (a b : Int64) (h : a ^^^ (a.toUInt64 >>> s).toInt64 = b ^^^ (b.toUInt64 >>> s).toInt64) : a = b := by
  have h1 := congrArg Int64.toBitVec h
  rw [Int64.toBitVec_xor, Int64.toBitVec_xor] at h1
  have e : ∀ z : Int64, ((z.toUInt64 >>> s).toInt64).toBitVec = z.toBitVec >>> k := fun z => hs z.toUInt64
  rw [e, e] at h1
  exact Int64.toBitVec_inj.mp (own_bx k hk _ _ h1)
theorem own_mulInj (c i : Int64) (hc : c * i = 1) (a b : Int64) (h : a * c = b * c) : a = b := by
  have h1 : a * c * i = b * c * i := by rw [h]
  rw [Int64.mul_assoc, Int64.mul_assoc, hc, Int64.mul_one, Int64.mul_one] at h1
  exact h1
theorem own_inj {a b : Int64} (h : own_mix a = own_mix b) : a = b := by
  have h3 : own_m2 (own_m1 a) = own_m2 (own_m1 b) := own_xs 31 (by decide) _ (fun z => rfl) _ _ h
  have h2 : own_m1 a = own_m1 b := own_xs 27 (by decide) _ (fun z => rfl) _ _ (own_mulInj (-7723592293110705685) (3573116690164977347) (by decide) _ _ h3)
  exact own_xs 30 (by decide) _ (fun z => rfl) _ _ (own_mulInj (-4658895280553007687) (-7575587736534282103) (by decide) _ _ h2)
theorem own_anchor0 : own_mix ((7046029254386353131 : Int64) + (-7046029254386353131 : Int64)) = (0 : Int64) := by decide +kernel
theorem own_anchor1 : own_mix ((-2177342782468422677 : Int64) + (-7046029254386353131 : Int64)) = (2720858781877447050 : Int64) := by decide +kernel
theorem own_same {a b : Int64} (c : Int64) (h : a = b) : own_mix (a + c) = own_mix (b + c) := by rw [h]
theorem own_diff {a b : Int64} (c : Int64) (h : ¬ a = b) : ¬ own_mix (a + c) = own_mix (b + c) := fun q => h (by
  have q2 := own_inj q
  have q3 : a + c - c = b + c - c := by rw [q2]
  rw [Int64.add_sub_cancel, Int64.add_sub_cancel] at q3
  exact q3)
end OwnMix
theorem d1_0 : decode prog_31_method_1_code 0 = .ok (.aload_n 0, 1) := by decide +kernel
theorem d1_1 : decode prog_31_method_1_code 1 = .ok (.invokespecial 1, 3) := by decide +kernel
theorem d1_4 : decode prog_31_method_1_code 4 = .ok (.aload_n 0, 1) := by decide +kernel
theorem d1_5 : decode prog_31_method_1_code 5 = .ok (.lload_n 1, 1) := by decide +kernel
theorem d1_6 : decode prog_31_method_1_code 6 = .ok (.putfield 7, 3) := by decide +kernel
theorem d1_9 : decode prog_31_method_1_code 9 = .ok (.return_, 1) := by decide +kernel
theorem pn_1 : plainName "com/example/hailwise/hailwise/SeededRandom" = true := by first | (simp [plainName, overriddenIn]; done) | decide +kernel
theorem ef_1 (m : MethodId) (x0 : Addr) (x1 : Int64) (f0_state : Int64)  : entryFrame m #[(.ref x0), (.long x1)] 3 = mkF m 0 #[.val (.ref x0), .val (.long x1), .second] [] := by first | (simp [entryFrame, mkF, argsToLocals, Value.category]; done) | rfl
def Q1 (Z : State) (x0 : Addr) (x1 : Int64) (f0_state : Int64) (h0 : Heap) (n0 : Nat) (v : Option Value) (h : Heap) (L : List Loc) : Prop := Fr n0 L ∧ Keep h0 h [x0] ∧ Exa Z h x0 "com/example/hailwise/hailwise/SeededRandom" ∧ ((v = none ∧ Fld Z h x0 "com/example/hailwise/hailwise/SeededRandom" "state" "J" (.long x1)))
set_option maxRecDepth 65536 in
set_option maxHeartbeats 40000000 in
theorem rm1 (l : Launch) (Z : State) (a0 : Array Value) (hw : ∀ d ∈ tables_1, d.before a0 Z = true) (ws : List Jvm.Cond) (x0 : Addr) (x1 : Int64) (f0_state : Int64) (h0 : Heap) (n0 : Nat) (Z0 : n0 ≤ h0.size) (F0_state : Fld Z h0 x0 "com/example/hailwise/hailwise/SeededRandom" "state" "J" (.long f0_state)) (E_x0 : Exa Z h0 x0 "com/example/hailwise/hailwise/SeededRandom") (g_x0 : n0 ≤ x0) :
    MetFree l (⟨"com/example/hailwise/hailwise/SeededRandom", "<init>", "(J)V"⟩ : MethodName) (head1 (Jvm.Cond.code (⟨"com/example/hailwise/hailwise/SeededRandom", "<init>", "(J)V"⟩ : MethodName) prog_31_method_1_code 3 none :: ws) ({ frames := 1, cells := 0, slots := 0, locals := 12 } : Room)) (fun a U => a = #[(.ref x0), (.long x1)] ∧ Z.Warmed39 U.vm ∧ U.heap = h0) (fun _ _ _ _ _ => True) (fun _ U o U' => ∃ v L, o = .returned v ∧ Q1 Z x0 x1 f0_state h0 n0 v U'.heap L ∧ FrameEnd U o U' L ({ frames := 1, cells := 0, slots := 0, locals := 12 } : Room).cells ({ frames := 1, cells := 0, slots := 0, locals := 12 } : Room).slots) := by
  refine MetFree.of_bodySF (plainFor_of_name pn_1) hisR ?_
  intro p e s m args below meth c s₁ Bd hml0 hP hK
  obtain ⟨rfl, hZ, hh⟩ := hP
  have hx := Bd.exec
  have hby := Bd.bytes
  have hml : c.maxLocals = 3 := hml0
  have hown : s.vm.findClass "com/example/hailwise/hailwise/SeededRandom" = some m.cls := findClass_of_methodNamed Bd.named
  have hnm := (name_of_methodNamed Bd.named Bd.method).1
  have X0 : Stand p l e ({ frames := 1, cells := 0, slots := 0, locals := 12 } : Room) s m #[(.ref x0), (.long x1)] below meth c s₁ [] 0 0 := Stand.of_body Bd
  have e0 : s₁.heap = h0 := by rw [← hh, Bd.state]; rfl
  have N0 := Fr.nil n0
  have K0 : Keep h0 h0 [x0] := Keep.refl h0 _
  refine (?_ : Goes p e below s ({ frames := 1, cells := 0, slots := 0, locals := 12 } : Room).cells ({ frames := 1, cells := 0, slots := 0, locals := 12 } : Room).slots (fun v h L => Q1 Z x0 x1 f0_state h0 n0 v h L) (s₁.setTop (entryFrame m #[(.ref x0), (.long x1)] 3)))
  rw [ef_1 m x0 x1 f0_state ]
  show Goes _ _ _ _ _ _ _ (s₁.setTop (mkF m 0 #[.val (.ref x0), .val (.long x1), .second] []))
  refine Goes.step (fun _ k => XS.aloadN X0.here hx rfl (hb hby d1_0) rfl rfl k) ?_
  show Goes _ _ _ _ _ _ _ (s₁.setTop (mkF m 1 #[.val (.ref x0), .val (.long x1), .second] [(.ref x0)]))
  obtain ⟨T1, X1, e1, st1⟩ := initO X0 hx hZ hown (hw _ (List.mem_of_getElem? (i := 7) rfl)) (hw _ (List.mem_of_getElem? (i := 8) rfl)) (hw _ (List.mem_of_getElem? (i := 9) rfl)) e0 (g := (mkF m 1 #[.val (.ref x0), .val (.long x1), .second] [(.ref x0)])) rfl (by rw [hml]; rfl) rfl (hb hby d1_1) (by decide) (W := 0) (by show 2 * 0 + _ ≤ _; exact Nat.le_of_eq rfl) (by decide)
  refine Goes.step st1 ?_
  show Goes _ _ _ _ _ _ _ (T1.setTop (mkF m 4 #[.val (.ref x0), .val (.long x1), .second] []))
  refine Goes.step (fun _ k => XS.aloadN X1.here hx rfl (hb hby d1_4) rfl rfl k) ?_
  show Goes _ _ _ _ _ _ _ (T1.setTop (mkF m 5 #[.val (.ref x0), .val (.long x1), .second] [(.ref x0)]))
  refine Goes.step (fun _ k => XS.lloadN X1.here hx rfl (hb hby d1_5) rfl  k) ?_
  show Goes _ _ _ _ _ _ _ (T1.setTop (mkF m 6 #[.val (.ref x0), .val (.long x1), .second] [(.long x1), (.ref x0)]))
  obtain ⟨T2, h2, X2, e2, W2, st2⟩ := putF X1 hx hZ hown (host := "") (Or.inl (hw _ (List.mem_of_getElem? (i := 10) rfl))) Via.refl e1 F0_state E_x0 (Or.inl (hw _ (List.mem_of_getElem? (i := 11) rfl))) (hw _ (List.mem_of_getElem? (i := 1) rfl)) (ty := .long) (by decide) rfl rfl (g := (mkF m 6 #[.val (.ref x0), .val (.long x1), .second] [(.long x1), (.ref x0)])) rfl rfl (hb hby d1_6)
  refine Goes.step st2 ?_
  have f3 := F0_state.same W2
  have f4 := E_x0.wr W2
  have K5 : Keep h0 h2 [x0] := K0.wr W2 (Or.inl (List.mem_of_getElem? (i := 0) rfl))
  have Z5 : n0 ≤ h2.size := by rw [Wr.size W2]; exact Z0
  have N5 := Fr.snoc X2 N0 g_x0
  show Goes _ _ _ _ _ _ _ (T2.setTop (mkF m 9 #[.val (.ref x0), .val (.long x1), .second] []))
  exact Goes.retV X2 hx (BodyLoose.notSynchronized Bd) Bd.returns (hb hby d1_9) (by show Q1 Z x0 x1 f0_state h0 n0 none T2.heap _; rw [e2]; exact ⟨N5, K5, f4, ⟨rfl, f3⟩⟩) (by decide) (by decide)
theorem d3_0 : decode prog_31_method_2_code 0 = .ok (.aload_n 0, 1) := by decide +kernel
theorem d3_1 : decode prog_31_method_2_code 1 = .ok (.dup, 1) := by decide +kernel
theorem d3_2 : decode prog_31_method_2_code 2 = .ok (.getfield 7, 3) := by decide +kernel
theorem d3_5 : decode prog_31_method_2_code 5 = .ok (.ldc2_w 13, 3) := by decide +kernel
theorem d3_8 : decode prog_31_method_2_code 8 = .ok (.ladd, 1) := by decide +kernel
theorem d3_9 : decode prog_31_method_2_code 9 = .ok (.putfield 7, 3) := by decide +kernel
theorem d3_12 : decode prog_31_method_2_code 12 = .ok (.aload_n 0, 1) := by decide +kernel
theorem d3_13 : decode prog_31_method_2_code 13 = .ok (.getfield 7, 3) := by decide +kernel
theorem d3_16 : decode prog_31_method_2_code 16 = .ok (.lstore_n 1, 1) := by decide +kernel
theorem d3_17 : decode prog_31_method_2_code 17 = .ok (.lload_n 1, 1) := by decide +kernel
theorem d3_18 : decode prog_31_method_2_code 18 = .ok (.lload_n 1, 1) := by decide +kernel
theorem d3_19 : decode prog_31_method_2_code 19 = .ok (.bipush 30, 2) := by decide +kernel
theorem d3_21 : decode prog_31_method_2_code 21 = .ok (.lushr, 1) := by decide +kernel
theorem d3_22 : decode prog_31_method_2_code 22 = .ok (.lxor, 1) := by decide +kernel
theorem d3_23 : decode prog_31_method_2_code 23 = .ok (.ldc2_w 15, 3) := by decide +kernel
theorem d3_26 : decode prog_31_method_2_code 26 = .ok (.lmul, 1) := by decide +kernel
theorem d3_27 : decode prog_31_method_2_code 27 = .ok (.lstore_n 1, 1) := by decide +kernel
theorem d3_28 : decode prog_31_method_2_code 28 = .ok (.lload_n 1, 1) := by decide +kernel
theorem d3_29 : decode prog_31_method_2_code 29 = .ok (.lload_n 1, 1) := by decide +kernel
theorem d3_30 : decode prog_31_method_2_code 30 = .ok (.bipush 27, 2) := by decide +kernel
theorem d3_32 : decode prog_31_method_2_code 32 = .ok (.lushr, 1) := by decide +kernel
theorem d3_33 : decode prog_31_method_2_code 33 = .ok (.lxor, 1) := by decide +kernel
theorem d3_34 : decode prog_31_method_2_code 34 = .ok (.ldc2_w 17, 3) := by decide +kernel
theorem d3_37 : decode prog_31_method_2_code 37 = .ok (.lmul, 1) := by decide +kernel
theorem d3_38 : decode prog_31_method_2_code 38 = .ok (.lstore_n 1, 1) := by decide +kernel
theorem d3_39 : decode prog_31_method_2_code 39 = .ok (.lload_n 1, 1) := by decide +kernel
theorem d3_40 : decode prog_31_method_2_code 40 = .ok (.lload_n 1, 1) := by decide +kernel
theorem d3_41 : decode prog_31_method_2_code 41 = .ok (.bipush 31, 2) := by decide +kernel
theorem d3_43 : decode prog_31_method_2_code 43 = .ok (.lushr, 1) := by decide +kernel
theorem d3_44 : decode prog_31_method_2_code 44 = .ok (.lxor, 1) := by decide +kernel
theorem d3_45 : decode prog_31_method_2_code 45 = .ok (.lreturn, 1) := by decide +kernel
theorem pn_3 : plainName "com/example/hailwise/hailwise/SeededRandom" = true := by first | (simp [plainName, overriddenIn]; done) | decide +kernel
theorem ef_3 (m : MethodId) (x0 : Addr) (f0_state : Int64)  : entryFrame m #[(.ref x0)] 3 = mkF m 0 #[.val (.ref x0), .unset, .unset] [] := by first | (simp [entryFrame, mkF, argsToLocals, Value.category]; done) | rfl
def Q3 (Z : State) (x0 : Addr) (f0_state : Int64) (h0 : Heap) (n0 : Nat) (v : Option Value) (h : Heap) (L : List Loc) : Prop := Fr n0 L ∧ Keep h0 h [x0] ∧ Exa Z h x0 "com/example/hailwise/hailwise/SeededRandom" ∧ ((v = some (.long (own_mix (f0_state + (-7046029254386353131 : Int64)))) ∧ Fld Z h x0 "com/example/hailwise/hailwise/SeededRandom" "state" "J" (.long (f0_state + (-7046029254386353131 : Int64)))))
set_option maxRecDepth 65536 in
set_option maxHeartbeats 40000000 in
theorem rm3 (l : Launch) (Z : State) (a0 : Array Value) (hw : ∀ d ∈ tables_1, d.before a0 Z = true) (ws : List Jvm.Cond) (x0 : Addr) (f0_state : Int64) (h0 : Heap) (n0 : Nat) (Z0 : n0 ≤ h0.size) (F0_state : Fld Z h0 x0 "com/example/hailwise/hailwise/SeededRandom" "state" "J" (.long f0_state)) (E_x0 : Exa Z h0 x0 "com/example/hailwise/hailwise/SeededRandom") (g_x0 : n0 ≤ x0) :
    MetFree l (⟨"com/example/hailwise/hailwise/SeededRandom", "nextLong", "()J"⟩ : MethodName) (head1 (Jvm.Cond.code (⟨"com/example/hailwise/hailwise/SeededRandom", "nextLong", "()J"⟩ : MethodName) prog_31_method_2_code 3 (some .long) :: ws) ({ frames := 0, cells := 0, slots := 0, locals := 0 } : Room)) (fun a U => a = #[(.ref x0)] ∧ Z.Warmed39 U.vm ∧ U.heap = h0) (fun _ _ _ _ _ => True) (fun _ U o U' => ∃ v L, o = .returned v ∧ Q3 Z x0 f0_state h0 n0 v U'.heap L ∧ FrameEnd U o U' L ({ frames := 0, cells := 0, slots := 0, locals := 0 } : Room).cells ({ frames := 0, cells := 0, slots := 0, locals := 0 } : Room).slots) := by
  refine MetFree.of_bodySF (plainFor_of_name pn_3) hisR ?_
  intro p e s m args below meth c s₁ Bd hml0 hP hK
  obtain ⟨rfl, hZ, hh⟩ := hP
  have hx := Bd.exec
  have hby := Bd.bytes
  have hml : c.maxLocals = 3 := hml0
  have hown : s.vm.findClass "com/example/hailwise/hailwise/SeededRandom" = some m.cls := findClass_of_methodNamed Bd.named
  have hnm := (name_of_methodNamed Bd.named Bd.method).1
  have X0 : Stand p l e ({ frames := 0, cells := 0, slots := 0, locals := 0 } : Room) s m #[(.ref x0)] below meth c s₁ [] 0 0 := Stand.of_body Bd
  have e0 : s₁.heap = h0 := by rw [← hh, Bd.state]; rfl
  have N0 := Fr.nil n0
  have K0 : Keep h0 h0 [x0] := Keep.refl h0 _
  refine (?_ : Goes p e below s ({ frames := 0, cells := 0, slots := 0, locals := 0 } : Room).cells ({ frames := 0, cells := 0, slots := 0, locals := 0 } : Room).slots (fun v h L => Q3 Z x0 f0_state h0 n0 v h L) (s₁.setTop (entryFrame m #[(.ref x0)] 3)))
  rw [ef_3 m x0 f0_state ]
  show Goes _ _ _ _ _ _ _ (s₁.setTop (mkF m 0 #[.val (.ref x0), .unset, .unset] []))
  refine Goes.step (fun _ k => XS.aloadN X0.here hx rfl (hb hby d3_0) rfl rfl k) ?_
  show Goes _ _ _ _ _ _ _ (s₁.setTop (mkF m 1 #[.val (.ref x0), .unset, .unset] [(.ref x0)]))
  refine Goes.step (fun _ k => XS.dup X0.here hx rfl (hb hby d3_1) rfl rfl k) ?_
  show Goes _ _ _ _ _ _ _ (s₁.setTop (mkF m 2 #[.val (.ref x0), .unset, .unset] [(.ref x0), (.ref x0)]))
  obtain ⟨T1, X1, e1, st1⟩ := getF X0 hx hZ hown (host := "") (Or.inl (hw _ (List.mem_of_getElem? (i := 10) rfl))) Via.refl e0 F0_state (g := (mkF m 2 #[.val (.ref x0), .unset, .unset] [(.ref x0), (.ref x0)])) rfl rfl (hb hby d3_2)
  refine Goes.step st1 ?_
  show Goes _ _ _ _ _ _ _ (T1.setTop (mkF m 5 #[.val (.ref x0), .unset, .unset] [(.long f0_state), (.ref x0)]))
  refine Goes.step (fun _ k => X1.ldc2Long hx hown (mvT hZ (hw _ (List.mem_of_getElem? (i := 17) rfl))) (g := (mkF m 5 #[.val (.ref x0), .unset, .unset] [(.long f0_state), (.ref x0)])) rfl (hb hby d3_5) _ k) ?_
  show Goes _ _ _ _ _ _ _ (T1.setTop (mkF m 8 #[.val (.ref x0), .unset, .unset] [(.long (-7046029254386353131 : Int64)), (.long f0_state), (.ref x0)]))
  refine Goes.step (fun _ k => XS.ladd X1.here hx rfl (hb hby d3_8) rfl k) ?_
  show Goes _ _ _ _ _ _ _ (T1.setTop (mkF m 9 #[.val (.ref x0), .unset, .unset] [(.long (f0_state + (-7046029254386353131 : Int64))), (.ref x0)]))
  obtain ⟨T2, h2, X2, e2, W2, st2⟩ := putF X1 hx hZ hown (host := "") (Or.inl (hw _ (List.mem_of_getElem? (i := 10) rfl))) Via.refl e1 F0_state E_x0 (Or.inl (hw _ (List.mem_of_getElem? (i := 11) rfl))) (hw _ (List.mem_of_getElem? (i := 1) rfl)) (ty := .long) (by decide) rfl rfl (g := (mkF m 9 #[.val (.ref x0), .unset, .unset] [(.long (f0_state + (-7046029254386353131 : Int64))), (.ref x0)])) rfl rfl (hb hby d3_9)
  refine Goes.step st2 ?_
  have f3 := F0_state.same W2
  have f4 := E_x0.wr W2
  have K5 : Keep h0 h2 [x0] := K0.wr W2 (Or.inl (List.mem_of_getElem? (i := 0) rfl))
  have Z5 : n0 ≤ h2.size := by rw [Wr.size W2]; exact Z0
  have N5 := Fr.snoc X2 N0 g_x0
  show Goes _ _ _ _ _ _ _ (T2.setTop (mkF m 12 #[.val (.ref x0), .unset, .unset] []))
  refine Goes.step (fun _ k => XS.aloadN X2.here hx rfl (hb hby d3_12) rfl rfl k) ?_
  show Goes _ _ _ _ _ _ _ (T2.setTop (mkF m 13 #[.val (.ref x0), .unset, .unset] [(.ref x0)]))
  obtain ⟨T6, X6, e6, st6⟩ := getF X2 hx hZ hown (host := "") (Or.inl (hw _ (List.mem_of_getElem? (i := 10) rfl))) Via.refl e2 f3 (g := (mkF m 13 #[.val (.ref x0), .unset, .unset] [(.ref x0)])) rfl rfl (hb hby d3_13)
  refine Goes.step st6 ?_
  show Goes _ _ _ _ _ _ _ (T6.setTop (mkF m 16 #[.val (.ref x0), .unset, .unset] [(.long (f0_state + (-7046029254386353131 : Int64)))]))
  refine Goes.step (fun _ k => XS.lstoreN X6.here hx rfl (hb hby d3_16) rfl (l' := #[.val (.ref x0), .val (.long (f0_state + (-7046029254386353131 : Int64))), .second]) rfl k) ?_
  show Goes _ _ _ _ _ _ _ (T6.setTop (mkF m 17 #[.val (.ref x0), .val (.long (f0_state + (-7046029254386353131 : Int64))), .second] []))
  refine Goes.step (fun _ k => XS.lloadN X6.here hx rfl (hb hby d3_17) rfl  k) ?_
  show Goes _ _ _ _ _ _ _ (T6.setTop (mkF m 18 #[.val (.ref x0), .val (.long (f0_state + (-7046029254386353131 : Int64))), .second] [(.long (f0_state + (-7046029254386353131 : Int64)))]))
  refine Goes.step (fun _ k => XS.lloadN X6.here hx rfl (hb hby d3_18) rfl  k) ?_
  show Goes _ _ _ _ _ _ _ (T6.setTop (mkF m 19 #[.val (.ref x0), .val (.long (f0_state + (-7046029254386353131 : Int64))), .second] [(.long (f0_state + (-7046029254386353131 : Int64))), (.long (f0_state + (-7046029254386353131 : Int64)))]))
  refine Goes.step (fun _ k => XS.bipush X6.here hx rfl (hb hby d3_19) k) ?_
  show Goes _ _ _ _ _ _ _ (T6.setTop (mkF m 21 #[.val (.ref x0), .val (.long (f0_state + (-7046029254386353131 : Int64))), .second] [(.int (30 : Int32)), (.long (f0_state + (-7046029254386353131 : Int64))), (.long (f0_state + (-7046029254386353131 : Int64)))]))
  refine Goes.step (fun _ k => XS.lushr X6.here hx rfl (hb hby d3_21) rfl k) ?_
  show Goes _ _ _ _ _ _ _ (T6.setTop (mkF m 22 #[.val (.ref x0), .val (.long (f0_state + (-7046029254386353131 : Int64))), .second] [(.long (((f0_state + (-7046029254386353131 : Int64)).toUInt64 >>> ((30 : Int32) &&& 0x3f).toInt64.toUInt64).toInt64)), (.long (f0_state + (-7046029254386353131 : Int64)))]))
  refine Goes.step (fun _ k => XS.lxor X6.here hx rfl (hb hby d3_22) rfl k) ?_
  show Goes _ _ _ _ _ _ _ (T6.setTop (mkF m 23 #[.val (.ref x0), .val (.long (f0_state + (-7046029254386353131 : Int64))), .second] [(.long ((f0_state + (-7046029254386353131 : Int64)) ^^^ (((f0_state + (-7046029254386353131 : Int64)).toUInt64 >>> ((30 : Int32) &&& 0x3f).toInt64.toUInt64).toInt64)))]))
  refine Goes.step (fun _ k => X6.ldc2Long hx hown (mvT hZ (hw _ (List.mem_of_getElem? (i := 18) rfl))) (g := (mkF m 23 #[.val (.ref x0), .val (.long (f0_state + (-7046029254386353131 : Int64))), .second] [(.long ((f0_state + (-7046029254386353131 : Int64)) ^^^ (((f0_state + (-7046029254386353131 : Int64)).toUInt64 >>> ((30 : Int32) &&& 0x3f).toInt64.toUInt64).toInt64)))])) rfl (hb hby d3_23) _ k) ?_
  show Goes _ _ _ _ _ _ _ (T6.setTop (mkF m 26 #[.val (.ref x0), .val (.long (f0_state + (-7046029254386353131 : Int64))), .second] [(.long (-4658895280553007687 : Int64)), (.long ((f0_state + (-7046029254386353131 : Int64)) ^^^ (((f0_state + (-7046029254386353131 : Int64)).toUInt64 >>> ((30 : Int32) &&& 0x3f).toInt64.toUInt64).toInt64)))]))
  refine Goes.step (fun _ k => XS.lmul X6.here hx rfl (hb hby d3_26) rfl k) ?_
  show Goes _ _ _ _ _ _ _ (T6.setTop (mkF m 27 #[.val (.ref x0), .val (.long (f0_state + (-7046029254386353131 : Int64))), .second] [(.long (((f0_state + (-7046029254386353131 : Int64)) ^^^ (((f0_state + (-7046029254386353131 : Int64)).toUInt64 >>> ((30 : Int32) &&& 0x3f).toInt64.toUInt64).toInt64)) * (-4658895280553007687 : Int64)))]))
  refine Goes.step (fun _ k => XS.lstoreN X6.here hx rfl (hb hby d3_27) rfl (l' := #[.val (.ref x0), .val (.long (((f0_state + (-7046029254386353131 : Int64)) ^^^ (((f0_state + (-7046029254386353131 : Int64)).toUInt64 >>> ((30 : Int32) &&& 0x3f).toInt64.toUInt64).toInt64)) * (-4658895280553007687 : Int64))), .second]) rfl k) ?_
  show Goes _ _ _ _ _ _ _ (T6.setTop (mkF m 28 #[.val (.ref x0), .val (.long (((f0_state + (-7046029254386353131 : Int64)) ^^^ (((f0_state + (-7046029254386353131 : Int64)).toUInt64 >>> ((30 : Int32) &&& 0x3f).toInt64.toUInt64).toInt64)) * (-4658895280553007687 : Int64))), .second] []))
  refine Goes.step (fun _ k => XS.lloadN X6.here hx rfl (hb hby d3_28) rfl  k) ?_
  show Goes _ _ _ _ _ _ _ (T6.setTop (mkF m 29 #[.val (.ref x0), .val (.long (((f0_state + (-7046029254386353131 : Int64)) ^^^ (((f0_state + (-7046029254386353131 : Int64)).toUInt64 >>> ((30 : Int32) &&& 0x3f).toInt64.toUInt64).toInt64)) * (-4658895280553007687 : Int64))), .second] [(.long (((f0_state + (-7046029254386353131 : Int64)) ^^^ (((f0_state + (-7046029254386353131 : Int64)).toUInt64 >>> ((30 : Int32) &&& 0x3f).toInt64.toUInt64).toInt64)) * (-4658895280553007687 : Int64)))]))
  refine Goes.step (fun _ k => XS.lloadN X6.here hx rfl (hb hby d3_29) rfl  k) ?_
  show Goes _ _ _ _ _ _ _ (T6.setTop (mkF m 30 #[.val (.ref x0), .val (.long (((f0_state + (-7046029254386353131 : Int64)) ^^^ (((f0_state + (-7046029254386353131 : Int64)).toUInt64 >>> ((30 : Int32) &&& 0x3f).toInt64.toUInt64).toInt64)) * (-4658895280553007687 : Int64))), .second] [(.long (((f0_state + (-7046029254386353131 : Int64)) ^^^ (((f0_state + (-7046029254386353131 : Int64)).toUInt64 >>> ((30 : Int32) &&& 0x3f).toInt64.toUInt64).toInt64)) * (-4658895280553007687 : Int64))), (.long (((f0_state + (-7046029254386353131 : Int64)) ^^^ (((f0_state + (-7046029254386353131 : Int64)).toUInt64 >>> ((30 : Int32) &&& 0x3f).toInt64.toUInt64).toInt64)) * (-4658895280553007687 : Int64)))]))
  refine Goes.step (fun _ k => XS.bipush X6.here hx rfl (hb hby d3_30) k) ?_
  show Goes _ _ _ _ _ _ _ (T6.setTop (mkF m 32 #[.val (.ref x0), .val (.long (((f0_state + (-7046029254386353131 : Int64)) ^^^ (((f0_state + (-7046029254386353131 : Int64)).toUInt64 >>> ((30 : Int32) &&& 0x3f).toInt64.toUInt64).toInt64)) * (-4658895280553007687 : Int64))), .second] [(.int (27 : Int32)), (.long (((f0_state + (-7046029254386353131 : Int64)) ^^^ (((f0_state + (-7046029254386353131 : Int64)).toUInt64 >>> ((30 : Int32) &&& 0x3f).toInt64.toUInt64).toInt64)) * (-4658895280553007687 : Int64))), (.long (((f0_state + (-7046029254386353131 : Int64)) ^^^ (((f0_state + (-7046029254386353131 : Int64)).toUInt64 >>> ((30 : Int32) &&& 0x3f).toInt64.toUInt64).toInt64)) * (-4658895280553007687 : Int64)))]))
  refine Goes.step (fun _ k => XS.lushr X6.here hx rfl (hb hby d3_32) rfl k) ?_
  show Goes _ _ _ _ _ _ _ (T6.setTop (mkF m 33 #[.val (.ref x0), .val (.long (((f0_state + (-7046029254386353131 : Int64)) ^^^ (((f0_state + (-7046029254386353131 : Int64)).toUInt64 >>> ((30 : Int32) &&& 0x3f).toInt64.toUInt64).toInt64)) * (-4658895280553007687 : Int64))), .second] [(.long (((((f0_state + (-7046029254386353131 : Int64)) ^^^ (((f0_state + (-7046029254386353131 : Int64)).toUInt64 >>> ((30 : Int32) &&& 0x3f).toInt64.toUInt64).toInt64)) * (-4658895280553007687 : Int64)).toUInt64 >>> ((27 : Int32) &&& 0x3f).toInt64.toUInt64).toInt64)), (.long (((f0_state + (-7046029254386353131 : Int64)) ^^^ (((f0_state + (-7046029254386353131 : Int64)).toUInt64 >>> ((30 : Int32) &&& 0x3f).toInt64.toUInt64).toInt64)) * (-4658895280553007687 : Int64)))]))
  refine Goes.step (fun _ k => XS.lxor X6.here hx rfl (hb hby d3_33) rfl k) ?_
  show Goes _ _ _ _ _ _ _ (T6.setTop (mkF m 34 #[.val (.ref x0), .val (.long (((f0_state + (-7046029254386353131 : Int64)) ^^^ (((f0_state + (-7046029254386353131 : Int64)).toUInt64 >>> ((30 : Int32) &&& 0x3f).toInt64.toUInt64).toInt64)) * (-4658895280553007687 : Int64))), .second] [(.long ((((f0_state + (-7046029254386353131 : Int64)) ^^^ (((f0_state + (-7046029254386353131 : Int64)).toUInt64 >>> ((30 : Int32) &&& 0x3f).toInt64.toUInt64).toInt64)) * (-4658895280553007687 : Int64)) ^^^ (((((f0_state + (-7046029254386353131 : Int64)) ^^^ (((f0_state + (-7046029254386353131 : Int64)).toUInt64 >>> ((30 : Int32) &&& 0x3f).toInt64.toUInt64).toInt64)) * (-4658895280553007687 : Int64)).toUInt64 >>> ((27 : Int32) &&& 0x3f).toInt64.toUInt64).toInt64)))]))
  refine Goes.step (fun _ k => X6.ldc2Long hx hown (mvT hZ (hw _ (List.mem_of_getElem? (i := 19) rfl))) (g := (mkF m 34 #[.val (.ref x0), .val (.long (((f0_state + (-7046029254386353131 : Int64)) ^^^ (((f0_state + (-7046029254386353131 : Int64)).toUInt64 >>> ((30 : Int32) &&& 0x3f).toInt64.toUInt64).toInt64)) * (-4658895280553007687 : Int64))), .second] [(.long ((((f0_state + (-7046029254386353131 : Int64)) ^^^ (((f0_state + (-7046029254386353131 : Int64)).toUInt64 >>> ((30 : Int32) &&& 0x3f).toInt64.toUInt64).toInt64)) * (-4658895280553007687 : Int64)) ^^^ (((((f0_state + (-7046029254386353131 : Int64)) ^^^ (((f0_state + (-7046029254386353131 : Int64)).toUInt64 >>> ((30 : Int32) &&& 0x3f).toInt64.toUInt64).toInt64)) * (-4658895280553007687 : Int64)).toUInt64 >>> ((27 : Int32) &&& 0x3f).toInt64.toUInt64).toInt64)))])) rfl (hb hby d3_34) _ k) ?_
  show Goes _ _ _ _ _ _ _ (T6.setTop (mkF m 37 #[.val (.ref x0), .val (.long (((f0_state + (-7046029254386353131 : Int64)) ^^^ (((f0_state + (-7046029254386353131 : Int64)).toUInt64 >>> ((30 : Int32) &&& 0x3f).toInt64.toUInt64).toInt64)) * (-4658895280553007687 : Int64))), .second] [(.long (-7723592293110705685 : Int64)), (.long ((((f0_state + (-7046029254386353131 : Int64)) ^^^ (((f0_state + (-7046029254386353131 : Int64)).toUInt64 >>> ((30 : Int32) &&& 0x3f).toInt64.toUInt64).toInt64)) * (-4658895280553007687 : Int64)) ^^^ (((((f0_state + (-7046029254386353131 : Int64)) ^^^ (((f0_state + (-7046029254386353131 : Int64)).toUInt64 >>> ((30 : Int32) &&& 0x3f).toInt64.toUInt64).toInt64)) * (-4658895280553007687 : Int64)).toUInt64 >>> ((27 : Int32) &&& 0x3f).toInt64.toUInt64).toInt64)))]))
  refine Goes.step (fun _ k => XS.lmul X6.here hx rfl (hb hby d3_37) rfl k) ?_
  show Goes _ _ _ _ _ _ _ (T6.setTop (mkF m 38 #[.val (.ref x0), .val (.long (((f0_state + (-7046029254386353131 : Int64)) ^^^ (((f0_state + (-7046029254386353131 : Int64)).toUInt64 >>> ((30 : Int32) &&& 0x3f).toInt64.toUInt64).toInt64)) * (-4658895280553007687 : Int64))), .second] [(.long (((((f0_state + (-7046029254386353131 : Int64)) ^^^ (((f0_state + (-7046029254386353131 : Int64)).toUInt64 >>> ((30 : Int32) &&& 0x3f).toInt64.toUInt64).toInt64)) * (-4658895280553007687 : Int64)) ^^^ (((((f0_state + (-7046029254386353131 : Int64)) ^^^ (((f0_state + (-7046029254386353131 : Int64)).toUInt64 >>> ((30 : Int32) &&& 0x3f).toInt64.toUInt64).toInt64)) * (-4658895280553007687 : Int64)).toUInt64 >>> ((27 : Int32) &&& 0x3f).toInt64.toUInt64).toInt64)) * (-7723592293110705685 : Int64)))]))
  refine Goes.step (fun _ k => XS.lstoreN X6.here hx rfl (hb hby d3_38) rfl (l' := #[.val (.ref x0), .val (.long (((((f0_state + (-7046029254386353131 : Int64)) ^^^ (((f0_state + (-7046029254386353131 : Int64)).toUInt64 >>> ((30 : Int32) &&& 0x3f).toInt64.toUInt64).toInt64)) * (-4658895280553007687 : Int64)) ^^^ (((((f0_state + (-7046029254386353131 : Int64)) ^^^ (((f0_state + (-7046029254386353131 : Int64)).toUInt64 >>> ((30 : Int32) &&& 0x3f).toInt64.toUInt64).toInt64)) * (-4658895280553007687 : Int64)).toUInt64 >>> ((27 : Int32) &&& 0x3f).toInt64.toUInt64).toInt64)) * (-7723592293110705685 : Int64))), .second]) rfl k) ?_
  show Goes _ _ _ _ _ _ _ (T6.setTop (mkF m 39 #[.val (.ref x0), .val (.long (((((f0_state + (-7046029254386353131 : Int64)) ^^^ (((f0_state + (-7046029254386353131 : Int64)).toUInt64 >>> ((30 : Int32) &&& 0x3f).toInt64.toUInt64).toInt64)) * (-4658895280553007687 : Int64)) ^^^ (((((f0_state + (-7046029254386353131 : Int64)) ^^^ (((f0_state + (-7046029254386353131 : Int64)).toUInt64 >>> ((30 : Int32) &&& 0x3f).toInt64.toUInt64).toInt64)) * (-4658895280553007687 : Int64)).toUInt64 >>> ((27 : Int32) &&& 0x3f).toInt64.toUInt64).toInt64)) * (-7723592293110705685 : Int64))), .second] []))
  refine Goes.step (fun _ k => XS.lloadN X6.here hx rfl (hb hby d3_39) rfl  k) ?_
  show Goes _ _ _ _ _ _ _ (T6.setTop (mkF m 40 #[.val (.ref x0), .val (.long (((((f0_state + (-7046029254386353131 : Int64)) ^^^ (((f0_state + (-7046029254386353131 : Int64)).toUInt64 >>> ((30 : Int32) &&& 0x3f).toInt64.toUInt64).toInt64)) * (-4658895280553007687 : Int64)) ^^^ (((((f0_state + (-7046029254386353131 : Int64)) ^^^ (((f0_state + (-7046029254386353131 : Int64)).toUInt64 >>> ((30 : Int32) &&& 0x3f).toInt64.toUInt64).toInt64)) * (-4658895280553007687 : Int64)).toUInt64 >>> ((27 : Int32) &&& 0x3f).toInt64.toUInt64).toInt64)) * (-7723592293110705685 : Int64))), .second] [(.long (((((f0_state + (-7046029254386353131 : Int64)) ^^^ (((f0_state + (-7046029254386353131 : Int64)).toUInt64 >>> ((30 : Int32) &&& 0x3f).toInt64.toUInt64).toInt64)) * (-4658895280553007687 : Int64)) ^^^ (((((f0_state + (-7046029254386353131 : Int64)) ^^^ (((f0_state + (-7046029254386353131 : Int64)).toUInt64 >>> ((30 : Int32) &&& 0x3f).toInt64.toUInt64).toInt64)) * (-4658895280553007687 : Int64)).toUInt64 >>> ((27 : Int32) &&& 0x3f).toInt64.toUInt64).toInt64)) * (-7723592293110705685 : Int64)))]))
  refine Goes.step (fun _ k => XS.lloadN X6.here hx rfl (hb hby d3_40) rfl  k) ?_
  show Goes _ _ _ _ _ _ _ (T6.setTop (mkF m 41 #[.val (.ref x0), .val (.long (((((f0_state + (-7046029254386353131 : Int64)) ^^^ (((f0_state + (-7046029254386353131 : Int64)).toUInt64 >>> ((30 : Int32) &&& 0x3f).toInt64.toUInt64).toInt64)) * (-4658895280553007687 : Int64)) ^^^ (((((f0_state + (-7046029254386353131 : Int64)) ^^^ (((f0_state + (-7046029254386353131 : Int64)).toUInt64 >>> ((30 : Int32) &&& 0x3f).toInt64.toUInt64).toInt64)) * (-4658895280553007687 : Int64)).toUInt64 >>> ((27 : Int32) &&& 0x3f).toInt64.toUInt64).toInt64)) * (-7723592293110705685 : Int64))), .second] [(.long (((((f0_state + (-7046029254386353131 : Int64)) ^^^ (((f0_state + (-7046029254386353131 : Int64)).toUInt64 >>> ((30 : Int32) &&& 0x3f).toInt64.toUInt64).toInt64)) * (-4658895280553007687 : Int64)) ^^^ (((((f0_state + (-7046029254386353131 : Int64)) ^^^ (((f0_state + (-7046029254386353131 : Int64)).toUInt64 >>> ((30 : Int32) &&& 0x3f).toInt64.toUInt64).toInt64)) * (-4658895280553007687 : Int64)).toUInt64 >>> ((27 : Int32) &&& 0x3f).toInt64.toUInt64).toInt64)) * (-7723592293110705685 : Int64))), (.long (((((f0_state + (-7046029254386353131 : Int64)) ^^^ (((f0_state + (-7046029254386353131 : Int64)).toUInt64 >>> ((30 : Int32) &&& 0x3f).toInt64.toUInt64).toInt64)) * (-4658895280553007687 : Int64)) ^^^ (((((f0_state + (-7046029254386353131 : Int64)) ^^^ (((f0_state + (-7046029254386353131 : Int64)).toUInt64 >>> ((30 : Int32) &&& 0x3f).toInt64.toUInt64).toInt64)) * (-4658895280553007687 : Int64)).toUInt64 >>> ((27 : Int32) &&& 0x3f).toInt64.toUInt64).toInt64)) * (-7723592293110705685 : Int64)))]))
  refine Goes.step (fun _ k => XS.bipush X6.here hx rfl (hb hby d3_41) k) ?_
  show Goes _ _ _ _ _ _ _ (T6.setTop (mkF m 43 #[.val (.ref x0), .val (.long (((((f0_state + (-7046029254386353131 : Int64)) ^^^ (((f0_state + (-7046029254386353131 : Int64)).toUInt64 >>> ((30 : Int32) &&& 0x3f).toInt64.toUInt64).toInt64)) * (-4658895280553007687 : Int64)) ^^^ (((((f0_state + (-7046029254386353131 : Int64)) ^^^ (((f0_state + (-7046029254386353131 : Int64)).toUInt64 >>> ((30 : Int32) &&& 0x3f).toInt64.toUInt64).toInt64)) * (-4658895280553007687 : Int64)).toUInt64 >>> ((27 : Int32) &&& 0x3f).toInt64.toUInt64).toInt64)) * (-7723592293110705685 : Int64))), .second] [(.int (31 : Int32)), (.long (((((f0_state + (-7046029254386353131 : Int64)) ^^^ (((f0_state + (-7046029254386353131 : Int64)).toUInt64 >>> ((30 : Int32) &&& 0x3f).toInt64.toUInt64).toInt64)) * (-4658895280553007687 : Int64)) ^^^ (((((f0_state + (-7046029254386353131 : Int64)) ^^^ (((f0_state + (-7046029254386353131 : Int64)).toUInt64 >>> ((30 : Int32) &&& 0x3f).toInt64.toUInt64).toInt64)) * (-4658895280553007687 : Int64)).toUInt64 >>> ((27 : Int32) &&& 0x3f).toInt64.toUInt64).toInt64)) * (-7723592293110705685 : Int64))), (.long (((((f0_state + (-7046029254386353131 : Int64)) ^^^ (((f0_state + (-7046029254386353131 : Int64)).toUInt64 >>> ((30 : Int32) &&& 0x3f).toInt64.toUInt64).toInt64)) * (-4658895280553007687 : Int64)) ^^^ (((((f0_state + (-7046029254386353131 : Int64)) ^^^ (((f0_state + (-7046029254386353131 : Int64)).toUInt64 >>> ((30 : Int32) &&& 0x3f).toInt64.toUInt64).toInt64)) * (-4658895280553007687 : Int64)).toUInt64 >>> ((27 : Int32) &&& 0x3f).toInt64.toUInt64).toInt64)) * (-7723592293110705685 : Int64)))]))
  refine Goes.step (fun _ k => XS.lushr X6.here hx rfl (hb hby d3_43) rfl k) ?_
  show Goes _ _ _ _ _ _ _ (T6.setTop (mkF m 44 #[.val (.ref x0), .val (.long (((((f0_state + (-7046029254386353131 : Int64)) ^^^ (((f0_state + (-7046029254386353131 : Int64)).toUInt64 >>> ((30 : Int32) &&& 0x3f).toInt64.toUInt64).toInt64)) * (-4658895280553007687 : Int64)) ^^^ (((((f0_state + (-7046029254386353131 : Int64)) ^^^ (((f0_state + (-7046029254386353131 : Int64)).toUInt64 >>> ((30 : Int32) &&& 0x3f).toInt64.toUInt64).toInt64)) * (-4658895280553007687 : Int64)).toUInt64 >>> ((27 : Int32) &&& 0x3f).toInt64.toUInt64).toInt64)) * (-7723592293110705685 : Int64))), .second] [(.long (((((((f0_state + (-7046029254386353131 : Int64)) ^^^ (((f0_state + (-7046029254386353131 : Int64)).toUInt64 >>> ((30 : Int32) &&& 0x3f).toInt64.toUInt64).toInt64)) * (-4658895280553007687 : Int64)) ^^^ (((((f0_state + (-7046029254386353131 : Int64)) ^^^ (((f0_state + (-7046029254386353131 : Int64)).toUInt64 >>> ((30 : Int32) &&& 0x3f).toInt64.toUInt64).toInt64)) * (-4658895280553007687 : Int64)).toUInt64 >>> ((27 : Int32) &&& 0x3f).toInt64.toUInt64).toInt64)) * (-7723592293110705685 : Int64)).toUInt64 >>> ((31 : Int32) &&& 0x3f).toInt64.toUInt64).toInt64)), (.long (((((f0_state + (-7046029254386353131 : Int64)) ^^^ (((f0_state + (-7046029254386353131 : Int64)).toUInt64 >>> ((30 : Int32) &&& 0x3f).toInt64.toUInt64).toInt64)) * (-4658895280553007687 : Int64)) ^^^ (((((f0_state + (-7046029254386353131 : Int64)) ^^^ (((f0_state + (-7046029254386353131 : Int64)).toUInt64 >>> ((30 : Int32) &&& 0x3f).toInt64.toUInt64).toInt64)) * (-4658895280553007687 : Int64)).toUInt64 >>> ((27 : Int32) &&& 0x3f).toInt64.toUInt64).toInt64)) * (-7723592293110705685 : Int64)))]))
  refine Goes.step (fun _ k => XS.lxor X6.here hx rfl (hb hby d3_44) rfl k) ?_
  show Goes _ _ _ _ _ _ _ (T6.setTop (mkF m 45 #[.val (.ref x0), .val (.long (((((f0_state + (-7046029254386353131 : Int64)) ^^^ (((f0_state + (-7046029254386353131 : Int64)).toUInt64 >>> ((30 : Int32) &&& 0x3f).toInt64.toUInt64).toInt64)) * (-4658895280553007687 : Int64)) ^^^ (((((f0_state + (-7046029254386353131 : Int64)) ^^^ (((f0_state + (-7046029254386353131 : Int64)).toUInt64 >>> ((30 : Int32) &&& 0x3f).toInt64.toUInt64).toInt64)) * (-4658895280553007687 : Int64)).toUInt64 >>> ((27 : Int32) &&& 0x3f).toInt64.toUInt64).toInt64)) * (-7723592293110705685 : Int64))), .second] [(.long ((((((f0_state + (-7046029254386353131 : Int64)) ^^^ (((f0_state + (-7046029254386353131 : Int64)).toUInt64 >>> ((30 : Int32) &&& 0x3f).toInt64.toUInt64).toInt64)) * (-4658895280553007687 : Int64)) ^^^ (((((f0_state + (-7046029254386353131 : Int64)) ^^^ (((f0_state + (-7046029254386353131 : Int64)).toUInt64 >>> ((30 : Int32) &&& 0x3f).toInt64.toUInt64).toInt64)) * (-4658895280553007687 : Int64)).toUInt64 >>> ((27 : Int32) &&& 0x3f).toInt64.toUInt64).toInt64)) * (-7723592293110705685 : Int64)) ^^^ (((((((f0_state + (-7046029254386353131 : Int64)) ^^^ (((f0_state + (-7046029254386353131 : Int64)).toUInt64 >>> ((30 : Int32) &&& 0x3f).toInt64.toUInt64).toInt64)) * (-4658895280553007687 : Int64)) ^^^ (((((f0_state + (-7046029254386353131 : Int64)) ^^^ (((f0_state + (-7046029254386353131 : Int64)).toUInt64 >>> ((30 : Int32) &&& 0x3f).toInt64.toUInt64).toInt64)) * (-4658895280553007687 : Int64)).toUInt64 >>> ((27 : Int32) &&& 0x3f).toInt64.toUInt64).toInt64)) * (-7723592293110705685 : Int64)).toUInt64 >>> ((31 : Int32) &&& 0x3f).toInt64.toUInt64).toInt64)))]))
  exact Goes.ret X6 hx (BodyLoose.notSynchronized Bd) Bd.returns rfl (Or.inr (Or.inl ⟨rfl, rfl, _, rfl⟩)) (hb hby d3_45) (by show Q3 Z x0 f0_state h0 n0 (some (.long ((((((f0_state + (-7046029254386353131 : Int64)) ^^^ (((f0_state + (-7046029254386353131 : Int64)).toUInt64 >>> ((30 : Int32) &&& 0x3f).toInt64.toUInt64).toInt64)) * (-4658895280553007687 : Int64)) ^^^ (((((f0_state + (-7046029254386353131 : Int64)) ^^^ (((f0_state + (-7046029254386353131 : Int64)).toUInt64 >>> ((30 : Int32) &&& 0x3f).toInt64.toUInt64).toInt64)) * (-4658895280553007687 : Int64)).toUInt64 >>> ((27 : Int32) &&& 0x3f).toInt64.toUInt64).toInt64)) * (-7723592293110705685 : Int64)) ^^^ (((((((f0_state + (-7046029254386353131 : Int64)) ^^^ (((f0_state + (-7046029254386353131 : Int64)).toUInt64 >>> ((30 : Int32) &&& 0x3f).toInt64.toUInt64).toInt64)) * (-4658895280553007687 : Int64)) ^^^ (((((f0_state + (-7046029254386353131 : Int64)) ^^^ (((f0_state + (-7046029254386353131 : Int64)).toUInt64 >>> ((30 : Int32) &&& 0x3f).toInt64.toUInt64).toInt64)) * (-4658895280553007687 : Int64)).toUInt64 >>> ((27 : Int32) &&& 0x3f).toInt64.toUInt64).toInt64)) * (-7723592293110705685 : Int64)).toUInt64 >>> ((31 : Int32) &&& 0x3f).toInt64.toUInt64).toInt64)))) T6.heap _; rw [e6]; exact ⟨N5, K5, f4, ⟨rfl, f3⟩⟩) (by decide) (by decide)
theorem pn_0 : plainName "com/example/hailwise/hailwise/SeededRandomNextLongPinLaw" = true := by first | (simp [plainName, overriddenIn]; done) | decide +kernel
theorem ef_0 (m : MethodId) (p0 : Int64) (p2 : Int64)  : entryFrame m #[(.long p0), (.long p2)] maxLocals = mkF m 0 #[.val (.long p0), .second, .val (.long p2), .second, .unset, .unset, .unset, .unset, .unset, .unset, .unset, .unset, .unset, .unset, .unset, .unset, .unset, .unset, .unset, .unset, .unset, .unset, .unset, .unset] [] := by first | (simp [entryFrame, mkF, argsToLocals, Value.category, maxLocals]; done) | rfl
theorem pd_0 : parseMethodDescriptor "(J)V" = some ⟨[.long], none⟩ := by decide +kernel
theorem pd_2 : parseMethodDescriptor "()J" = some ⟨[], some .long⟩ := by decide +kernel
def Q0 (Z : State) (p0 : Int64) (p2 : Int64) (h0 : Heap) (n0 : Nat) (v : Option Value) (h : Heap) (L : List Loc) : Prop := v = some (.int 1) ∧ Fr n0 L
set_option maxRecDepth 65536 in
set_option maxHeartbeats 40000000 in
theorem rm0 (l : Launch) (Z : State) (a0 : Array Value) (hw : ∀ d ∈ tables_1, d.before a0 Z = true) (ws : List Jvm.Cond) (p0 : Int64) (p2 : Int64) (h0 : Heap) (n0 : Nat) (Z0 : n0 ≤ h0.size) :
    MetFree l x (head1 (Jvm.Cond.code x code maxLocals ret :: ws) room_1) (fun a U => a = #[(.long p0), (.long p2)] ∧ Z.Warmed39 U.vm ∧ U.heap = h0) (fun _ _ _ _ _ => True) (fun _ U o U' => ∃ v L, o = .returned v ∧ Q0 Z p0 p2 h0 n0 v U'.heap L ∧ FrameEnd U o U' L room_1.cells room_1.slots) := by
  refine MetFree.of_bodySF (plainFor_of_name pn_0) hisR ?_
  intro p e s m args below meth c s₁ Bd hml0 hP hK
  obtain ⟨rfl, hZ, hh⟩ := hP
  have hx := Bd.exec
  have hby := Bd.bytes
  have hml : c.maxLocals = 24 := hml0
  have hown : s.vm.findClass "com/example/hailwise/hailwise/SeededRandomNextLongPinLaw" = some m.cls := findClass_of_methodNamed Bd.named
  have hnm := (name_of_methodNamed Bd.named Bd.method).1
  have X0 : Stand p l e room_1 s m #[(.long p0), (.long p2)] below meth c s₁ [] 0 0 := Stand.of_body Bd
  have e0 : s₁.heap = h0 := by rw [← hh, Bd.state]; rfl
  have N0 := Fr.nil n0
  have K0 : Keep h0 h0 [] := Keep.refl h0 _
  refine (?_ : Goes p e below s room_1.cells room_1.slots (fun v h L => Q0 Z p0 p2 h0 n0 v h L) (s₁.setTop (entryFrame m #[(.long p0), (.long p2)] maxLocals)))
  rw [ef_0 m p0 p2 ]
  show Goes _ _ _ _ _ _ _ (s₁.setTop (mkF m 0 #[.val (.long p0), .second, .val (.long p2), .second, .unset, .unset, .unset, .unset, .unset, .unset, .unset, .unset, .unset, .unset, .unset, .unset, .unset, .unset, .unset, .unset, .unset, .unset, .unset, .unset] []))
  obtain ⟨T1, h1, X1, e1, E1, A1, D1, -, st1⟩ := newO X0 hx hZ hown (hw _ (List.mem_of_getElem? (i := 0) rfl)) (hw _ (List.mem_of_getElem? (i := 1) rfl)) (hw _ (List.mem_of_getElem? (i := 2) rfl)) e0 (g := (mkF m 0 #[.val (.long p0), .second, .val (.long p2), .second, .unset, .unset, .unset, .unset, .unset, .unset, .unset, .unset, .unset, .unset, .unset, .unset, .unset, .unset, .unset, .unset, .unset, .unset, .unset, .unset] [])) rfl (hb hby at_0) (by decide) (by decide)
  obtain ⟨b1, g1⟩ : ∃ z, z = h0.size := ⟨_, rfl⟩
  rw [← g1] at A1 D1 st1
  refine Goes.step st1 ?_
  have g_b1 : n0 ≤ b1 := Nat.le_trans Z0 (Nat.le_of_eq g1.symm)
  have sz_b1 : h0.size ≤ b1 := Nat.le_trans K0.1 (Nat.le_of_eq g1.symm)
  have K2 : Keep h0 h1 [] := K0.ext E1
  have Z2 : n0 ≤ h1.size := Nat.le_trans Z0 E1.1
  have E_b1 := A1
  have F_state_b1 : Fld Z h1 b1 "com/example/hailwise/hailwise/SeededRandom" "state" "J" (.long (0 : Int64)) := D1 (Or.inl (hw _ (List.mem_of_getElem? (i := 11) rfl))) (ty := .long) (by decide)
  show Goes _ _ _ _ _ _ _ (T1.setTop (mkF m 3 #[.val (.long p0), .second, .val (.long p2), .second, .unset, .unset, .unset, .unset, .unset, .unset, .unset, .unset, .unset, .unset, .unset, .unset, .unset, .unset, .unset, .unset, .unset, .unset, .unset, .unset] [(.ref b1)]))
  refine Goes.step (fun _ k => XS.dup X1.here hx rfl (hb hby at_3) rfl rfl k) ?_
  show Goes _ _ _ _ _ _ _ (T1.setTop (mkF m 4 #[.val (.long p0), .second, .val (.long p2), .second, .unset, .unset, .unset, .unset, .unset, .unset, .unset, .unset, .unset, .unset, .unset, .unset, .unset, .unset, .unset, .unset, .unset, .unset, .unset, .unset] [(.ref b1), (.ref b1)]))
  refine Goes.step (fun _ k => X1.ldc2Long hx hown (mvT hZ (hw _ (List.mem_of_getElem? (i := 3) rfl))) (g := (mkF m 4 #[.val (.long p0), .second, .val (.long p2), .second, .unset, .unset, .unset, .unset, .unset, .unset, .unset, .unset, .unset, .unset, .unset, .unset, .unset, .unset, .unset, .unset, .unset, .unset, .unset, .unset] [(.ref b1), (.ref b1)])) rfl (hb hby at_4) _ k) ?_
  show Goes _ _ _ _ _ _ _ (T1.setTop (mkF m 7 #[.val (.long p0), .second, .val (.long p2), .second, .unset, .unset, .unset, .unset, .unset, .unset, .unset, .unset, .unset, .unset, .unset, .unset, .unset, .unset, .unset, .unset, .unset, .unset, .unset, .unset] [(.long (7046029254386353131 : Int64)), (.ref b1), (.ref b1)]))
  obtain ⟨_, _, ⟨T3, L3, k3, n3⟩, -, X3, ⟨Lc3, hQ3, l3, y3, z3⟩, st3⟩ := X1.specialBack hx (y := (⟨"com/example/hailwise/hailwise/SeededRandom", "<init>", "(J)V"⟩ : MethodName)) rfl hown (mvT hZ (hw _ (List.mem_of_getElem? (i := 4) rfl))) (mvT hZ (hw _ (List.mem_of_getElem? (i := 5) rfl))) (mvT hZ (hw _ (List.mem_of_getElem? (i := 6) rfl))) (by decide) (backOf (W := 1) (rm1 l Z a0 hw [] b1 (7046029254386353131 : Int64) (0 : Int64) h1 n0 Z2 F_state_b1 E_b1 g_b1) hZ (hw _ (List.mem_of_getElem? (i := 6) rfl)) (hw _ (List.mem_of_getElem? (i := 2) rfl)) (by decide) (by decide)) (g := (mkF m 7 #[.val (.long p0), .second, .val (.long p2), .second, .unset, .unset, .unset, .unset, .unset, .unset, .unset, .unset, .unset, .unset, .unset, .unset, .unset, .unset, .unset, .unset, .unset, .unset, .unset, .unset] [(.long (7046029254386353131 : Int64)), (.ref b1), (.ref b1)])) rfl (by rw [hml]; rfl) (Steps.refl _) (a := b1) (argsL := [(.long (7046029254386353131 : Int64))]) (rest := [(.ref b1)]) (lenOf pd_0 rfl) rfl (by show 2 * 0 + _ ≤ _; exact Nat.le_of_eq rfl) (hb hby at_7) (fun _ _ => ⟨rfl, e1, (by decide : 1 + 0 ≤ _), (by decide : 1 + 0 ≤ _)⟩)
  dsimp only [Pt.U, Pt.locs, Pt.cells, Pt.slots] at X3 l3 y3 z3 st3 hQ3
  subst l3 y3 z3
  obtain ⟨N3, KK3, ex3_0, hR3⟩ := hQ3
  have NA3 := Fr.app N0 N3
  have f4 := E_b1.keep KK3
  have K6 : Keep h0 T3.heap [] := K2.trans KK3 (allS (Or.inr sz_b1) all0)
  have Z6 : n0 ≤ T3.heap.size := Nat.le_trans Z2 KK3.1
  obtain ⟨rfl, v3_0_0⟩ := hR3
  refine Goes.back st3 ?_
  show Goes _ _ _ _ _ _ _ (T3.setTop (mkF m 10 #[.val (.long p0), .second, .val (.long p2), .second, .unset, .unset, .unset, .unset, .unset, .unset, .unset, .unset, .unset, .unset, .unset, .unset, .unset, .unset, .unset, .unset, .unset, .unset, .unset, .unset] [(.ref b1)]))
  refine Goes.step (fun _ k => XS.astore X3.here hx rfl (hb hby at_10) rfl rfl (l' := #[.val (.long p0), .second, .val (.long p2), .second, .val (.ref b1), .unset, .unset, .unset, .unset, .unset, .unset, .unset, .unset, .unset, .unset, .unset, .unset, .unset, .unset, .unset, .unset, .unset, .unset, .unset]) rfl k) ?_
  show Goes _ _ _ _ _ _ _ (T3.setTop (mkF m 12 #[.val (.long p0), .second, .val (.long p2), .second, .val (.ref b1), .unset, .unset, .unset, .unset, .unset, .unset, .unset, .unset, .unset, .unset, .unset, .unset, .unset, .unset, .unset, .unset, .unset, .unset, .unset] []))
  refine Goes.step (fun _ k => XS.aload X3.here hx rfl (hb hby at_12) rfl rfl k) ?_
  show Goes _ _ _ _ _ _ _ (T3.setTop (mkF m 14 #[.val (.long p0), .second, .val (.long p2), .second, .val (.ref b1), .unset, .unset, .unset, .unset, .unset, .unset, .unset, .unset, .unset, .unset, .unset, .unset, .unset, .unset, .unset, .unset, .unset, .unset, .unset] [(.ref b1)]))
  obtain ⟨cq7, kq7, q7a, q7b, q7c⟩ := isOf hZ rfl f4
  obtain ⟨_, _, ⟨T7, L7, k7, n7⟩, -, X7, ⟨Lc7, hQ7, l7, y7, z7⟩, st7⟩ := X3.virtualBack hx (y := (⟨"com/example/hailwise/hailwise/SeededRandom", "nextLong", "()J"⟩ : MethodName)) (z := (⟨"com/example/hailwise/hailwise/SeededRandom", "nextLong", "()J"⟩ : MethodName)) hown (mvT hZ (hw _ (List.mem_of_getElem? (i := 12) rfl))) (mvT hZ (hw _ (List.mem_of_getElem? (i := 13) rfl))) (notFace_of_selects (args := #[]) (mvT hZ (hw _ (List.mem_of_getElem? (i := 15) rfl)))) (mvT hZ (hw _ (List.mem_of_getElem? (i := 15) rfl))) (mvT hZ (hw _ (List.mem_of_getElem? (i := 14) rfl))) (by decide) (backOf (W := 0) (rm3 l Z a0 hw [] b1 (7046029254386353131 : Int64) T3.heap n0 Z6 v3_0_0 f4 g_b1) hZ (hw _ (List.mem_of_getElem? (i := 16) rfl)) (hw _ (List.mem_of_getElem? (i := 2) rfl)) (by decide) (by decide)) q7a q7c (g := (mkF m 14 #[.val (.long p0), .second, .val (.long p2), .second, .val (.ref b1), .unset, .unset, .unset, .unset, .unset, .unset, .unset, .unset, .unset, .unset, .unset, .unset, .unset, .unset, .unset, .unset, .unset, .unset, .unset] [(.ref b1)])) rfl (by rw [hml]; rfl) (Steps.refl _) (argsL := []) (rest := []) (lenOf pd_2 rfl) rfl (by show 2 * 0 + _ ≤ _; exact Nat.le_of_eq rfl) (hb hby at_14) (fun _ _ => ⟨rfl, rfl, (by decide : 1 + 0 ≤ _), (by decide : 1 + 0 ≤ _)⟩)
  dsimp only [Pt.U, Pt.locs, Pt.cells, Pt.slots] at X7 l7 y7 z7 st7 hQ7
  subst l7 y7 z7
  obtain ⟨N7, KK7, ex7_0, hR7⟩ := hQ7
  have NA7 := Fr.app NA3 N7
  have f8 := f4.keep KK7
  have K10 : Keep h0 T7.heap [] := K6.trans KK7 (allS (Or.inr sz_b1) all0)
  have Z10 : n0 ≤ T7.heap.size := Nat.le_trans Z6 KK7.1
  obtain ⟨rfl, v7_0_0⟩ := hR7
  refine Goes.back st7 ?_
  show Goes _ _ _ _ _ _ _ (T7.setTop (mkF m 17 #[.val (.long p0), .second, .val (.long p2), .second, .val (.ref b1), .unset, .unset, .unset, .unset, .unset, .unset, .unset, .unset, .unset, .unset, .unset, .unset, .unset, .unset, .unset, .unset, .unset, .unset, .unset] [(.long (own_mix (0 : Int64)))]))
  refine Goes.step (fun _ k => XS.lstore X7.here hx rfl (hb hby at_17) rfl (l' := #[.val (.long p0), .second, .val (.long p2), .second, .val (.ref b1), .val (.long (own_mix (0 : Int64))), .second, .unset, .unset, .unset, .unset, .unset, .unset, .unset, .unset, .unset, .unset, .unset, .unset, .unset, .unset, .unset, .unset, .unset]) rfl k) ?_
  show Goes _ _ _ _ _ _ _ (T7.setTop (mkF m 19 #[.val (.long p0), .second, .val (.long p2), .second, .val (.ref b1), .val (.long (own_mix (0 : Int64))), .second, .unset, .unset, .unset, .unset, .unset, .unset, .unset, .unset, .unset, .unset, .unset, .unset, .unset, .unset, .unset, .unset, .unset] []))
  obtain ⟨T11, h11, X11, e11, E11, A11, D11, -, st11⟩ := newO X7 hx hZ hown (hw _ (List.mem_of_getElem? (i := 0) rfl)) (hw _ (List.mem_of_getElem? (i := 1) rfl)) (hw _ (List.mem_of_getElem? (i := 2) rfl)) rfl (g := (mkF m 19 #[.val (.long p0), .second, .val (.long p2), .second, .val (.ref b1), .val (.long (own_mix (0 : Int64))), .second, .unset, .unset, .unset, .unset, .unset, .unset, .unset, .unset, .unset, .unset, .unset, .unset, .unset, .unset, .unset, .unset, .unset] [])) rfl (hb hby at_19) (by decide) (by decide)
  obtain ⟨b11, g11⟩ : ∃ z, z = T7.heap.size := ⟨_, rfl⟩
  rw [← g11] at A11 D11 st11
  refine Goes.step st11 ?_
  have g_b11 : n0 ≤ b11 := Nat.le_trans Z10 (Nat.le_of_eq g11.symm)
  have sz_b11 : h0.size ≤ b11 := Nat.le_trans K10.1 (Nat.le_of_eq g11.symm)
  have ne12 : b1 ≠ b11 := Nat.ne_of_lt (Nat.lt_of_lt_of_le f8.lt (Nat.le_of_eq g11.symm))
  have f13 := f8.ext E11
  have f14 := v7_0_0.ext E11
  have K15 : Keep h0 h11 [] := K10.ext E11
  have Z15 : n0 ≤ h11.size := Nat.le_trans Z10 E11.1
  have E_b11 := A11
  have F_state_b11 : Fld Z h11 b11 "com/example/hailwise/hailwise/SeededRandom" "state" "J" (.long (0 : Int64)) := D11 (Or.inl (hw _ (List.mem_of_getElem? (i := 11) rfl))) (ty := .long) (by decide)
  show Goes _ _ _ _ _ _ _ (T11.setTop (mkF m 22 #[.val (.long p0), .second, .val (.long p2), .second, .val (.ref b1), .val (.long (own_mix (0 : Int64))), .second, .unset, .unset, .unset, .unset, .unset, .unset, .unset, .unset, .unset, .unset, .unset, .unset, .unset, .unset, .unset, .unset, .unset] [(.ref b11)]))
  refine Goes.step (fun _ k => XS.dup X11.here hx rfl (hb hby at_22) rfl rfl k) ?_
  show Goes _ _ _ _ _ _ _ (T11.setTop (mkF m 23 #[.val (.long p0), .second, .val (.long p2), .second, .val (.ref b1), .val (.long (own_mix (0 : Int64))), .second, .unset, .unset, .unset, .unset, .unset, .unset, .unset, .unset, .unset, .unset, .unset, .unset, .unset, .unset, .unset, .unset, .unset] [(.ref b11), (.ref b11)]))
  refine Goes.step (fun _ k => X11.ldc2Long hx hown (mvT hZ (hw _ (List.mem_of_getElem? (i := 20) rfl))) (g := (mkF m 23 #[.val (.long p0), .second, .val (.long p2), .second, .val (.ref b1), .val (.long (own_mix (0 : Int64))), .second, .unset, .unset, .unset, .unset, .unset, .unset, .unset, .unset, .unset, .unset, .unset, .unset, .unset, .unset, .unset, .unset, .unset] [(.ref b11), (.ref b11)])) rfl (hb hby at_23) _ k) ?_
  show Goes _ _ _ _ _ _ _ (T11.setTop (mkF m 26 #[.val (.long p0), .second, .val (.long p2), .second, .val (.ref b1), .val (.long (own_mix (0 : Int64))), .second, .unset, .unset, .unset, .unset, .unset, .unset, .unset, .unset, .unset, .unset, .unset, .unset, .unset, .unset, .unset, .unset, .unset] [(.long (-2177342782468422677 : Int64)), (.ref b11), (.ref b11)]))
  obtain ⟨_, _, ⟨T16, L16, k16, n16⟩, -, X16, ⟨Lc16, hQ16, l16, y16, z16⟩, st16⟩ := X11.specialBack hx (y := (⟨"com/example/hailwise/hailwise/SeededRandom", "<init>", "(J)V"⟩ : MethodName)) rfl hown (mvT hZ (hw _ (List.mem_of_getElem? (i := 4) rfl))) (mvT hZ (hw _ (List.mem_of_getElem? (i := 5) rfl))) (mvT hZ (hw _ (List.mem_of_getElem? (i := 6) rfl))) (by decide) (backOf (W := 1) (rm1 l Z a0 hw [] b11 (-2177342782468422677 : Int64) (0 : Int64) h11 n0 Z15 F_state_b11 E_b11 g_b11) hZ (hw _ (List.mem_of_getElem? (i := 6) rfl)) (hw _ (List.mem_of_getElem? (i := 2) rfl)) (by decide) (by decide)) (g := (mkF m 26 #[.val (.long p0), .second, .val (.long p2), .second, .val (.ref b1), .val (.long (own_mix (0 : Int64))), .second, .unset, .unset, .unset, .unset, .unset, .unset, .unset, .unset, .unset, .unset, .unset, .unset, .unset, .unset, .unset, .unset, .unset] [(.long (-2177342782468422677 : Int64)), (.ref b11), (.ref b11)])) rfl (by rw [hml]; rfl) (Steps.refl _) (a := b11) (argsL := [(.long (-2177342782468422677 : Int64))]) (rest := [(.ref b11)]) (lenOf pd_0 rfl) rfl (by show 2 * 0 + _ ≤ _; exact Nat.le_of_eq rfl) (hb hby at_26) (fun _ _ => ⟨rfl, e11, (by decide : 2 + 0 ≤ _), (by decide : 2 + 0 ≤ _)⟩)
  dsimp only [Pt.U, Pt.locs, Pt.cells, Pt.slots] at X16 l16 y16 z16 st16 hQ16
  subst l16 y16 z16
  obtain ⟨N16, KK16, ex16_0, hR16⟩ := hQ16
  have NA16 := Fr.app NA7 N16
  have f17 := f13.keep KK16
  have f18 := f14.keep KK16 (ninS ne12 nin0)
  have f19 := E_b11.keep KK16
  have K21 : Keep h0 T16.heap [] := K15.trans KK16 (allS (Or.inr sz_b11) all0)
  have Z21 : n0 ≤ T16.heap.size := Nat.le_trans Z15 KK16.1
  obtain ⟨rfl, v16_0_0⟩ := hR16
  refine Goes.back st16 ?_
  show Goes _ _ _ _ _ _ _ (T16.setTop (mkF m 29 #[.val (.long p0), .second, .val (.long p2), .second, .val (.ref b1), .val (.long (own_mix (0 : Int64))), .second, .unset, .unset, .unset, .unset, .unset, .unset, .unset, .unset, .unset, .unset, .unset, .unset, .unset, .unset, .unset, .unset, .unset] [(.ref b11)]))
  refine Goes.step (fun _ k => XS.astore X16.here hx rfl (hb hby at_29) rfl rfl (l' := #[.val (.long p0), .second, .val (.long p2), .second, .val (.ref b1), .val (.long (own_mix (0 : Int64))), .second, .val (.ref b11), .unset, .unset, .unset, .unset, .unset, .unset, .unset, .unset, .unset, .unset, .unset, .unset, .unset, .unset, .unset, .unset]) rfl k) ?_
  show Goes _ _ _ _ _ _ _ (T16.setTop (mkF m 31 #[.val (.long p0), .second, .val (.long p2), .second, .val (.ref b1), .val (.long (own_mix (0 : Int64))), .second, .val (.ref b11), .unset, .unset, .unset, .unset, .unset, .unset, .unset, .unset, .unset, .unset, .unset, .unset, .unset, .unset, .unset, .unset] []))
  refine Goes.step (fun _ k => XS.aload X16.here hx rfl (hb hby at_31) rfl rfl k) ?_
  show Goes _ _ _ _ _ _ _ (T16.setTop (mkF m 33 #[.val (.long p0), .second, .val (.long p2), .second, .val (.ref b1), .val (.long (own_mix (0 : Int64))), .second, .val (.ref b11), .unset, .unset, .unset, .unset, .unset, .unset, .unset, .unset, .unset, .unset, .unset, .unset, .unset, .unset, .unset, .unset] [(.ref b11)]))
  obtain ⟨cq22, kq22, q22a, q22b, q22c⟩ := isOf hZ rfl f19
  obtain ⟨_, _, ⟨T22, L22, k22, n22⟩, -, X22, ⟨Lc22, hQ22, l22, y22, z22⟩, st22⟩ := X16.virtualBack hx (y := (⟨"com/example/hailwise/hailwise/SeededRandom", "nextLong", "()J"⟩ : MethodName)) (z := (⟨"com/example/hailwise/hailwise/SeededRandom", "nextLong", "()J"⟩ : MethodName)) hown (mvT hZ (hw _ (List.mem_of_getElem? (i := 12) rfl))) (mvT hZ (hw _ (List.mem_of_getElem? (i := 13) rfl))) (notFace_of_selects (args := #[]) (mvT hZ (hw _ (List.mem_of_getElem? (i := 15) rfl)))) (mvT hZ (hw _ (List.mem_of_getElem? (i := 15) rfl))) (mvT hZ (hw _ (List.mem_of_getElem? (i := 14) rfl))) (by decide) (backOf (W := 0) (rm3 l Z a0 hw [] b11 (-2177342782468422677 : Int64) T16.heap n0 Z21 v16_0_0 f19 g_b11) hZ (hw _ (List.mem_of_getElem? (i := 16) rfl)) (hw _ (List.mem_of_getElem? (i := 2) rfl)) (by decide) (by decide)) q22a q22c (g := (mkF m 33 #[.val (.long p0), .second, .val (.long p2), .second, .val (.ref b1), .val (.long (own_mix (0 : Int64))), .second, .val (.ref b11), .unset, .unset, .unset, .unset, .unset, .unset, .unset, .unset, .unset, .unset, .unset, .unset, .unset, .unset, .unset, .unset] [(.ref b11)])) rfl (by rw [hml]; rfl) (Steps.refl _) (argsL := []) (rest := []) (lenOf pd_2 rfl) rfl (by show 2 * 0 + _ ≤ _; exact Nat.le_of_eq rfl) (hb hby at_33) (fun _ _ => ⟨rfl, rfl, (by decide : 2 + 0 ≤ _), (by decide : 2 + 0 ≤ _)⟩)
  dsimp only [Pt.U, Pt.locs, Pt.cells, Pt.slots] at X22 l22 y22 z22 st22 hQ22
  subst l22 y22 z22
  obtain ⟨N22, KK22, ex22_0, hR22⟩ := hQ22
  have NA22 := Fr.app NA16 N22
  have f23 := f17.keep KK22
  have f24 := f18.keep KK22 (ninS ne12 nin0)
  have f25 := f19.keep KK22
  have K27 : Keep h0 T22.heap [] := K21.trans KK22 (allS (Or.inr sz_b11) all0)
  have Z27 : n0 ≤ T22.heap.size := Nat.le_trans Z21 KK22.1
  obtain ⟨rfl, v22_0_0⟩ := hR22
  refine Goes.back st22 ?_
  show Goes _ _ _ _ _ _ _ (T22.setTop (mkF m 36 #[.val (.long p0), .second, .val (.long p2), .second, .val (.ref b1), .val (.long (own_mix (0 : Int64))), .second, .val (.ref b11), .unset, .unset, .unset, .unset, .unset, .unset, .unset, .unset, .unset, .unset, .unset, .unset, .unset, .unset, .unset, .unset] [(.long (own_mix (-9223372036854775808 : Int64)))]))
  refine Goes.step (fun _ k => XS.lstore X22.here hx rfl (hb hby at_36) rfl (l' := #[.val (.long p0), .second, .val (.long p2), .second, .val (.ref b1), .val (.long (own_mix (0 : Int64))), .second, .val (.ref b11), .val (.long (own_mix (-9223372036854775808 : Int64))), .second, .unset, .unset, .unset, .unset, .unset, .unset, .unset, .unset, .unset, .unset, .unset, .unset, .unset, .unset]) rfl k) ?_
  show Goes _ _ _ _ _ _ _ (T22.setTop (mkF m 38 #[.val (.long p0), .second, .val (.long p2), .second, .val (.ref b1), .val (.long (own_mix (0 : Int64))), .second, .val (.ref b11), .val (.long (own_mix (-9223372036854775808 : Int64))), .second, .unset, .unset, .unset, .unset, .unset, .unset, .unset, .unset, .unset, .unset, .unset, .unset, .unset, .unset] []))
  obtain ⟨T28, h28, X28, e28, E28, A28, D28, -, st28⟩ := newO X22 hx hZ hown (hw _ (List.mem_of_getElem? (i := 0) rfl)) (hw _ (List.mem_of_getElem? (i := 1) rfl)) (hw _ (List.mem_of_getElem? (i := 2) rfl)) rfl (g := (mkF m 38 #[.val (.long p0), .second, .val (.long p2), .second, .val (.ref b1), .val (.long (own_mix (0 : Int64))), .second, .val (.ref b11), .val (.long (own_mix (-9223372036854775808 : Int64))), .second, .unset, .unset, .unset, .unset, .unset, .unset, .unset, .unset, .unset, .unset, .unset, .unset, .unset, .unset] [])) rfl (hb hby at_38) (by decide) (by decide)
  obtain ⟨b28, g28⟩ : ∃ z, z = T22.heap.size := ⟨_, rfl⟩
  rw [← g28] at A28 D28 st28
  refine Goes.step st28 ?_
  have g_b28 : n0 ≤ b28 := Nat.le_trans Z27 (Nat.le_of_eq g28.symm)
  have sz_b28 : h0.size ≤ b28 := Nat.le_trans K27.1 (Nat.le_of_eq g28.symm)
  have ne29 : b1 ≠ b28 := Nat.ne_of_lt (Nat.lt_of_lt_of_le f23.lt (Nat.le_of_eq g28.symm))
  have ne30 : b11 ≠ b28 := Nat.ne_of_lt (Nat.lt_of_lt_of_le f25.lt (Nat.le_of_eq g28.symm))
  have f31 := f23.ext E28
  have f32 := f24.ext E28
  have f33 := f25.ext E28
  have f34 := v22_0_0.ext E28
  have K35 : Keep h0 h28 [] := K27.ext E28
  have Z35 : n0 ≤ h28.size := Nat.le_trans Z27 E28.1
  have E_b28 := A28
  have F_state_b28 : Fld Z h28 b28 "com/example/hailwise/hailwise/SeededRandom" "state" "J" (.long (0 : Int64)) := D28 (Or.inl (hw _ (List.mem_of_getElem? (i := 11) rfl))) (ty := .long) (by decide)
  show Goes _ _ _ _ _ _ _ (T28.setTop (mkF m 41 #[.val (.long p0), .second, .val (.long p2), .second, .val (.ref b1), .val (.long (own_mix (0 : Int64))), .second, .val (.ref b11), .val (.long (own_mix (-9223372036854775808 : Int64))), .second, .unset, .unset, .unset, .unset, .unset, .unset, .unset, .unset, .unset, .unset, .unset, .unset, .unset, .unset] [(.ref b28)]))
  refine Goes.step (fun _ k => XS.dup X28.here hx rfl (hb hby at_41) rfl rfl k) ?_
  show Goes _ _ _ _ _ _ _ (T28.setTop (mkF m 42 #[.val (.long p0), .second, .val (.long p2), .second, .val (.ref b1), .val (.long (own_mix (0 : Int64))), .second, .val (.ref b11), .val (.long (own_mix (-9223372036854775808 : Int64))), .second, .unset, .unset, .unset, .unset, .unset, .unset, .unset, .unset, .unset, .unset, .unset, .unset, .unset, .unset] [(.ref b28), (.ref b28)]))
  refine Goes.step (fun _ k => XS.lloadN X28.here hx rfl (hb hby at_42) rfl  k) ?_
  show Goes _ _ _ _ _ _ _ (T28.setTop (mkF m 43 #[.val (.long p0), .second, .val (.long p2), .second, .val (.ref b1), .val (.long (own_mix (0 : Int64))), .second, .val (.ref b11), .val (.long (own_mix (-9223372036854775808 : Int64))), .second, .unset, .unset, .unset, .unset, .unset, .unset, .unset, .unset, .unset, .unset, .unset, .unset, .unset, .unset] [(.long p0), (.ref b28), (.ref b28)]))
  obtain ⟨_, _, ⟨T36, L36, k36, n36⟩, -, X36, ⟨Lc36, hQ36, l36, y36, z36⟩, st36⟩ := X28.specialBack hx (y := (⟨"com/example/hailwise/hailwise/SeededRandom", "<init>", "(J)V"⟩ : MethodName)) rfl hown (mvT hZ (hw _ (List.mem_of_getElem? (i := 4) rfl))) (mvT hZ (hw _ (List.mem_of_getElem? (i := 5) rfl))) (mvT hZ (hw _ (List.mem_of_getElem? (i := 6) rfl))) (by decide) (backOf (W := 1) (rm1 l Z a0 hw [] b28 p0 (0 : Int64) h28 n0 Z35 F_state_b28 E_b28 g_b28) hZ (hw _ (List.mem_of_getElem? (i := 6) rfl)) (hw _ (List.mem_of_getElem? (i := 2) rfl)) (by decide) (by decide)) (g := (mkF m 43 #[.val (.long p0), .second, .val (.long p2), .second, .val (.ref b1), .val (.long (own_mix (0 : Int64))), .second, .val (.ref b11), .val (.long (own_mix (-9223372036854775808 : Int64))), .second, .unset, .unset, .unset, .unset, .unset, .unset, .unset, .unset, .unset, .unset, .unset, .unset, .unset, .unset] [(.long p0), (.ref b28), (.ref b28)])) rfl (by rw [hml]; rfl) (Steps.refl _) (a := b28) (argsL := [(.long p0)]) (rest := [(.ref b28)]) (lenOf pd_0 rfl) rfl (by show 2 * 0 + _ ≤ _; exact Nat.le_of_eq rfl) (hb hby at_43) (fun _ _ => ⟨rfl, e28, (by decide : 3 + 0 ≤ _), (by decide : 3 + 0 ≤ _)⟩)
  dsimp only [Pt.U, Pt.locs, Pt.cells, Pt.slots] at X36 l36 y36 z36 st36 hQ36
  subst l36 y36 z36
  obtain ⟨N36, KK36, ex36_0, hR36⟩ := hQ36
  have NA36 := Fr.app NA22 N36
  have f37 := f31.keep KK36
  have f38 := f32.keep KK36 (ninS ne29 nin0)
  have f39 := f33.keep KK36
  have f40 := f34.keep KK36 (ninS ne30 nin0)
  have f41 := E_b28.keep KK36
  have K43 : Keep h0 T36.heap [] := K35.trans KK36 (allS (Or.inr sz_b28) all0)
  have Z43 : n0 ≤ T36.heap.size := Nat.le_trans Z35 KK36.1
  obtain ⟨rfl, v36_0_0⟩ := hR36
  refine Goes.back st36 ?_
  show Goes _ _ _ _ _ _ _ (T36.setTop (mkF m 46 #[.val (.long p0), .second, .val (.long p2), .second, .val (.ref b1), .val (.long (own_mix (0 : Int64))), .second, .val (.ref b11), .val (.long (own_mix (-9223372036854775808 : Int64))), .second, .unset, .unset, .unset, .unset, .unset, .unset, .unset, .unset, .unset, .unset, .unset, .unset, .unset, .unset] [(.ref b28)]))
  refine Goes.step (fun _ k => XS.astore X36.here hx rfl (hb hby at_46) rfl rfl (l' := #[.val (.long p0), .second, .val (.long p2), .second, .val (.ref b1), .val (.long (own_mix (0 : Int64))), .second, .val (.ref b11), .val (.long (own_mix (-9223372036854775808 : Int64))), .second, .val (.ref b28), .unset, .unset, .unset, .unset, .unset, .unset, .unset, .unset, .unset, .unset, .unset, .unset, .unset]) rfl k) ?_
  show Goes _ _ _ _ _ _ _ (T36.setTop (mkF m 48 #[.val (.long p0), .second, .val (.long p2), .second, .val (.ref b1), .val (.long (own_mix (0 : Int64))), .second, .val (.ref b11), .val (.long (own_mix (-9223372036854775808 : Int64))), .second, .val (.ref b28), .unset, .unset, .unset, .unset, .unset, .unset, .unset, .unset, .unset, .unset, .unset, .unset, .unset] []))
  refine Goes.step (fun _ k => XS.aload X36.here hx rfl (hb hby at_48) rfl rfl k) ?_
  show Goes _ _ _ _ _ _ _ (T36.setTop (mkF m 50 #[.val (.long p0), .second, .val (.long p2), .second, .val (.ref b1), .val (.long (own_mix (0 : Int64))), .second, .val (.ref b11), .val (.long (own_mix (-9223372036854775808 : Int64))), .second, .val (.ref b28), .unset, .unset, .unset, .unset, .unset, .unset, .unset, .unset, .unset, .unset, .unset, .unset, .unset] [(.ref b28)]))
  obtain ⟨cq44, kq44, q44a, q44b, q44c⟩ := isOf hZ rfl f41
  obtain ⟨_, _, ⟨T44, L44, k44, n44⟩, -, X44, ⟨Lc44, hQ44, l44, y44, z44⟩, st44⟩ := X36.virtualBack hx (y := (⟨"com/example/hailwise/hailwise/SeededRandom", "nextLong", "()J"⟩ : MethodName)) (z := (⟨"com/example/hailwise/hailwise/SeededRandom", "nextLong", "()J"⟩ : MethodName)) hown (mvT hZ (hw _ (List.mem_of_getElem? (i := 12) rfl))) (mvT hZ (hw _ (List.mem_of_getElem? (i := 13) rfl))) (notFace_of_selects (args := #[]) (mvT hZ (hw _ (List.mem_of_getElem? (i := 15) rfl)))) (mvT hZ (hw _ (List.mem_of_getElem? (i := 15) rfl))) (mvT hZ (hw _ (List.mem_of_getElem? (i := 14) rfl))) (by decide) (backOf (W := 0) (rm3 l Z a0 hw [] b28 p0 T36.heap n0 Z43 v36_0_0 f41 g_b28) hZ (hw _ (List.mem_of_getElem? (i := 16) rfl)) (hw _ (List.mem_of_getElem? (i := 2) rfl)) (by decide) (by decide)) q44a q44c (g := (mkF m 50 #[.val (.long p0), .second, .val (.long p2), .second, .val (.ref b1), .val (.long (own_mix (0 : Int64))), .second, .val (.ref b11), .val (.long (own_mix (-9223372036854775808 : Int64))), .second, .val (.ref b28), .unset, .unset, .unset, .unset, .unset, .unset, .unset, .unset, .unset, .unset, .unset, .unset, .unset] [(.ref b28)])) rfl (by rw [hml]; rfl) (Steps.refl _) (argsL := []) (rest := []) (lenOf pd_2 rfl) rfl (by show 2 * 0 + _ ≤ _; exact Nat.le_of_eq rfl) (hb hby at_50) (fun _ _ => ⟨rfl, rfl, (by decide : 3 + 0 ≤ _), (by decide : 3 + 0 ≤ _)⟩)
  dsimp only [Pt.U, Pt.locs, Pt.cells, Pt.slots] at X44 l44 y44 z44 st44 hQ44
  subst l44 y44 z44
  obtain ⟨N44, KK44, ex44_0, hR44⟩ := hQ44
  have NA44 := Fr.app NA36 N44
  have f45 := f37.keep KK44
  have f46 := f38.keep KK44 (ninS ne29 nin0)
  have f47 := f39.keep KK44
  have f48 := f40.keep KK44 (ninS ne30 nin0)
  have f49 := f41.keep KK44
  have K51 : Keep h0 T44.heap [] := K43.trans KK44 (allS (Or.inr sz_b28) all0)
  have Z51 : n0 ≤ T44.heap.size := Nat.le_trans Z43 KK44.1
  obtain ⟨rfl, v44_0_0⟩ := hR44
  refine Goes.back st44 ?_
  show Goes _ _ _ _ _ _ _ (T44.setTop (mkF m 53 #[.val (.long p0), .second, .val (.long p2), .second, .val (.ref b1), .val (.long (own_mix (0 : Int64))), .second, .val (.ref b11), .val (.long (own_mix (-9223372036854775808 : Int64))), .second, .val (.ref b28), .unset, .unset, .unset, .unset, .unset, .unset, .unset, .unset, .unset, .unset, .unset, .unset, .unset] [(.long (own_mix (p0 + (-7046029254386353131 : Int64))))]))
  refine Goes.step (fun _ k => XS.lstore X44.here hx rfl (hb hby at_53) rfl (l' := #[.val (.long p0), .second, .val (.long p2), .second, .val (.ref b1), .val (.long (own_mix (0 : Int64))), .second, .val (.ref b11), .val (.long (own_mix (-9223372036854775808 : Int64))), .second, .val (.ref b28), .val (.long (own_mix (p0 + (-7046029254386353131 : Int64)))), .second, .unset, .unset, .unset, .unset, .unset, .unset, .unset, .unset, .unset, .unset, .unset]) rfl k) ?_
  show Goes _ _ _ _ _ _ _ (T44.setTop (mkF m 55 #[.val (.long p0), .second, .val (.long p2), .second, .val (.ref b1), .val (.long (own_mix (0 : Int64))), .second, .val (.ref b11), .val (.long (own_mix (-9223372036854775808 : Int64))), .second, .val (.ref b28), .val (.long (own_mix (p0 + (-7046029254386353131 : Int64)))), .second, .unset, .unset, .unset, .unset, .unset, .unset, .unset, .unset, .unset, .unset, .unset] []))
  refine Goes.step (fun _ k => XS.aload X44.here hx rfl (hb hby at_55) rfl rfl k) ?_
  show Goes _ _ _ _ _ _ _ (T44.setTop (mkF m 57 #[.val (.long p0), .second, .val (.long p2), .second, .val (.ref b1), .val (.long (own_mix (0 : Int64))), .second, .val (.ref b11), .val (.long (own_mix (-9223372036854775808 : Int64))), .second, .val (.ref b28), .val (.long (own_mix (p0 + (-7046029254386353131 : Int64)))), .second, .unset, .unset, .unset, .unset, .unset, .unset, .unset, .unset, .unset, .unset, .unset] [(.ref b28)]))
  obtain ⟨cq52, kq52, q52a, q52b, q52c⟩ := isOf hZ rfl f49
  obtain ⟨_, _, ⟨T52, L52, k52, n52⟩, -, X52, ⟨Lc52, hQ52, l52, y52, z52⟩, st52⟩ := X44.virtualBack hx (y := (⟨"com/example/hailwise/hailwise/SeededRandom", "nextLong", "()J"⟩ : MethodName)) (z := (⟨"com/example/hailwise/hailwise/SeededRandom", "nextLong", "()J"⟩ : MethodName)) hown (mvT hZ (hw _ (List.mem_of_getElem? (i := 12) rfl))) (mvT hZ (hw _ (List.mem_of_getElem? (i := 13) rfl))) (notFace_of_selects (args := #[]) (mvT hZ (hw _ (List.mem_of_getElem? (i := 15) rfl)))) (mvT hZ (hw _ (List.mem_of_getElem? (i := 15) rfl))) (mvT hZ (hw _ (List.mem_of_getElem? (i := 14) rfl))) (by decide) (backOf (W := 0) (rm3 l Z a0 hw [] b28 (p0 + (-7046029254386353131 : Int64)) T44.heap n0 Z51 v44_0_0 f49 g_b28) hZ (hw _ (List.mem_of_getElem? (i := 16) rfl)) (hw _ (List.mem_of_getElem? (i := 2) rfl)) (by decide) (by decide)) q52a q52c (g := (mkF m 57 #[.val (.long p0), .second, .val (.long p2), .second, .val (.ref b1), .val (.long (own_mix (0 : Int64))), .second, .val (.ref b11), .val (.long (own_mix (-9223372036854775808 : Int64))), .second, .val (.ref b28), .val (.long (own_mix (p0 + (-7046029254386353131 : Int64)))), .second, .unset, .unset, .unset, .unset, .unset, .unset, .unset, .unset, .unset, .unset, .unset] [(.ref b28)])) rfl (by rw [hml]; rfl) (Steps.refl _) (argsL := []) (rest := []) (lenOf pd_2 rfl) rfl (by show 2 * 0 + _ ≤ _; exact Nat.le_of_eq rfl) (hb hby at_57) (fun _ _ => ⟨rfl, rfl, (by decide : 3 + 0 ≤ _), (by decide : 3 + 0 ≤ _)⟩)
  dsimp only [Pt.U, Pt.locs, Pt.cells, Pt.slots] at X52 l52 y52 z52 st52 hQ52
  subst l52 y52 z52
  obtain ⟨N52, KK52, ex52_0, hR52⟩ := hQ52
  have NA52 := Fr.app NA44 N52
  have f53 := f45.keep KK52
  have f54 := f46.keep KK52 (ninS ne29 nin0)
  have f55 := f47.keep KK52
  have f56 := f48.keep KK52 (ninS ne30 nin0)
  have f57 := f49.keep KK52
  have K59 : Keep h0 T52.heap [] := K51.trans KK52 (allS (Or.inr sz_b28) all0)
  have Z59 : n0 ≤ T52.heap.size := Nat.le_trans Z51 KK52.1
  obtain ⟨rfl, v52_0_0⟩ := hR52
  refine Goes.back st52 ?_
  show Goes _ _ _ _ _ _ _ (T52.setTop (mkF m 60 #[.val (.long p0), .second, .val (.long p2), .second, .val (.ref b1), .val (.long (own_mix (0 : Int64))), .second, .val (.ref b11), .val (.long (own_mix (-9223372036854775808 : Int64))), .second, .val (.ref b28), .val (.long (own_mix (p0 + (-7046029254386353131 : Int64)))), .second, .unset, .unset, .unset, .unset, .unset, .unset, .unset, .unset, .unset, .unset, .unset] [(.long (own_mix ((p0 + (-7046029254386353131 : Int64)) + (-7046029254386353131 : Int64))))]))
  refine Goes.step (fun _ k => XS.lstore X52.here hx rfl (hb hby at_60) rfl (l' := #[.val (.long p0), .second, .val (.long p2), .second, .val (.ref b1), .val (.long (own_mix (0 : Int64))), .second, .val (.ref b11), .val (.long (own_mix (-9223372036854775808 : Int64))), .second, .val (.ref b28), .val (.long (own_mix (p0 + (-7046029254386353131 : Int64)))), .second, .val (.long (own_mix ((p0 + (-7046029254386353131 : Int64)) + (-7046029254386353131 : Int64)))), .second, .unset, .unset, .unset, .unset, .unset, .unset, .unset, .unset, .unset]) rfl k) ?_
  show Goes _ _ _ _ _ _ _ (T52.setTop (mkF m 62 #[.val (.long p0), .second, .val (.long p2), .second, .val (.ref b1), .val (.long (own_mix (0 : Int64))), .second, .val (.ref b11), .val (.long (own_mix (-9223372036854775808 : Int64))), .second, .val (.ref b28), .val (.long (own_mix (p0 + (-7046029254386353131 : Int64)))), .second, .val (.long (own_mix ((p0 + (-7046029254386353131 : Int64)) + (-7046029254386353131 : Int64)))), .second, .unset, .unset, .unset, .unset, .unset, .unset, .unset, .unset, .unset] []))
  obtain ⟨T60, h60, X60, e60, E60, A60, D60, -, st60⟩ := newO X52 hx hZ hown (hw _ (List.mem_of_getElem? (i := 0) rfl)) (hw _ (List.mem_of_getElem? (i := 1) rfl)) (hw _ (List.mem_of_getElem? (i := 2) rfl)) rfl (g := (mkF m 62 #[.val (.long p0), .second, .val (.long p2), .second, .val (.ref b1), .val (.long (own_mix (0 : Int64))), .second, .val (.ref b11), .val (.long (own_mix (-9223372036854775808 : Int64))), .second, .val (.ref b28), .val (.long (own_mix (p0 + (-7046029254386353131 : Int64)))), .second, .val (.long (own_mix ((p0 + (-7046029254386353131 : Int64)) + (-7046029254386353131 : Int64)))), .second, .unset, .unset, .unset, .unset, .unset, .unset, .unset, .unset, .unset] [])) rfl (hb hby at_62) (by decide) (by decide)
  obtain ⟨b60, g60⟩ : ∃ z, z = T52.heap.size := ⟨_, rfl⟩
  rw [← g60] at A60 D60 st60
  refine Goes.step st60 ?_
  have g_b60 : n0 ≤ b60 := Nat.le_trans Z59 (Nat.le_of_eq g60.symm)
  have sz_b60 : h0.size ≤ b60 := Nat.le_trans K59.1 (Nat.le_of_eq g60.symm)
  have ne61 : b1 ≠ b60 := Nat.ne_of_lt (Nat.lt_of_lt_of_le f53.lt (Nat.le_of_eq g60.symm))
  have ne62 : b11 ≠ b60 := Nat.ne_of_lt (Nat.lt_of_lt_of_le f55.lt (Nat.le_of_eq g60.symm))
  have ne63 : b28 ≠ b60 := Nat.ne_of_lt (Nat.lt_of_lt_of_le f57.lt (Nat.le_of_eq g60.symm))
  have f64 := f53.ext E60
  have f65 := f54.ext E60
  have f66 := f55.ext E60
  have f67 := f56.ext E60
  have f68 := f57.ext E60
  have f69 := v52_0_0.ext E60
  have K70 : Keep h0 h60 [] := K59.ext E60
  have Z70 : n0 ≤ h60.size := Nat.le_trans Z59 E60.1
  have E_b60 := A60
  have F_state_b60 : Fld Z h60 b60 "com/example/hailwise/hailwise/SeededRandom" "state" "J" (.long (0 : Int64)) := D60 (Or.inl (hw _ (List.mem_of_getElem? (i := 11) rfl))) (ty := .long) (by decide)
  show Goes _ _ _ _ _ _ _ (T60.setTop (mkF m 65 #[.val (.long p0), .second, .val (.long p2), .second, .val (.ref b1), .val (.long (own_mix (0 : Int64))), .second, .val (.ref b11), .val (.long (own_mix (-9223372036854775808 : Int64))), .second, .val (.ref b28), .val (.long (own_mix (p0 + (-7046029254386353131 : Int64)))), .second, .val (.long (own_mix ((p0 + (-7046029254386353131 : Int64)) + (-7046029254386353131 : Int64)))), .second, .unset, .unset, .unset, .unset, .unset, .unset, .unset, .unset, .unset] [(.ref b60)]))
  refine Goes.step (fun _ k => XS.dup X60.here hx rfl (hb hby at_65) rfl rfl k) ?_
  show Goes _ _ _ _ _ _ _ (T60.setTop (mkF m 66 #[.val (.long p0), .second, .val (.long p2), .second, .val (.ref b1), .val (.long (own_mix (0 : Int64))), .second, .val (.ref b11), .val (.long (own_mix (-9223372036854775808 : Int64))), .second, .val (.ref b28), .val (.long (own_mix (p0 + (-7046029254386353131 : Int64)))), .second, .val (.long (own_mix ((p0 + (-7046029254386353131 : Int64)) + (-7046029254386353131 : Int64)))), .second, .unset, .unset, .unset, .unset, .unset, .unset, .unset, .unset, .unset] [(.ref b60), (.ref b60)]))
  refine Goes.step (fun _ k => XS.lloadN X60.here hx rfl (hb hby at_66) rfl  k) ?_
  show Goes _ _ _ _ _ _ _ (T60.setTop (mkF m 67 #[.val (.long p0), .second, .val (.long p2), .second, .val (.ref b1), .val (.long (own_mix (0 : Int64))), .second, .val (.ref b11), .val (.long (own_mix (-9223372036854775808 : Int64))), .second, .val (.ref b28), .val (.long (own_mix (p0 + (-7046029254386353131 : Int64)))), .second, .val (.long (own_mix ((p0 + (-7046029254386353131 : Int64)) + (-7046029254386353131 : Int64)))), .second, .unset, .unset, .unset, .unset, .unset, .unset, .unset, .unset, .unset] [(.long p0), (.ref b60), (.ref b60)]))
  refine Goes.step (fun _ k => X60.ldc2Long hx hown (mvT hZ (hw _ (List.mem_of_getElem? (i := 21) rfl))) (g := (mkF m 67 #[.val (.long p0), .second, .val (.long p2), .second, .val (.ref b1), .val (.long (own_mix (0 : Int64))), .second, .val (.ref b11), .val (.long (own_mix (-9223372036854775808 : Int64))), .second, .val (.ref b28), .val (.long (own_mix (p0 + (-7046029254386353131 : Int64)))), .second, .val (.long (own_mix ((p0 + (-7046029254386353131 : Int64)) + (-7046029254386353131 : Int64)))), .second, .unset, .unset, .unset, .unset, .unset, .unset, .unset, .unset, .unset] [(.long p0), (.ref b60), (.ref b60)])) rfl (hb hby at_67) _ k) ?_
  show Goes _ _ _ _ _ _ _ (T60.setTop (mkF m 70 #[.val (.long p0), .second, .val (.long p2), .second, .val (.ref b1), .val (.long (own_mix (0 : Int64))), .second, .val (.ref b11), .val (.long (own_mix (-9223372036854775808 : Int64))), .second, .val (.ref b28), .val (.long (own_mix (p0 + (-7046029254386353131 : Int64)))), .second, .val (.long (own_mix ((p0 + (-7046029254386353131 : Int64)) + (-7046029254386353131 : Int64)))), .second, .unset, .unset, .unset, .unset, .unset, .unset, .unset, .unset, .unset] [(.long (-7046029254386353131 : Int64)), (.long p0), (.ref b60), (.ref b60)]))
  refine Goes.step (fun _ k => XS.ladd X60.here hx rfl (hb hby at_70) rfl k) ?_
  show Goes _ _ _ _ _ _ _ (T60.setTop (mkF m 71 #[.val (.long p0), .second, .val (.long p2), .second, .val (.ref b1), .val (.long (own_mix (0 : Int64))), .second, .val (.ref b11), .val (.long (own_mix (-9223372036854775808 : Int64))), .second, .val (.ref b28), .val (.long (own_mix (p0 + (-7046029254386353131 : Int64)))), .second, .val (.long (own_mix ((p0 + (-7046029254386353131 : Int64)) + (-7046029254386353131 : Int64)))), .second, .unset, .unset, .unset, .unset, .unset, .unset, .unset, .unset, .unset] [(.long (p0 + (-7046029254386353131 : Int64))), (.ref b60), (.ref b60)]))
  obtain ⟨_, _, ⟨T71, L71, k71, n71⟩, -, X71, ⟨Lc71, hQ71, l71, y71, z71⟩, st71⟩ := X60.specialBack hx (y := (⟨"com/example/hailwise/hailwise/SeededRandom", "<init>", "(J)V"⟩ : MethodName)) rfl hown (mvT hZ (hw _ (List.mem_of_getElem? (i := 4) rfl))) (mvT hZ (hw _ (List.mem_of_getElem? (i := 5) rfl))) (mvT hZ (hw _ (List.mem_of_getElem? (i := 6) rfl))) (by decide) (backOf (W := 1) (rm1 l Z a0 hw [] b60 (p0 + (-7046029254386353131 : Int64)) (0 : Int64) h60 n0 Z70 F_state_b60 E_b60 g_b60) hZ (hw _ (List.mem_of_getElem? (i := 6) rfl)) (hw _ (List.mem_of_getElem? (i := 2) rfl)) (by decide) (by decide)) (g := (mkF m 71 #[.val (.long p0), .second, .val (.long p2), .second, .val (.ref b1), .val (.long (own_mix (0 : Int64))), .second, .val (.ref b11), .val (.long (own_mix (-9223372036854775808 : Int64))), .second, .val (.ref b28), .val (.long (own_mix (p0 + (-7046029254386353131 : Int64)))), .second, .val (.long (own_mix ((p0 + (-7046029254386353131 : Int64)) + (-7046029254386353131 : Int64)))), .second, .unset, .unset, .unset, .unset, .unset, .unset, .unset, .unset, .unset] [(.long (p0 + (-7046029254386353131 : Int64))), (.ref b60), (.ref b60)])) rfl (by rw [hml]; rfl) (Steps.refl _) (a := b60) (argsL := [(.long (p0 + (-7046029254386353131 : Int64)))]) (rest := [(.ref b60)]) (lenOf pd_0 rfl) rfl (by show 2 * 0 + _ ≤ _; exact Nat.le_of_eq rfl) (hb hby at_71) (fun _ _ => ⟨rfl, e60, (by decide : 4 + 0 ≤ _), (by decide : 4 + 0 ≤ _)⟩)
  dsimp only [Pt.U, Pt.locs, Pt.cells, Pt.slots] at X71 l71 y71 z71 st71 hQ71
  subst l71 y71 z71
  obtain ⟨N71, KK71, ex71_0, hR71⟩ := hQ71
  have NA71 := Fr.app NA52 N71
  have f72 := f64.keep KK71
  have f73 := f65.keep KK71 (ninS ne61 nin0)
  have f74 := f66.keep KK71
  have f75 := f67.keep KK71 (ninS ne62 nin0)
  have f76 := f68.keep KK71
  have f77 := f69.keep KK71 (ninS ne63 nin0)
  have f78 := E_b60.keep KK71
  have K80 : Keep h0 T71.heap [] := K70.trans KK71 (allS (Or.inr sz_b60) all0)
  have Z80 : n0 ≤ T71.heap.size := Nat.le_trans Z70 KK71.1
  obtain ⟨rfl, v71_0_0⟩ := hR71
  refine Goes.back st71 ?_
  show Goes _ _ _ _ _ _ _ (T71.setTop (mkF m 74 #[.val (.long p0), .second, .val (.long p2), .second, .val (.ref b1), .val (.long (own_mix (0 : Int64))), .second, .val (.ref b11), .val (.long (own_mix (-9223372036854775808 : Int64))), .second, .val (.ref b28), .val (.long (own_mix (p0 + (-7046029254386353131 : Int64)))), .second, .val (.long (own_mix ((p0 + (-7046029254386353131 : Int64)) + (-7046029254386353131 : Int64)))), .second, .unset, .unset, .unset, .unset, .unset, .unset, .unset, .unset, .unset] [(.ref b60)]))
  refine Goes.step (fun _ k => XS.astore X71.here hx rfl (hb hby at_74) rfl rfl (l' := #[.val (.long p0), .second, .val (.long p2), .second, .val (.ref b1), .val (.long (own_mix (0 : Int64))), .second, .val (.ref b11), .val (.long (own_mix (-9223372036854775808 : Int64))), .second, .val (.ref b28), .val (.long (own_mix (p0 + (-7046029254386353131 : Int64)))), .second, .val (.long (own_mix ((p0 + (-7046029254386353131 : Int64)) + (-7046029254386353131 : Int64)))), .second, .val (.ref b60), .unset, .unset, .unset, .unset, .unset, .unset, .unset, .unset]) rfl k) ?_
  show Goes _ _ _ _ _ _ _ (T71.setTop (mkF m 76 #[.val (.long p0), .second, .val (.long p2), .second, .val (.ref b1), .val (.long (own_mix (0 : Int64))), .second, .val (.ref b11), .val (.long (own_mix (-9223372036854775808 : Int64))), .second, .val (.ref b28), .val (.long (own_mix (p0 + (-7046029254386353131 : Int64)))), .second, .val (.long (own_mix ((p0 + (-7046029254386353131 : Int64)) + (-7046029254386353131 : Int64)))), .second, .val (.ref b60), .unset, .unset, .unset, .unset, .unset, .unset, .unset, .unset] []))
  refine Goes.step (fun _ k => XS.aload X71.here hx rfl (hb hby at_76) rfl rfl k) ?_
  show Goes _ _ _ _ _ _ _ (T71.setTop (mkF m 78 #[.val (.long p0), .second, .val (.long p2), .second, .val (.ref b1), .val (.long (own_mix (0 : Int64))), .second, .val (.ref b11), .val (.long (own_mix (-9223372036854775808 : Int64))), .second, .val (.ref b28), .val (.long (own_mix (p0 + (-7046029254386353131 : Int64)))), .second, .val (.long (own_mix ((p0 + (-7046029254386353131 : Int64)) + (-7046029254386353131 : Int64)))), .second, .val (.ref b60), .unset, .unset, .unset, .unset, .unset, .unset, .unset, .unset] [(.ref b60)]))
  obtain ⟨cq81, kq81, q81a, q81b, q81c⟩ := isOf hZ rfl f78
  obtain ⟨_, _, ⟨T81, L81, k81, n81⟩, -, X81, ⟨Lc81, hQ81, l81, y81, z81⟩, st81⟩ := X71.virtualBack hx (y := (⟨"com/example/hailwise/hailwise/SeededRandom", "nextLong", "()J"⟩ : MethodName)) (z := (⟨"com/example/hailwise/hailwise/SeededRandom", "nextLong", "()J"⟩ : MethodName)) hown (mvT hZ (hw _ (List.mem_of_getElem? (i := 12) rfl))) (mvT hZ (hw _ (List.mem_of_getElem? (i := 13) rfl))) (notFace_of_selects (args := #[]) (mvT hZ (hw _ (List.mem_of_getElem? (i := 15) rfl)))) (mvT hZ (hw _ (List.mem_of_getElem? (i := 15) rfl))) (mvT hZ (hw _ (List.mem_of_getElem? (i := 14) rfl))) (by decide) (backOf (W := 0) (rm3 l Z a0 hw [] b60 (p0 + (-7046029254386353131 : Int64)) T71.heap n0 Z80 v71_0_0 f78 g_b60) hZ (hw _ (List.mem_of_getElem? (i := 16) rfl)) (hw _ (List.mem_of_getElem? (i := 2) rfl)) (by decide) (by decide)) q81a q81c (g := (mkF m 78 #[.val (.long p0), .second, .val (.long p2), .second, .val (.ref b1), .val (.long (own_mix (0 : Int64))), .second, .val (.ref b11), .val (.long (own_mix (-9223372036854775808 : Int64))), .second, .val (.ref b28), .val (.long (own_mix (p0 + (-7046029254386353131 : Int64)))), .second, .val (.long (own_mix ((p0 + (-7046029254386353131 : Int64)) + (-7046029254386353131 : Int64)))), .second, .val (.ref b60), .unset, .unset, .unset, .unset, .unset, .unset, .unset, .unset] [(.ref b60)])) rfl (by rw [hml]; rfl) (Steps.refl _) (argsL := []) (rest := []) (lenOf pd_2 rfl) rfl (by show 2 * 0 + _ ≤ _; exact Nat.le_of_eq rfl) (hb hby at_78) (fun _ _ => ⟨rfl, rfl, (by decide : 4 + 0 ≤ _), (by decide : 4 + 0 ≤ _)⟩)
  dsimp only [Pt.U, Pt.locs, Pt.cells, Pt.slots] at X81 l81 y81 z81 st81 hQ81
  subst l81 y81 z81
  obtain ⟨N81, KK81, ex81_0, hR81⟩ := hQ81
  have NA81 := Fr.app NA71 N81
  have f82 := f72.keep KK81
  have f83 := f73.keep KK81 (ninS ne61 nin0)
  have f84 := f74.keep KK81
  have f85 := f75.keep KK81 (ninS ne62 nin0)
  have f86 := f76.keep KK81
  have f87 := f77.keep KK81 (ninS ne63 nin0)
  have f88 := f78.keep KK81
  have K90 : Keep h0 T81.heap [] := K80.trans KK81 (allS (Or.inr sz_b60) all0)
  have Z90 : n0 ≤ T81.heap.size := Nat.le_trans Z80 KK81.1
  obtain ⟨rfl, v81_0_0⟩ := hR81
  refine Goes.back st81 ?_
  show Goes _ _ _ _ _ _ _ (T81.setTop (mkF m 81 #[.val (.long p0), .second, .val (.long p2), .second, .val (.ref b1), .val (.long (own_mix (0 : Int64))), .second, .val (.ref b11), .val (.long (own_mix (-9223372036854775808 : Int64))), .second, .val (.ref b28), .val (.long (own_mix (p0 + (-7046029254386353131 : Int64)))), .second, .val (.long (own_mix ((p0 + (-7046029254386353131 : Int64)) + (-7046029254386353131 : Int64)))), .second, .val (.ref b60), .unset, .unset, .unset, .unset, .unset, .unset, .unset, .unset] [(.long (own_mix ((p0 + (-7046029254386353131 : Int64)) + (-7046029254386353131 : Int64))))]))
  refine Goes.step (fun _ k => XS.lstore X81.here hx rfl (hb hby at_81) rfl (l' := #[.val (.long p0), .second, .val (.long p2), .second, .val (.ref b1), .val (.long (own_mix (0 : Int64))), .second, .val (.ref b11), .val (.long (own_mix (-9223372036854775808 : Int64))), .second, .val (.ref b28), .val (.long (own_mix (p0 + (-7046029254386353131 : Int64)))), .second, .val (.long (own_mix ((p0 + (-7046029254386353131 : Int64)) + (-7046029254386353131 : Int64)))), .second, .val (.ref b60), .val (.long (own_mix ((p0 + (-7046029254386353131 : Int64)) + (-7046029254386353131 : Int64)))), .second, .unset, .unset, .unset, .unset, .unset, .unset]) rfl k) ?_
  show Goes _ _ _ _ _ _ _ (T81.setTop (mkF m 83 #[.val (.long p0), .second, .val (.long p2), .second, .val (.ref b1), .val (.long (own_mix (0 : Int64))), .second, .val (.ref b11), .val (.long (own_mix (-9223372036854775808 : Int64))), .second, .val (.ref b28), .val (.long (own_mix (p0 + (-7046029254386353131 : Int64)))), .second, .val (.long (own_mix ((p0 + (-7046029254386353131 : Int64)) + (-7046029254386353131 : Int64)))), .second, .val (.ref b60), .val (.long (own_mix ((p0 + (-7046029254386353131 : Int64)) + (-7046029254386353131 : Int64)))), .second, .unset, .unset, .unset, .unset, .unset, .unset] []))
  obtain ⟨T91, h91, X91, e91, E91, A91, D91, -, st91⟩ := newO X81 hx hZ hown (hw _ (List.mem_of_getElem? (i := 0) rfl)) (hw _ (List.mem_of_getElem? (i := 1) rfl)) (hw _ (List.mem_of_getElem? (i := 2) rfl)) rfl (g := (mkF m 83 #[.val (.long p0), .second, .val (.long p2), .second, .val (.ref b1), .val (.long (own_mix (0 : Int64))), .second, .val (.ref b11), .val (.long (own_mix (-9223372036854775808 : Int64))), .second, .val (.ref b28), .val (.long (own_mix (p0 + (-7046029254386353131 : Int64)))), .second, .val (.long (own_mix ((p0 + (-7046029254386353131 : Int64)) + (-7046029254386353131 : Int64)))), .second, .val (.ref b60), .val (.long (own_mix ((p0 + (-7046029254386353131 : Int64)) + (-7046029254386353131 : Int64)))), .second, .unset, .unset, .unset, .unset, .unset, .unset] [])) rfl (hb hby at_83) (by decide) (by decide)
  obtain ⟨b91, g91⟩ : ∃ z, z = T81.heap.size := ⟨_, rfl⟩
  rw [← g91] at A91 D91 st91
  refine Goes.step st91 ?_
  have g_b91 : n0 ≤ b91 := Nat.le_trans Z90 (Nat.le_of_eq g91.symm)
  have sz_b91 : h0.size ≤ b91 := Nat.le_trans K90.1 (Nat.le_of_eq g91.symm)
  have ne92 : b1 ≠ b91 := Nat.ne_of_lt (Nat.lt_of_lt_of_le f82.lt (Nat.le_of_eq g91.symm))
  have ne93 : b11 ≠ b91 := Nat.ne_of_lt (Nat.lt_of_lt_of_le f84.lt (Nat.le_of_eq g91.symm))
  have ne94 : b28 ≠ b91 := Nat.ne_of_lt (Nat.lt_of_lt_of_le f86.lt (Nat.le_of_eq g91.symm))
  have ne95 : b60 ≠ b91 := Nat.ne_of_lt (Nat.lt_of_lt_of_le f88.lt (Nat.le_of_eq g91.symm))
  have f96 := f82.ext E91
  have f97 := f83.ext E91
  have f98 := f84.ext E91
  have f99 := f85.ext E91
  have f100 := f86.ext E91
  have f101 := f87.ext E91
  have f102 := f88.ext E91
  have f103 := v81_0_0.ext E91
  have K104 : Keep h0 h91 [] := K90.ext E91
  have Z104 : n0 ≤ h91.size := Nat.le_trans Z90 E91.1
  have E_b91 := A91
  have F_state_b91 : Fld Z h91 b91 "com/example/hailwise/hailwise/SeededRandom" "state" "J" (.long (0 : Int64)) := D91 (Or.inl (hw _ (List.mem_of_getElem? (i := 11) rfl))) (ty := .long) (by decide)
  show Goes _ _ _ _ _ _ _ (T91.setTop (mkF m 86 #[.val (.long p0), .second, .val (.long p2), .second, .val (.ref b1), .val (.long (own_mix (0 : Int64))), .second, .val (.ref b11), .val (.long (own_mix (-9223372036854775808 : Int64))), .second, .val (.ref b28), .val (.long (own_mix (p0 + (-7046029254386353131 : Int64)))), .second, .val (.long (own_mix ((p0 + (-7046029254386353131 : Int64)) + (-7046029254386353131 : Int64)))), .second, .val (.ref b60), .val (.long (own_mix ((p0 + (-7046029254386353131 : Int64)) + (-7046029254386353131 : Int64)))), .second, .unset, .unset, .unset, .unset, .unset, .unset] [(.ref b91)]))
  refine Goes.step (fun _ k => XS.dup X91.here hx rfl (hb hby at_86) rfl rfl k) ?_
  show Goes _ _ _ _ _ _ _ (T91.setTop (mkF m 87 #[.val (.long p0), .second, .val (.long p2), .second, .val (.ref b1), .val (.long (own_mix (0 : Int64))), .second, .val (.ref b11), .val (.long (own_mix (-9223372036854775808 : Int64))), .second, .val (.ref b28), .val (.long (own_mix (p0 + (-7046029254386353131 : Int64)))), .second, .val (.long (own_mix ((p0 + (-7046029254386353131 : Int64)) + (-7046029254386353131 : Int64)))), .second, .val (.ref b60), .val (.long (own_mix ((p0 + (-7046029254386353131 : Int64)) + (-7046029254386353131 : Int64)))), .second, .unset, .unset, .unset, .unset, .unset, .unset] [(.ref b91), (.ref b91)]))
  refine Goes.step (fun _ k => XS.lloadN X91.here hx rfl (hb hby at_87) rfl  k) ?_
  show Goes _ _ _ _ _ _ _ (T91.setTop (mkF m 88 #[.val (.long p0), .second, .val (.long p2), .second, .val (.ref b1), .val (.long (own_mix (0 : Int64))), .second, .val (.ref b11), .val (.long (own_mix (-9223372036854775808 : Int64))), .second, .val (.ref b28), .val (.long (own_mix (p0 + (-7046029254386353131 : Int64)))), .second, .val (.long (own_mix ((p0 + (-7046029254386353131 : Int64)) + (-7046029254386353131 : Int64)))), .second, .val (.ref b60), .val (.long (own_mix ((p0 + (-7046029254386353131 : Int64)) + (-7046029254386353131 : Int64)))), .second, .unset, .unset, .unset, .unset, .unset, .unset] [(.long p2), (.ref b91), (.ref b91)]))
  obtain ⟨_, _, ⟨T105, L105, k105, n105⟩, -, X105, ⟨Lc105, hQ105, l105, y105, z105⟩, st105⟩ := X91.specialBack hx (y := (⟨"com/example/hailwise/hailwise/SeededRandom", "<init>", "(J)V"⟩ : MethodName)) rfl hown (mvT hZ (hw _ (List.mem_of_getElem? (i := 4) rfl))) (mvT hZ (hw _ (List.mem_of_getElem? (i := 5) rfl))) (mvT hZ (hw _ (List.mem_of_getElem? (i := 6) rfl))) (by decide) (backOf (W := 1) (rm1 l Z a0 hw [] b91 p2 (0 : Int64) h91 n0 Z104 F_state_b91 E_b91 g_b91) hZ (hw _ (List.mem_of_getElem? (i := 6) rfl)) (hw _ (List.mem_of_getElem? (i := 2) rfl)) (by decide) (by decide)) (g := (mkF m 88 #[.val (.long p0), .second, .val (.long p2), .second, .val (.ref b1), .val (.long (own_mix (0 : Int64))), .second, .val (.ref b11), .val (.long (own_mix (-9223372036854775808 : Int64))), .second, .val (.ref b28), .val (.long (own_mix (p0 + (-7046029254386353131 : Int64)))), .second, .val (.long (own_mix ((p0 + (-7046029254386353131 : Int64)) + (-7046029254386353131 : Int64)))), .second, .val (.ref b60), .val (.long (own_mix ((p0 + (-7046029254386353131 : Int64)) + (-7046029254386353131 : Int64)))), .second, .unset, .unset, .unset, .unset, .unset, .unset] [(.long p2), (.ref b91), (.ref b91)])) rfl (by rw [hml]; rfl) (Steps.refl _) (a := b91) (argsL := [(.long p2)]) (rest := [(.ref b91)]) (lenOf pd_0 rfl) rfl (by show 2 * 0 + _ ≤ _; exact Nat.le_of_eq rfl) (hb hby at_88) (fun _ _ => ⟨rfl, e91, (by decide : 5 + 0 ≤ _), (by decide : 5 + 0 ≤ _)⟩)
  dsimp only [Pt.U, Pt.locs, Pt.cells, Pt.slots] at X105 l105 y105 z105 st105 hQ105
  subst l105 y105 z105
  obtain ⟨N105, KK105, ex105_0, hR105⟩ := hQ105
  have NA105 := Fr.app NA81 N105
  have f106 := f96.keep KK105
  have f107 := f97.keep KK105 (ninS ne92 nin0)
  have f108 := f98.keep KK105
  have f109 := f99.keep KK105 (ninS ne93 nin0)
  have f110 := f100.keep KK105
  have f111 := f101.keep KK105 (ninS ne94 nin0)
  have f112 := f102.keep KK105
  have f113 := f103.keep KK105 (ninS ne95 nin0)
  have f114 := E_b91.keep KK105
  have K116 : Keep h0 T105.heap [] := K104.trans KK105 (allS (Or.inr sz_b91) all0)
  have Z116 : n0 ≤ T105.heap.size := Nat.le_trans Z104 KK105.1
  obtain ⟨rfl, v105_0_0⟩ := hR105
  refine Goes.back st105 ?_
  show Goes _ _ _ _ _ _ _ (T105.setTop (mkF m 91 #[.val (.long p0), .second, .val (.long p2), .second, .val (.ref b1), .val (.long (own_mix (0 : Int64))), .second, .val (.ref b11), .val (.long (own_mix (-9223372036854775808 : Int64))), .second, .val (.ref b28), .val (.long (own_mix (p0 + (-7046029254386353131 : Int64)))), .second, .val (.long (own_mix ((p0 + (-7046029254386353131 : Int64)) + (-7046029254386353131 : Int64)))), .second, .val (.ref b60), .val (.long (own_mix ((p0 + (-7046029254386353131 : Int64)) + (-7046029254386353131 : Int64)))), .second, .unset, .unset, .unset, .unset, .unset, .unset] [(.ref b91)]))
  refine Goes.step (fun _ k => XS.astore X105.here hx rfl (hb hby at_91) rfl rfl (l' := #[.val (.long p0), .second, .val (.long p2), .second, .val (.ref b1), .val (.long (own_mix (0 : Int64))), .second, .val (.ref b11), .val (.long (own_mix (-9223372036854775808 : Int64))), .second, .val (.ref b28), .val (.long (own_mix (p0 + (-7046029254386353131 : Int64)))), .second, .val (.long (own_mix ((p0 + (-7046029254386353131 : Int64)) + (-7046029254386353131 : Int64)))), .second, .val (.ref b60), .val (.long (own_mix ((p0 + (-7046029254386353131 : Int64)) + (-7046029254386353131 : Int64)))), .second, .val (.ref b91), .unset, .unset, .unset, .unset, .unset]) rfl k) ?_
  show Goes _ _ _ _ _ _ _ (T105.setTop (mkF m 93 #[.val (.long p0), .second, .val (.long p2), .second, .val (.ref b1), .val (.long (own_mix (0 : Int64))), .second, .val (.ref b11), .val (.long (own_mix (-9223372036854775808 : Int64))), .second, .val (.ref b28), .val (.long (own_mix (p0 + (-7046029254386353131 : Int64)))), .second, .val (.long (own_mix ((p0 + (-7046029254386353131 : Int64)) + (-7046029254386353131 : Int64)))), .second, .val (.ref b60), .val (.long (own_mix ((p0 + (-7046029254386353131 : Int64)) + (-7046029254386353131 : Int64)))), .second, .val (.ref b91), .unset, .unset, .unset, .unset, .unset] []))
  refine Goes.step (fun _ k => XS.aload X105.here hx rfl (hb hby at_93) rfl rfl k) ?_
  show Goes _ _ _ _ _ _ _ (T105.setTop (mkF m 95 #[.val (.long p0), .second, .val (.long p2), .second, .val (.ref b1), .val (.long (own_mix (0 : Int64))), .second, .val (.ref b11), .val (.long (own_mix (-9223372036854775808 : Int64))), .second, .val (.ref b28), .val (.long (own_mix (p0 + (-7046029254386353131 : Int64)))), .second, .val (.long (own_mix ((p0 + (-7046029254386353131 : Int64)) + (-7046029254386353131 : Int64)))), .second, .val (.ref b60), .val (.long (own_mix ((p0 + (-7046029254386353131 : Int64)) + (-7046029254386353131 : Int64)))), .second, .val (.ref b91), .unset, .unset, .unset, .unset, .unset] [(.ref b91)]))
  obtain ⟨cq117, kq117, q117a, q117b, q117c⟩ := isOf hZ rfl f114
  obtain ⟨_, _, ⟨T117, L117, k117, n117⟩, -, X117, ⟨Lc117, hQ117, l117, y117, z117⟩, st117⟩ := X105.virtualBack hx (y := (⟨"com/example/hailwise/hailwise/SeededRandom", "nextLong", "()J"⟩ : MethodName)) (z := (⟨"com/example/hailwise/hailwise/SeededRandom", "nextLong", "()J"⟩ : MethodName)) hown (mvT hZ (hw _ (List.mem_of_getElem? (i := 12) rfl))) (mvT hZ (hw _ (List.mem_of_getElem? (i := 13) rfl))) (notFace_of_selects (args := #[]) (mvT hZ (hw _ (List.mem_of_getElem? (i := 15) rfl)))) (mvT hZ (hw _ (List.mem_of_getElem? (i := 15) rfl))) (mvT hZ (hw _ (List.mem_of_getElem? (i := 14) rfl))) (by decide) (backOf (W := 0) (rm3 l Z a0 hw [] b91 p2 T105.heap n0 Z116 v105_0_0 f114 g_b91) hZ (hw _ (List.mem_of_getElem? (i := 16) rfl)) (hw _ (List.mem_of_getElem? (i := 2) rfl)) (by decide) (by decide)) q117a q117c (g := (mkF m 95 #[.val (.long p0), .second, .val (.long p2), .second, .val (.ref b1), .val (.long (own_mix (0 : Int64))), .second, .val (.ref b11), .val (.long (own_mix (-9223372036854775808 : Int64))), .second, .val (.ref b28), .val (.long (own_mix (p0 + (-7046029254386353131 : Int64)))), .second, .val (.long (own_mix ((p0 + (-7046029254386353131 : Int64)) + (-7046029254386353131 : Int64)))), .second, .val (.ref b60), .val (.long (own_mix ((p0 + (-7046029254386353131 : Int64)) + (-7046029254386353131 : Int64)))), .second, .val (.ref b91), .unset, .unset, .unset, .unset, .unset] [(.ref b91)])) rfl (by rw [hml]; rfl) (Steps.refl _) (argsL := []) (rest := []) (lenOf pd_2 rfl) rfl (by show 2 * 0 + _ ≤ _; exact Nat.le_of_eq rfl) (hb hby at_95) (fun _ _ => ⟨rfl, rfl, (by decide : 5 + 0 ≤ _), (by decide : 5 + 0 ≤ _)⟩)
  dsimp only [Pt.U, Pt.locs, Pt.cells, Pt.slots] at X117 l117 y117 z117 st117 hQ117
  subst l117 y117 z117
  obtain ⟨N117, KK117, ex117_0, hR117⟩ := hQ117
  have NA117 := Fr.app NA105 N117
  have f118 := f106.keep KK117
  have f119 := f107.keep KK117 (ninS ne92 nin0)
  have f120 := f108.keep KK117
  have f121 := f109.keep KK117 (ninS ne93 nin0)
  have f122 := f110.keep KK117
  have f123 := f111.keep KK117 (ninS ne94 nin0)
  have f124 := f112.keep KK117
  have f125 := f113.keep KK117 (ninS ne95 nin0)
  have f126 := f114.keep KK117
  have K128 : Keep h0 T117.heap [] := K116.trans KK117 (allS (Or.inr sz_b91) all0)
  have Z128 : n0 ≤ T117.heap.size := Nat.le_trans Z116 KK117.1
  obtain ⟨rfl, v117_0_0⟩ := hR117
  refine Goes.back st117 ?_
  show Goes _ _ _ _ _ _ _ (T117.setTop (mkF m 98 #[.val (.long p0), .second, .val (.long p2), .second, .val (.ref b1), .val (.long (own_mix (0 : Int64))), .second, .val (.ref b11), .val (.long (own_mix (-9223372036854775808 : Int64))), .second, .val (.ref b28), .val (.long (own_mix (p0 + (-7046029254386353131 : Int64)))), .second, .val (.long (own_mix ((p0 + (-7046029254386353131 : Int64)) + (-7046029254386353131 : Int64)))), .second, .val (.ref b60), .val (.long (own_mix ((p0 + (-7046029254386353131 : Int64)) + (-7046029254386353131 : Int64)))), .second, .val (.ref b91), .unset, .unset, .unset, .unset, .unset] [(.long (own_mix (p2 + (-7046029254386353131 : Int64))))]))
  refine Goes.step (fun _ k => XS.lstore X117.here hx rfl (hb hby at_98) rfl (l' := #[.val (.long p0), .second, .val (.long p2), .second, .val (.ref b1), .val (.long (own_mix (0 : Int64))), .second, .val (.ref b11), .val (.long (own_mix (-9223372036854775808 : Int64))), .second, .val (.ref b28), .val (.long (own_mix (p0 + (-7046029254386353131 : Int64)))), .second, .val (.long (own_mix ((p0 + (-7046029254386353131 : Int64)) + (-7046029254386353131 : Int64)))), .second, .val (.ref b60), .val (.long (own_mix ((p0 + (-7046029254386353131 : Int64)) + (-7046029254386353131 : Int64)))), .second, .val (.ref b91), .val (.long (own_mix (p2 + (-7046029254386353131 : Int64)))), .second, .unset, .unset, .unset]) rfl k) ?_
  show Goes _ _ _ _ _ _ _ (T117.setTop (mkF m 100 #[.val (.long p0), .second, .val (.long p2), .second, .val (.ref b1), .val (.long (own_mix (0 : Int64))), .second, .val (.ref b11), .val (.long (own_mix (-9223372036854775808 : Int64))), .second, .val (.ref b28), .val (.long (own_mix (p0 + (-7046029254386353131 : Int64)))), .second, .val (.long (own_mix ((p0 + (-7046029254386353131 : Int64)) + (-7046029254386353131 : Int64)))), .second, .val (.ref b60), .val (.long (own_mix ((p0 + (-7046029254386353131 : Int64)) + (-7046029254386353131 : Int64)))), .second, .val (.ref b91), .val (.long (own_mix (p2 + (-7046029254386353131 : Int64)))), .second, .unset, .unset, .unset] []))
  refine Goes.step (fun _ k => XS.lload X117.here hx rfl (hb hby at_100) rfl  k) ?_
  show Goes _ _ _ _ _ _ _ (T117.setTop (mkF m 102 #[.val (.long p0), .second, .val (.long p2), .second, .val (.ref b1), .val (.long (own_mix (0 : Int64))), .second, .val (.ref b11), .val (.long (own_mix (-9223372036854775808 : Int64))), .second, .val (.ref b28), .val (.long (own_mix (p0 + (-7046029254386353131 : Int64)))), .second, .val (.long (own_mix ((p0 + (-7046029254386353131 : Int64)) + (-7046029254386353131 : Int64)))), .second, .val (.ref b60), .val (.long (own_mix ((p0 + (-7046029254386353131 : Int64)) + (-7046029254386353131 : Int64)))), .second, .val (.ref b91), .val (.long (own_mix (p2 + (-7046029254386353131 : Int64)))), .second, .unset, .unset, .unset] [(.long (own_mix (0 : Int64)))]))
  refine Goes.step (fun _ k => XS.lconst X117.here hx rfl (hb hby at_102) k) ?_
  show Goes _ _ _ _ _ _ _ (T117.setTop (mkF m 103 #[.val (.long p0), .second, .val (.long p2), .second, .val (.ref b1), .val (.long (own_mix (0 : Int64))), .second, .val (.ref b11), .val (.long (own_mix (-9223372036854775808 : Int64))), .second, .val (.ref b28), .val (.long (own_mix (p0 + (-7046029254386353131 : Int64)))), .second, .val (.long (own_mix ((p0 + (-7046029254386353131 : Int64)) + (-7046029254386353131 : Int64)))), .second, .val (.ref b60), .val (.long (own_mix ((p0 + (-7046029254386353131 : Int64)) + (-7046029254386353131 : Int64)))), .second, .val (.ref b91), .val (.long (own_mix (p2 + (-7046029254386353131 : Int64)))), .second, .unset, .unset, .unset] [(.long (0 : Int64)), (.long (own_mix (0 : Int64)))]))
  refine Goes.step (fun _ k => XS.lcmp X117.here hx rfl (hb hby at_103) rfl k) ?_
  show Goes _ _ _ _ _ _ _ (T117.setTop (mkF m 104 #[.val (.long p0), .second, .val (.long p2), .second, .val (.ref b1), .val (.long (own_mix (0 : Int64))), .second, .val (.ref b11), .val (.long (own_mix (-9223372036854775808 : Int64))), .second, .val (.ref b28), .val (.long (own_mix (p0 + (-7046029254386353131 : Int64)))), .second, .val (.long (own_mix ((p0 + (-7046029254386353131 : Int64)) + (-7046029254386353131 : Int64)))), .second, .val (.ref b60), .val (.long (own_mix ((p0 + (-7046029254386353131 : Int64)) + (-7046029254386353131 : Int64)))), .second, .val (.ref b91), .val (.long (own_mix (p2 + (-7046029254386353131 : Int64)))), .second, .unset, .unset, .unset] [(.int (lcmpW (own_mix (0 : Int64)) (0 : Int64)))]))
  refine Goes.step (fun _ k => XS.ifNo X117.here hx rfl (hb hby at_104) rfl ((if0 _ _).trans (teq ((lw_eq _ _).mpr own_anchor0)).2) k) ?_
  show Goes _ _ _ _ _ _ _ (T117.setTop (mkF m 107 #[.val (.long p0), .second, .val (.long p2), .second, .val (.ref b1), .val (.long (own_mix (0 : Int64))), .second, .val (.ref b11), .val (.long (own_mix (-9223372036854775808 : Int64))), .second, .val (.ref b28), .val (.long (own_mix (p0 + (-7046029254386353131 : Int64)))), .second, .val (.long (own_mix ((p0 + (-7046029254386353131 : Int64)) + (-7046029254386353131 : Int64)))), .second, .val (.ref b60), .val (.long (own_mix ((p0 + (-7046029254386353131 : Int64)) + (-7046029254386353131 : Int64)))), .second, .val (.ref b91), .val (.long (own_mix (p2 + (-7046029254386353131 : Int64)))), .second, .unset, .unset, .unset] []))
  refine Goes.step (fun _ k => XS.lload X117.here hx rfl (hb hby at_107) rfl  k) ?_
  show Goes _ _ _ _ _ _ _ (T117.setTop (mkF m 109 #[.val (.long p0), .second, .val (.long p2), .second, .val (.ref b1), .val (.long (own_mix (0 : Int64))), .second, .val (.ref b11), .val (.long (own_mix (-9223372036854775808 : Int64))), .second, .val (.ref b28), .val (.long (own_mix (p0 + (-7046029254386353131 : Int64)))), .second, .val (.long (own_mix ((p0 + (-7046029254386353131 : Int64)) + (-7046029254386353131 : Int64)))), .second, .val (.ref b60), .val (.long (own_mix ((p0 + (-7046029254386353131 : Int64)) + (-7046029254386353131 : Int64)))), .second, .val (.ref b91), .val (.long (own_mix (p2 + (-7046029254386353131 : Int64)))), .second, .unset, .unset, .unset] [(.long (own_mix (-9223372036854775808 : Int64)))]))
  refine Goes.step (fun _ k => X117.ldc2Long hx hown (mvT hZ (hw _ (List.mem_of_getElem? (i := 22) rfl))) (g := (mkF m 109 #[.val (.long p0), .second, .val (.long p2), .second, .val (.ref b1), .val (.long (own_mix (0 : Int64))), .second, .val (.ref b11), .val (.long (own_mix (-9223372036854775808 : Int64))), .second, .val (.ref b28), .val (.long (own_mix (p0 + (-7046029254386353131 : Int64)))), .second, .val (.long (own_mix ((p0 + (-7046029254386353131 : Int64)) + (-7046029254386353131 : Int64)))), .second, .val (.ref b60), .val (.long (own_mix ((p0 + (-7046029254386353131 : Int64)) + (-7046029254386353131 : Int64)))), .second, .val (.ref b91), .val (.long (own_mix (p2 + (-7046029254386353131 : Int64)))), .second, .unset, .unset, .unset] [(.long (own_mix (-9223372036854775808 : Int64)))])) rfl (hb hby at_109) _ k) ?_
  show Goes _ _ _ _ _ _ _ (T117.setTop (mkF m 112 #[.val (.long p0), .second, .val (.long p2), .second, .val (.ref b1), .val (.long (own_mix (0 : Int64))), .second, .val (.ref b11), .val (.long (own_mix (-9223372036854775808 : Int64))), .second, .val (.ref b28), .val (.long (own_mix (p0 + (-7046029254386353131 : Int64)))), .second, .val (.long (own_mix ((p0 + (-7046029254386353131 : Int64)) + (-7046029254386353131 : Int64)))), .second, .val (.ref b60), .val (.long (own_mix ((p0 + (-7046029254386353131 : Int64)) + (-7046029254386353131 : Int64)))), .second, .val (.ref b91), .val (.long (own_mix (p2 + (-7046029254386353131 : Int64)))), .second, .unset, .unset, .unset] [(.long (2720858781877447050 : Int64)), (.long (own_mix (-9223372036854775808 : Int64)))]))
  refine Goes.step (fun _ k => XS.lcmp X117.here hx rfl (hb hby at_112) rfl k) ?_
  show Goes _ _ _ _ _ _ _ (T117.setTop (mkF m 113 #[.val (.long p0), .second, .val (.long p2), .second, .val (.ref b1), .val (.long (own_mix (0 : Int64))), .second, .val (.ref b11), .val (.long (own_mix (-9223372036854775808 : Int64))), .second, .val (.ref b28), .val (.long (own_mix (p0 + (-7046029254386353131 : Int64)))), .second, .val (.long (own_mix ((p0 + (-7046029254386353131 : Int64)) + (-7046029254386353131 : Int64)))), .second, .val (.ref b60), .val (.long (own_mix ((p0 + (-7046029254386353131 : Int64)) + (-7046029254386353131 : Int64)))), .second, .val (.ref b91), .val (.long (own_mix (p2 + (-7046029254386353131 : Int64)))), .second, .unset, .unset, .unset] [(.int (lcmpW (own_mix (-9223372036854775808 : Int64)) (2720858781877447050 : Int64)))]))
  refine Goes.step (fun _ k => XS.ifNo X117.here hx rfl (hb hby at_113) rfl ((if0 _ _).trans (teq ((lw_eq _ _).mpr own_anchor1)).2) k) ?_
  show Goes _ _ _ _ _ _ _ (T117.setTop (mkF m 116 #[.val (.long p0), .second, .val (.long p2), .second, .val (.ref b1), .val (.long (own_mix (0 : Int64))), .second, .val (.ref b11), .val (.long (own_mix (-9223372036854775808 : Int64))), .second, .val (.ref b28), .val (.long (own_mix (p0 + (-7046029254386353131 : Int64)))), .second, .val (.long (own_mix ((p0 + (-7046029254386353131 : Int64)) + (-7046029254386353131 : Int64)))), .second, .val (.ref b60), .val (.long (own_mix ((p0 + (-7046029254386353131 : Int64)) + (-7046029254386353131 : Int64)))), .second, .val (.ref b91), .val (.long (own_mix (p2 + (-7046029254386353131 : Int64)))), .second, .unset, .unset, .unset] []))
  refine Goes.step (fun _ k => XS.iconst X117.here hx rfl (hb hby at_116) k) ?_
  show Goes _ _ _ _ _ _ _ (T117.setTop (mkF m 117 #[.val (.long p0), .second, .val (.long p2), .second, .val (.ref b1), .val (.long (own_mix (0 : Int64))), .second, .val (.ref b11), .val (.long (own_mix (-9223372036854775808 : Int64))), .second, .val (.ref b28), .val (.long (own_mix (p0 + (-7046029254386353131 : Int64)))), .second, .val (.long (own_mix ((p0 + (-7046029254386353131 : Int64)) + (-7046029254386353131 : Int64)))), .second, .val (.ref b60), .val (.long (own_mix ((p0 + (-7046029254386353131 : Int64)) + (-7046029254386353131 : Int64)))), .second, .val (.ref b91), .val (.long (own_mix (p2 + (-7046029254386353131 : Int64)))), .second, .unset, .unset, .unset] [(.int (1 : Int32))]))
  refine Goes.step (fun _ k => XS.goto X117.here hx rfl (pc0 := 117) (pc' := 121) rfl (hb hby at_117) (by decide) (by decide) k) ?_
  show Goes _ _ _ _ _ _ _ (T117.setTop (mkF m 121 #[.val (.long p0), .second, .val (.long p2), .second, .val (.ref b1), .val (.long (own_mix (0 : Int64))), .second, .val (.ref b11), .val (.long (own_mix (-9223372036854775808 : Int64))), .second, .val (.ref b28), .val (.long (own_mix (p0 + (-7046029254386353131 : Int64)))), .second, .val (.long (own_mix ((p0 + (-7046029254386353131 : Int64)) + (-7046029254386353131 : Int64)))), .second, .val (.ref b60), .val (.long (own_mix ((p0 + (-7046029254386353131 : Int64)) + (-7046029254386353131 : Int64)))), .second, .val (.ref b91), .val (.long (own_mix (p2 + (-7046029254386353131 : Int64)))), .second, .unset, .unset, .unset] [(.int (1 : Int32))]))
  refine Goes.step (fun _ k => XS.istore X117.here hx rfl (hb hby at_121) rfl (l' := #[.val (.long p0), .second, .val (.long p2), .second, .val (.ref b1), .val (.long (own_mix (0 : Int64))), .second, .val (.ref b11), .val (.long (own_mix (-9223372036854775808 : Int64))), .second, .val (.ref b28), .val (.long (own_mix (p0 + (-7046029254386353131 : Int64)))), .second, .val (.long (own_mix ((p0 + (-7046029254386353131 : Int64)) + (-7046029254386353131 : Int64)))), .second, .val (.ref b60), .val (.long (own_mix ((p0 + (-7046029254386353131 : Int64)) + (-7046029254386353131 : Int64)))), .second, .val (.ref b91), .val (.long (own_mix (p2 + (-7046029254386353131 : Int64)))), .second, .val (.int (1 : Int32)), .unset, .unset]) rfl k) ?_
  show Goes _ _ _ _ _ _ _ (T117.setTop (mkF m 123 #[.val (.long p0), .second, .val (.long p2), .second, .val (.ref b1), .val (.long (own_mix (0 : Int64))), .second, .val (.ref b11), .val (.long (own_mix (-9223372036854775808 : Int64))), .second, .val (.ref b28), .val (.long (own_mix (p0 + (-7046029254386353131 : Int64)))), .second, .val (.long (own_mix ((p0 + (-7046029254386353131 : Int64)) + (-7046029254386353131 : Int64)))), .second, .val (.ref b60), .val (.long (own_mix ((p0 + (-7046029254386353131 : Int64)) + (-7046029254386353131 : Int64)))), .second, .val (.ref b91), .val (.long (own_mix (p2 + (-7046029254386353131 : Int64)))), .second, .val (.int (1 : Int32)), .unset, .unset] []))
  refine Goes.step (fun _ k => XS.lload X117.here hx rfl (hb hby at_123) rfl  k) ?_
  show Goes _ _ _ _ _ _ _ (T117.setTop (mkF m 125 #[.val (.long p0), .second, .val (.long p2), .second, .val (.ref b1), .val (.long (own_mix (0 : Int64))), .second, .val (.ref b11), .val (.long (own_mix (-9223372036854775808 : Int64))), .second, .val (.ref b28), .val (.long (own_mix (p0 + (-7046029254386353131 : Int64)))), .second, .val (.long (own_mix ((p0 + (-7046029254386353131 : Int64)) + (-7046029254386353131 : Int64)))), .second, .val (.ref b60), .val (.long (own_mix ((p0 + (-7046029254386353131 : Int64)) + (-7046029254386353131 : Int64)))), .second, .val (.ref b91), .val (.long (own_mix (p2 + (-7046029254386353131 : Int64)))), .second, .val (.int (1 : Int32)), .unset, .unset] [(.long (own_mix ((p0 + (-7046029254386353131 : Int64)) + (-7046029254386353131 : Int64))))]))
  refine Goes.step (fun _ k => XS.lload X117.here hx rfl (hb hby at_125) rfl  k) ?_
  show Goes _ _ _ _ _ _ _ (T117.setTop (mkF m 127 #[.val (.long p0), .second, .val (.long p2), .second, .val (.ref b1), .val (.long (own_mix (0 : Int64))), .second, .val (.ref b11), .val (.long (own_mix (-9223372036854775808 : Int64))), .second, .val (.ref b28), .val (.long (own_mix (p0 + (-7046029254386353131 : Int64)))), .second, .val (.long (own_mix ((p0 + (-7046029254386353131 : Int64)) + (-7046029254386353131 : Int64)))), .second, .val (.ref b60), .val (.long (own_mix ((p0 + (-7046029254386353131 : Int64)) + (-7046029254386353131 : Int64)))), .second, .val (.ref b91), .val (.long (own_mix (p2 + (-7046029254386353131 : Int64)))), .second, .val (.int (1 : Int32)), .unset, .unset] [(.long (own_mix ((p0 + (-7046029254386353131 : Int64)) + (-7046029254386353131 : Int64)))), (.long (own_mix ((p0 + (-7046029254386353131 : Int64)) + (-7046029254386353131 : Int64))))]))
  refine Goes.step (fun _ k => XS.lcmp X117.here hx rfl (hb hby at_127) rfl k) ?_
  show Goes _ _ _ _ _ _ _ (T117.setTop (mkF m 128 #[.val (.long p0), .second, .val (.long p2), .second, .val (.ref b1), .val (.long (own_mix (0 : Int64))), .second, .val (.ref b11), .val (.long (own_mix (-9223372036854775808 : Int64))), .second, .val (.ref b28), .val (.long (own_mix (p0 + (-7046029254386353131 : Int64)))), .second, .val (.long (own_mix ((p0 + (-7046029254386353131 : Int64)) + (-7046029254386353131 : Int64)))), .second, .val (.ref b60), .val (.long (own_mix ((p0 + (-7046029254386353131 : Int64)) + (-7046029254386353131 : Int64)))), .second, .val (.ref b91), .val (.long (own_mix (p2 + (-7046029254386353131 : Int64)))), .second, .val (.int (1 : Int32)), .unset, .unset] [(.int (lcmpW (own_mix ((p0 + (-7046029254386353131 : Int64)) + (-7046029254386353131 : Int64))) (own_mix ((p0 + (-7046029254386353131 : Int64)) + (-7046029254386353131 : Int64)))))]))
  refine Goes.step (fun _ k => XS.ifNo X117.here hx rfl (hb hby at_128) rfl ((if0 _ _).trans (teq ((lw_eq _ _).mpr (rfl : (own_mix ((p0 + (-7046029254386353131 : Int64)) + (-7046029254386353131 : Int64))) = (own_mix ((p0 + (-7046029254386353131 : Int64)) + (-7046029254386353131 : Int64)))))).2) k) ?_
  show Goes _ _ _ _ _ _ _ (T117.setTop (mkF m 131 #[.val (.long p0), .second, .val (.long p2), .second, .val (.ref b1), .val (.long (own_mix (0 : Int64))), .second, .val (.ref b11), .val (.long (own_mix (-9223372036854775808 : Int64))), .second, .val (.ref b28), .val (.long (own_mix (p0 + (-7046029254386353131 : Int64)))), .second, .val (.long (own_mix ((p0 + (-7046029254386353131 : Int64)) + (-7046029254386353131 : Int64)))), .second, .val (.ref b60), .val (.long (own_mix ((p0 + (-7046029254386353131 : Int64)) + (-7046029254386353131 : Int64)))), .second, .val (.ref b91), .val (.long (own_mix (p2 + (-7046029254386353131 : Int64)))), .second, .val (.int (1 : Int32)), .unset, .unset] []))
  refine Goes.step (fun _ k => XS.iconst X117.here hx rfl (hb hby at_131) k) ?_
  show Goes _ _ _ _ _ _ _ (T117.setTop (mkF m 132 #[.val (.long p0), .second, .val (.long p2), .second, .val (.ref b1), .val (.long (own_mix (0 : Int64))), .second, .val (.ref b11), .val (.long (own_mix (-9223372036854775808 : Int64))), .second, .val (.ref b28), .val (.long (own_mix (p0 + (-7046029254386353131 : Int64)))), .second, .val (.long (own_mix ((p0 + (-7046029254386353131 : Int64)) + (-7046029254386353131 : Int64)))), .second, .val (.ref b60), .val (.long (own_mix ((p0 + (-7046029254386353131 : Int64)) + (-7046029254386353131 : Int64)))), .second, .val (.ref b91), .val (.long (own_mix (p2 + (-7046029254386353131 : Int64)))), .second, .val (.int (1 : Int32)), .unset, .unset] [(.int (1 : Int32))]))
  refine Goes.step (fun _ k => XS.goto X117.here hx rfl (pc0 := 132) (pc' := 136) rfl (hb hby at_132) (by decide) (by decide) k) ?_
  show Goes _ _ _ _ _ _ _ (T117.setTop (mkF m 136 #[.val (.long p0), .second, .val (.long p2), .second, .val (.ref b1), .val (.long (own_mix (0 : Int64))), .second, .val (.ref b11), .val (.long (own_mix (-9223372036854775808 : Int64))), .second, .val (.ref b28), .val (.long (own_mix (p0 + (-7046029254386353131 : Int64)))), .second, .val (.long (own_mix ((p0 + (-7046029254386353131 : Int64)) + (-7046029254386353131 : Int64)))), .second, .val (.ref b60), .val (.long (own_mix ((p0 + (-7046029254386353131 : Int64)) + (-7046029254386353131 : Int64)))), .second, .val (.ref b91), .val (.long (own_mix (p2 + (-7046029254386353131 : Int64)))), .second, .val (.int (1 : Int32)), .unset, .unset] [(.int (1 : Int32))]))
  refine Goes.step (fun _ k => XS.istore X117.here hx rfl (hb hby at_136) rfl (l' := #[.val (.long p0), .second, .val (.long p2), .second, .val (.ref b1), .val (.long (own_mix (0 : Int64))), .second, .val (.ref b11), .val (.long (own_mix (-9223372036854775808 : Int64))), .second, .val (.ref b28), .val (.long (own_mix (p0 + (-7046029254386353131 : Int64)))), .second, .val (.long (own_mix ((p0 + (-7046029254386353131 : Int64)) + (-7046029254386353131 : Int64)))), .second, .val (.ref b60), .val (.long (own_mix ((p0 + (-7046029254386353131 : Int64)) + (-7046029254386353131 : Int64)))), .second, .val (.ref b91), .val (.long (own_mix (p2 + (-7046029254386353131 : Int64)))), .second, .val (.int (1 : Int32)), .val (.int (1 : Int32)), .unset]) rfl k) ?_
  show Goes _ _ _ _ _ _ _ (T117.setTop (mkF m 138 #[.val (.long p0), .second, .val (.long p2), .second, .val (.ref b1), .val (.long (own_mix (0 : Int64))), .second, .val (.ref b11), .val (.long (own_mix (-9223372036854775808 : Int64))), .second, .val (.ref b28), .val (.long (own_mix (p0 + (-7046029254386353131 : Int64)))), .second, .val (.long (own_mix ((p0 + (-7046029254386353131 : Int64)) + (-7046029254386353131 : Int64)))), .second, .val (.ref b60), .val (.long (own_mix ((p0 + (-7046029254386353131 : Int64)) + (-7046029254386353131 : Int64)))), .second, .val (.ref b91), .val (.long (own_mix (p2 + (-7046029254386353131 : Int64)))), .second, .val (.int (1 : Int32)), .val (.int (1 : Int32)), .unset] []))
  refine Goes.step (fun _ k => XS.lloadN X117.here hx rfl (hb hby at_138) rfl  k) ?_
  show Goes _ _ _ _ _ _ _ (T117.setTop (mkF m 139 #[.val (.long p0), .second, .val (.long p2), .second, .val (.ref b1), .val (.long (own_mix (0 : Int64))), .second, .val (.ref b11), .val (.long (own_mix (-9223372036854775808 : Int64))), .second, .val (.ref b28), .val (.long (own_mix (p0 + (-7046029254386353131 : Int64)))), .second, .val (.long (own_mix ((p0 + (-7046029254386353131 : Int64)) + (-7046029254386353131 : Int64)))), .second, .val (.ref b60), .val (.long (own_mix ((p0 + (-7046029254386353131 : Int64)) + (-7046029254386353131 : Int64)))), .second, .val (.ref b91), .val (.long (own_mix (p2 + (-7046029254386353131 : Int64)))), .second, .val (.int (1 : Int32)), .val (.int (1 : Int32)), .unset] [(.long p0)]))
  refine Goes.step (fun _ k => XS.lloadN X117.here hx rfl (hb hby at_139) rfl  k) ?_
  show Goes _ _ _ _ _ _ _ (T117.setTop (mkF m 140 #[.val (.long p0), .second, .val (.long p2), .second, .val (.ref b1), .val (.long (own_mix (0 : Int64))), .second, .val (.ref b11), .val (.long (own_mix (-9223372036854775808 : Int64))), .second, .val (.ref b28), .val (.long (own_mix (p0 + (-7046029254386353131 : Int64)))), .second, .val (.long (own_mix ((p0 + (-7046029254386353131 : Int64)) + (-7046029254386353131 : Int64)))), .second, .val (.ref b60), .val (.long (own_mix ((p0 + (-7046029254386353131 : Int64)) + (-7046029254386353131 : Int64)))), .second, .val (.ref b91), .val (.long (own_mix (p2 + (-7046029254386353131 : Int64)))), .second, .val (.int (1 : Int32)), .val (.int (1 : Int32)), .unset] [(.long p2), (.long p0)]))
  refine Goes.step (fun _ k => XS.lcmp X117.here hx rfl (hb hby at_140) rfl k) ?_
  show Goes _ _ _ _ _ _ _ (T117.setTop (mkF m 141 #[.val (.long p0), .second, .val (.long p2), .second, .val (.ref b1), .val (.long (own_mix (0 : Int64))), .second, .val (.ref b11), .val (.long (own_mix (-9223372036854775808 : Int64))), .second, .val (.ref b28), .val (.long (own_mix (p0 + (-7046029254386353131 : Int64)))), .second, .val (.long (own_mix ((p0 + (-7046029254386353131 : Int64)) + (-7046029254386353131 : Int64)))), .second, .val (.ref b60), .val (.long (own_mix ((p0 + (-7046029254386353131 : Int64)) + (-7046029254386353131 : Int64)))), .second, .val (.ref b91), .val (.long (own_mix (p2 + (-7046029254386353131 : Int64)))), .second, .val (.int (1 : Int32)), .val (.int (1 : Int32)), .unset] [(.int (lcmpW p0 p2))]))
  by_cases c141_129 : p0 = p2
  · refine Goes.step (fun _ k => XS.ifNo X117.here hx rfl (hb hby at_141) rfl ((if0 _ _).trans (teq ((lw_eq _ _).mpr c141_129)).2) k) ?_
    show Goes _ _ _ _ _ _ _ (T117.setTop (mkF m 144 #[.val (.long p0), .second, .val (.long p2), .second, .val (.ref b1), .val (.long (own_mix (0 : Int64))), .second, .val (.ref b11), .val (.long (own_mix (-9223372036854775808 : Int64))), .second, .val (.ref b28), .val (.long (own_mix (p0 + (-7046029254386353131 : Int64)))), .second, .val (.long (own_mix ((p0 + (-7046029254386353131 : Int64)) + (-7046029254386353131 : Int64)))), .second, .val (.ref b60), .val (.long (own_mix ((p0 + (-7046029254386353131 : Int64)) + (-7046029254386353131 : Int64)))), .second, .val (.ref b91), .val (.long (own_mix (p2 + (-7046029254386353131 : Int64)))), .second, .val (.int (1 : Int32)), .val (.int (1 : Int32)), .unset] []))
    refine Goes.step (fun _ k => XS.iconst X117.here hx rfl (hb hby at_144) k) ?_
    show Goes _ _ _ _ _ _ _ (T117.setTop (mkF m 145 #[.val (.long p0), .second, .val (.long p2), .second, .val (.ref b1), .val (.long (own_mix (0 : Int64))), .second, .val (.ref b11), .val (.long (own_mix (-9223372036854775808 : Int64))), .second, .val (.ref b28), .val (.long (own_mix (p0 + (-7046029254386353131 : Int64)))), .second, .val (.long (own_mix ((p0 + (-7046029254386353131 : Int64)) + (-7046029254386353131 : Int64)))), .second, .val (.ref b60), .val (.long (own_mix ((p0 + (-7046029254386353131 : Int64)) + (-7046029254386353131 : Int64)))), .second, .val (.ref b91), .val (.long (own_mix (p2 + (-7046029254386353131 : Int64)))), .second, .val (.int (1 : Int32)), .val (.int (1 : Int32)), .unset] [(.int (1 : Int32))]))
    refine Goes.step (fun _ k => XS.goto X117.here hx rfl (pc0 := 145) (pc' := 149) rfl (hb hby at_145) (by decide) (by decide) k) ?_
    show Goes _ _ _ _ _ _ _ (T117.setTop (mkF m 149 #[.val (.long p0), .second, .val (.long p2), .second, .val (.ref b1), .val (.long (own_mix (0 : Int64))), .second, .val (.ref b11), .val (.long (own_mix (-9223372036854775808 : Int64))), .second, .val (.ref b28), .val (.long (own_mix (p0 + (-7046029254386353131 : Int64)))), .second, .val (.long (own_mix ((p0 + (-7046029254386353131 : Int64)) + (-7046029254386353131 : Int64)))), .second, .val (.ref b60), .val (.long (own_mix ((p0 + (-7046029254386353131 : Int64)) + (-7046029254386353131 : Int64)))), .second, .val (.ref b91), .val (.long (own_mix (p2 + (-7046029254386353131 : Int64)))), .second, .val (.int (1 : Int32)), .val (.int (1 : Int32)), .unset] [(.int (1 : Int32))]))
    refine Goes.step (fun _ k => XS.lload X117.here hx rfl (hb hby at_149) rfl  k) ?_
    show Goes _ _ _ _ _ _ _ (T117.setTop (mkF m 151 #[.val (.long p0), .second, .val (.long p2), .second, .val (.ref b1), .val (.long (own_mix (0 : Int64))), .second, .val (.ref b11), .val (.long (own_mix (-9223372036854775808 : Int64))), .second, .val (.ref b28), .val (.long (own_mix (p0 + (-7046029254386353131 : Int64)))), .second, .val (.long (own_mix ((p0 + (-7046029254386353131 : Int64)) + (-7046029254386353131 : Int64)))), .second, .val (.ref b60), .val (.long (own_mix ((p0 + (-7046029254386353131 : Int64)) + (-7046029254386353131 : Int64)))), .second, .val (.ref b91), .val (.long (own_mix (p2 + (-7046029254386353131 : Int64)))), .second, .val (.int (1 : Int32)), .val (.int (1 : Int32)), .unset] [(.long (own_mix (p0 + (-7046029254386353131 : Int64)))), (.int (1 : Int32))]))
    refine Goes.step (fun _ k => XS.lload X117.here hx rfl (hb hby at_151) rfl  k) ?_
    show Goes _ _ _ _ _ _ _ (T117.setTop (mkF m 153 #[.val (.long p0), .second, .val (.long p2), .second, .val (.ref b1), .val (.long (own_mix (0 : Int64))), .second, .val (.ref b11), .val (.long (own_mix (-9223372036854775808 : Int64))), .second, .val (.ref b28), .val (.long (own_mix (p0 + (-7046029254386353131 : Int64)))), .second, .val (.long (own_mix ((p0 + (-7046029254386353131 : Int64)) + (-7046029254386353131 : Int64)))), .second, .val (.ref b60), .val (.long (own_mix ((p0 + (-7046029254386353131 : Int64)) + (-7046029254386353131 : Int64)))), .second, .val (.ref b91), .val (.long (own_mix (p2 + (-7046029254386353131 : Int64)))), .second, .val (.int (1 : Int32)), .val (.int (1 : Int32)), .unset] [(.long (own_mix (p2 + (-7046029254386353131 : Int64)))), (.long (own_mix (p0 + (-7046029254386353131 : Int64)))), (.int (1 : Int32))]))
    refine Goes.step (fun _ k => XS.lcmp X117.here hx rfl (hb hby at_153) rfl k) ?_
    show Goes _ _ _ _ _ _ _ (T117.setTop (mkF m 154 #[.val (.long p0), .second, .val (.long p2), .second, .val (.ref b1), .val (.long (own_mix (0 : Int64))), .second, .val (.ref b11), .val (.long (own_mix (-9223372036854775808 : Int64))), .second, .val (.ref b28), .val (.long (own_mix (p0 + (-7046029254386353131 : Int64)))), .second, .val (.long (own_mix ((p0 + (-7046029254386353131 : Int64)) + (-7046029254386353131 : Int64)))), .second, .val (.ref b60), .val (.long (own_mix ((p0 + (-7046029254386353131 : Int64)) + (-7046029254386353131 : Int64)))), .second, .val (.ref b91), .val (.long (own_mix (p2 + (-7046029254386353131 : Int64)))), .second, .val (.int (1 : Int32)), .val (.int (1 : Int32)), .unset] [(.int (lcmpW (own_mix (p0 + (-7046029254386353131 : Int64))) (own_mix (p2 + (-7046029254386353131 : Int64))))), (.int (1 : Int32))]))
    refine Goes.step (fun _ k => XS.ifNo X117.here hx rfl (hb hby at_154) rfl ((if0 _ _).trans (teq ((lw_eq _ _).mpr (own_same _ c141_129))).2) k) ?_
    show Goes _ _ _ _ _ _ _ (T117.setTop (mkF m 157 #[.val (.long p0), .second, .val (.long p2), .second, .val (.ref b1), .val (.long (own_mix (0 : Int64))), .second, .val (.ref b11), .val (.long (own_mix (-9223372036854775808 : Int64))), .second, .val (.ref b28), .val (.long (own_mix (p0 + (-7046029254386353131 : Int64)))), .second, .val (.long (own_mix ((p0 + (-7046029254386353131 : Int64)) + (-7046029254386353131 : Int64)))), .second, .val (.ref b60), .val (.long (own_mix ((p0 + (-7046029254386353131 : Int64)) + (-7046029254386353131 : Int64)))), .second, .val (.ref b91), .val (.long (own_mix (p2 + (-7046029254386353131 : Int64)))), .second, .val (.int (1 : Int32)), .val (.int (1 : Int32)), .unset] [(.int (1 : Int32))]))
    refine Goes.step (fun _ k => XS.iconst X117.here hx rfl (hb hby at_157) k) ?_
    show Goes _ _ _ _ _ _ _ (T117.setTop (mkF m 158 #[.val (.long p0), .second, .val (.long p2), .second, .val (.ref b1), .val (.long (own_mix (0 : Int64))), .second, .val (.ref b11), .val (.long (own_mix (-9223372036854775808 : Int64))), .second, .val (.ref b28), .val (.long (own_mix (p0 + (-7046029254386353131 : Int64)))), .second, .val (.long (own_mix ((p0 + (-7046029254386353131 : Int64)) + (-7046029254386353131 : Int64)))), .second, .val (.ref b60), .val (.long (own_mix ((p0 + (-7046029254386353131 : Int64)) + (-7046029254386353131 : Int64)))), .second, .val (.ref b91), .val (.long (own_mix (p2 + (-7046029254386353131 : Int64)))), .second, .val (.int (1 : Int32)), .val (.int (1 : Int32)), .unset] [(.int (1 : Int32)), (.int (1 : Int32))]))
    refine Goes.step (fun _ k => XS.goto X117.here hx rfl (pc0 := 158) (pc' := 162) rfl (hb hby at_158) (by decide) (by decide) k) ?_
    show Goes _ _ _ _ _ _ _ (T117.setTop (mkF m 162 #[.val (.long p0), .second, .val (.long p2), .second, .val (.ref b1), .val (.long (own_mix (0 : Int64))), .second, .val (.ref b11), .val (.long (own_mix (-9223372036854775808 : Int64))), .second, .val (.ref b28), .val (.long (own_mix (p0 + (-7046029254386353131 : Int64)))), .second, .val (.long (own_mix ((p0 + (-7046029254386353131 : Int64)) + (-7046029254386353131 : Int64)))), .second, .val (.ref b60), .val (.long (own_mix ((p0 + (-7046029254386353131 : Int64)) + (-7046029254386353131 : Int64)))), .second, .val (.ref b91), .val (.long (own_mix (p2 + (-7046029254386353131 : Int64)))), .second, .val (.int (1 : Int32)), .val (.int (1 : Int32)), .unset] [(.int (1 : Int32)), (.int (1 : Int32))]))
    refine Goes.step (fun _ k => XS.icmpNo X117.here hx rfl (hb hby at_162) rfl (teq (by decide : (1 : Int32) = (1 : Int32))).2 k) ?_
    show Goes _ _ _ _ _ _ _ (T117.setTop (mkF m 165 #[.val (.long p0), .second, .val (.long p2), .second, .val (.ref b1), .val (.long (own_mix (0 : Int64))), .second, .val (.ref b11), .val (.long (own_mix (-9223372036854775808 : Int64))), .second, .val (.ref b28), .val (.long (own_mix (p0 + (-7046029254386353131 : Int64)))), .second, .val (.long (own_mix ((p0 + (-7046029254386353131 : Int64)) + (-7046029254386353131 : Int64)))), .second, .val (.ref b60), .val (.long (own_mix ((p0 + (-7046029254386353131 : Int64)) + (-7046029254386353131 : Int64)))), .second, .val (.ref b91), .val (.long (own_mix (p2 + (-7046029254386353131 : Int64)))), .second, .val (.int (1 : Int32)), .val (.int (1 : Int32)), .unset] []))
    refine Goes.step (fun _ k => XS.iconst X117.here hx rfl (hb hby at_165) k) ?_
    show Goes _ _ _ _ _ _ _ (T117.setTop (mkF m 166 #[.val (.long p0), .second, .val (.long p2), .second, .val (.ref b1), .val (.long (own_mix (0 : Int64))), .second, .val (.ref b11), .val (.long (own_mix (-9223372036854775808 : Int64))), .second, .val (.ref b28), .val (.long (own_mix (p0 + (-7046029254386353131 : Int64)))), .second, .val (.long (own_mix ((p0 + (-7046029254386353131 : Int64)) + (-7046029254386353131 : Int64)))), .second, .val (.ref b60), .val (.long (own_mix ((p0 + (-7046029254386353131 : Int64)) + (-7046029254386353131 : Int64)))), .second, .val (.ref b91), .val (.long (own_mix (p2 + (-7046029254386353131 : Int64)))), .second, .val (.int (1 : Int32)), .val (.int (1 : Int32)), .unset] [(.int (1 : Int32))]))
    refine Goes.step (fun _ k => XS.goto X117.here hx rfl (pc0 := 166) (pc' := 170) rfl (hb hby at_166) (by decide) (by decide) k) ?_
    show Goes _ _ _ _ _ _ _ (T117.setTop (mkF m 170 #[.val (.long p0), .second, .val (.long p2), .second, .val (.ref b1), .val (.long (own_mix (0 : Int64))), .second, .val (.ref b11), .val (.long (own_mix (-9223372036854775808 : Int64))), .second, .val (.ref b28), .val (.long (own_mix (p0 + (-7046029254386353131 : Int64)))), .second, .val (.long (own_mix ((p0 + (-7046029254386353131 : Int64)) + (-7046029254386353131 : Int64)))), .second, .val (.ref b60), .val (.long (own_mix ((p0 + (-7046029254386353131 : Int64)) + (-7046029254386353131 : Int64)))), .second, .val (.ref b91), .val (.long (own_mix (p2 + (-7046029254386353131 : Int64)))), .second, .val (.int (1 : Int32)), .val (.int (1 : Int32)), .unset] [(.int (1 : Int32))]))
    refine Goes.step (fun _ k => XS.istore X117.here hx rfl (hb hby at_170) rfl (l' := #[.val (.long p0), .second, .val (.long p2), .second, .val (.ref b1), .val (.long (own_mix (0 : Int64))), .second, .val (.ref b11), .val (.long (own_mix (-9223372036854775808 : Int64))), .second, .val (.ref b28), .val (.long (own_mix (p0 + (-7046029254386353131 : Int64)))), .second, .val (.long (own_mix ((p0 + (-7046029254386353131 : Int64)) + (-7046029254386353131 : Int64)))), .second, .val (.ref b60), .val (.long (own_mix ((p0 + (-7046029254386353131 : Int64)) + (-7046029254386353131 : Int64)))), .second, .val (.ref b91), .val (.long (own_mix (p2 + (-7046029254386353131 : Int64)))), .second, .val (.int (1 : Int32)), .val (.int (1 : Int32)), .val (.int (1 : Int32))]) rfl k) ?_
    show Goes _ _ _ _ _ _ _ (T117.setTop (mkF m 172 #[.val (.long p0), .second, .val (.long p2), .second, .val (.ref b1), .val (.long (own_mix (0 : Int64))), .second, .val (.ref b11), .val (.long (own_mix (-9223372036854775808 : Int64))), .second, .val (.ref b28), .val (.long (own_mix (p0 + (-7046029254386353131 : Int64)))), .second, .val (.long (own_mix ((p0 + (-7046029254386353131 : Int64)) + (-7046029254386353131 : Int64)))), .second, .val (.ref b60), .val (.long (own_mix ((p0 + (-7046029254386353131 : Int64)) + (-7046029254386353131 : Int64)))), .second, .val (.ref b91), .val (.long (own_mix (p2 + (-7046029254386353131 : Int64)))), .second, .val (.int (1 : Int32)), .val (.int (1 : Int32)), .val (.int (1 : Int32))] []))
    refine Goes.step (fun _ k => XS.iload X117.here hx rfl (hb hby at_172) rfl  k) ?_
    show Goes _ _ _ _ _ _ _ (T117.setTop (mkF m 174 #[.val (.long p0), .second, .val (.long p2), .second, .val (.ref b1), .val (.long (own_mix (0 : Int64))), .second, .val (.ref b11), .val (.long (own_mix (-9223372036854775808 : Int64))), .second, .val (.ref b28), .val (.long (own_mix (p0 + (-7046029254386353131 : Int64)))), .second, .val (.long (own_mix ((p0 + (-7046029254386353131 : Int64)) + (-7046029254386353131 : Int64)))), .second, .val (.ref b60), .val (.long (own_mix ((p0 + (-7046029254386353131 : Int64)) + (-7046029254386353131 : Int64)))), .second, .val (.ref b91), .val (.long (own_mix (p2 + (-7046029254386353131 : Int64)))), .second, .val (.int (1 : Int32)), .val (.int (1 : Int32)), .val (.int (1 : Int32))] [(.int (1 : Int32))]))
    refine Goes.step (fun _ k => XS.ifNo X117.here hx rfl (hb hby at_174) rfl ((if0 _ _).trans (feq (by decide : ¬ ((1 : Int32) = (0 : Int32)))).1) k) ?_
    show Goes _ _ _ _ _ _ _ (T117.setTop (mkF m 177 #[.val (.long p0), .second, .val (.long p2), .second, .val (.ref b1), .val (.long (own_mix (0 : Int64))), .second, .val (.ref b11), .val (.long (own_mix (-9223372036854775808 : Int64))), .second, .val (.ref b28), .val (.long (own_mix (p0 + (-7046029254386353131 : Int64)))), .second, .val (.long (own_mix ((p0 + (-7046029254386353131 : Int64)) + (-7046029254386353131 : Int64)))), .second, .val (.ref b60), .val (.long (own_mix ((p0 + (-7046029254386353131 : Int64)) + (-7046029254386353131 : Int64)))), .second, .val (.ref b91), .val (.long (own_mix (p2 + (-7046029254386353131 : Int64)))), .second, .val (.int (1 : Int32)), .val (.int (1 : Int32)), .val (.int (1 : Int32))] []))
    refine Goes.step (fun _ k => XS.iload X117.here hx rfl (hb hby at_177) rfl  k) ?_
    show Goes _ _ _ _ _ _ _ (T117.setTop (mkF m 179 #[.val (.long p0), .second, .val (.long p2), .second, .val (.ref b1), .val (.long (own_mix (0 : Int64))), .second, .val (.ref b11), .val (.long (own_mix (-9223372036854775808 : Int64))), .second, .val (.ref b28), .val (.long (own_mix (p0 + (-7046029254386353131 : Int64)))), .second, .val (.long (own_mix ((p0 + (-7046029254386353131 : Int64)) + (-7046029254386353131 : Int64)))), .second, .val (.ref b60), .val (.long (own_mix ((p0 + (-7046029254386353131 : Int64)) + (-7046029254386353131 : Int64)))), .second, .val (.ref b91), .val (.long (own_mix (p2 + (-7046029254386353131 : Int64)))), .second, .val (.int (1 : Int32)), .val (.int (1 : Int32)), .val (.int (1 : Int32))] [(.int (1 : Int32))]))
    refine Goes.step (fun _ k => XS.ifNo X117.here hx rfl (hb hby at_179) rfl ((if0 _ _).trans (feq (by decide : ¬ ((1 : Int32) = (0 : Int32)))).1) k) ?_
    show Goes _ _ _ _ _ _ _ (T117.setTop (mkF m 182 #[.val (.long p0), .second, .val (.long p2), .second, .val (.ref b1), .val (.long (own_mix (0 : Int64))), .second, .val (.ref b11), .val (.long (own_mix (-9223372036854775808 : Int64))), .second, .val (.ref b28), .val (.long (own_mix (p0 + (-7046029254386353131 : Int64)))), .second, .val (.long (own_mix ((p0 + (-7046029254386353131 : Int64)) + (-7046029254386353131 : Int64)))), .second, .val (.ref b60), .val (.long (own_mix ((p0 + (-7046029254386353131 : Int64)) + (-7046029254386353131 : Int64)))), .second, .val (.ref b91), .val (.long (own_mix (p2 + (-7046029254386353131 : Int64)))), .second, .val (.int (1 : Int32)), .val (.int (1 : Int32)), .val (.int (1 : Int32))] []))
    refine Goes.step (fun _ k => XS.iload X117.here hx rfl (hb hby at_182) rfl  k) ?_
    show Goes _ _ _ _ _ _ _ (T117.setTop (mkF m 184 #[.val (.long p0), .second, .val (.long p2), .second, .val (.ref b1), .val (.long (own_mix (0 : Int64))), .second, .val (.ref b11), .val (.long (own_mix (-9223372036854775808 : Int64))), .second, .val (.ref b28), .val (.long (own_mix (p0 + (-7046029254386353131 : Int64)))), .second, .val (.long (own_mix ((p0 + (-7046029254386353131 : Int64)) + (-7046029254386353131 : Int64)))), .second, .val (.ref b60), .val (.long (own_mix ((p0 + (-7046029254386353131 : Int64)) + (-7046029254386353131 : Int64)))), .second, .val (.ref b91), .val (.long (own_mix (p2 + (-7046029254386353131 : Int64)))), .second, .val (.int (1 : Int32)), .val (.int (1 : Int32)), .val (.int (1 : Int32))] [(.int (1 : Int32))]))
    refine Goes.step (fun _ k => XS.ifNo X117.here hx rfl (hb hby at_184) rfl ((if0 _ _).trans (feq (by decide : ¬ ((1 : Int32) = (0 : Int32)))).1) k) ?_
    show Goes _ _ _ _ _ _ _ (T117.setTop (mkF m 187 #[.val (.long p0), .second, .val (.long p2), .second, .val (.ref b1), .val (.long (own_mix (0 : Int64))), .second, .val (.ref b11), .val (.long (own_mix (-9223372036854775808 : Int64))), .second, .val (.ref b28), .val (.long (own_mix (p0 + (-7046029254386353131 : Int64)))), .second, .val (.long (own_mix ((p0 + (-7046029254386353131 : Int64)) + (-7046029254386353131 : Int64)))), .second, .val (.ref b60), .val (.long (own_mix ((p0 + (-7046029254386353131 : Int64)) + (-7046029254386353131 : Int64)))), .second, .val (.ref b91), .val (.long (own_mix (p2 + (-7046029254386353131 : Int64)))), .second, .val (.int (1 : Int32)), .val (.int (1 : Int32)), .val (.int (1 : Int32))] []))
    refine Goes.step (fun _ k => XS.iconst X117.here hx rfl (hb hby at_187) k) ?_
    show Goes _ _ _ _ _ _ _ (T117.setTop (mkF m 188 #[.val (.long p0), .second, .val (.long p2), .second, .val (.ref b1), .val (.long (own_mix (0 : Int64))), .second, .val (.ref b11), .val (.long (own_mix (-9223372036854775808 : Int64))), .second, .val (.ref b28), .val (.long (own_mix (p0 + (-7046029254386353131 : Int64)))), .second, .val (.long (own_mix ((p0 + (-7046029254386353131 : Int64)) + (-7046029254386353131 : Int64)))), .second, .val (.ref b60), .val (.long (own_mix ((p0 + (-7046029254386353131 : Int64)) + (-7046029254386353131 : Int64)))), .second, .val (.ref b91), .val (.long (own_mix (p2 + (-7046029254386353131 : Int64)))), .second, .val (.int (1 : Int32)), .val (.int (1 : Int32)), .val (.int (1 : Int32))] [(.int (1 : Int32))]))
    refine Goes.step (fun _ k => XS.goto X117.here hx rfl (pc0 := 188) (pc' := 192) rfl (hb hby at_188) (by decide) (by decide) k) ?_
    show Goes _ _ _ _ _ _ _ (T117.setTop (mkF m 192 #[.val (.long p0), .second, .val (.long p2), .second, .val (.ref b1), .val (.long (own_mix (0 : Int64))), .second, .val (.ref b11), .val (.long (own_mix (-9223372036854775808 : Int64))), .second, .val (.ref b28), .val (.long (own_mix (p0 + (-7046029254386353131 : Int64)))), .second, .val (.long (own_mix ((p0 + (-7046029254386353131 : Int64)) + (-7046029254386353131 : Int64)))), .second, .val (.ref b60), .val (.long (own_mix ((p0 + (-7046029254386353131 : Int64)) + (-7046029254386353131 : Int64)))), .second, .val (.ref b91), .val (.long (own_mix (p2 + (-7046029254386353131 : Int64)))), .second, .val (.int (1 : Int32)), .val (.int (1 : Int32)), .val (.int (1 : Int32))] [(.int (1 : Int32))]))
    exact Goes.ret X117 hx (BodyLoose.notSynchronized Bd) Bd.returns rfl (Or.inl ⟨rfl, by simp, _, rfl⟩) (hb hby at_192) (by show Q0 Z p0 p2 h0 n0 (some (.int (1 : Int32))) T117.heap _; exact ⟨rfl, NA117⟩) (by decide) (by decide)
  · refine Goes.step (fun _ k => XS.ifYes X117.here hx rfl (pc0 := 141) (pc' := 148) rfl (hb hby at_141) rfl ((if0 _ _).trans (feq (fun q => c141_129 ((lw_eq _ _).mp q))).2) (by decide) (by decide) k) ?_
    show Goes _ _ _ _ _ _ _ (T117.setTop (mkF m 148 #[.val (.long p0), .second, .val (.long p2), .second, .val (.ref b1), .val (.long (own_mix (0 : Int64))), .second, .val (.ref b11), .val (.long (own_mix (-9223372036854775808 : Int64))), .second, .val (.ref b28), .val (.long (own_mix (p0 + (-7046029254386353131 : Int64)))), .second, .val (.long (own_mix ((p0 + (-7046029254386353131 : Int64)) + (-7046029254386353131 : Int64)))), .second, .val (.ref b60), .val (.long (own_mix ((p0 + (-7046029254386353131 : Int64)) + (-7046029254386353131 : Int64)))), .second, .val (.ref b91), .val (.long (own_mix (p2 + (-7046029254386353131 : Int64)))), .second, .val (.int (1 : Int32)), .val (.int (1 : Int32)), .unset] []))
    refine Goes.step (fun _ k => XS.iconst X117.here hx rfl (hb hby at_148) k) ?_
    show Goes _ _ _ _ _ _ _ (T117.setTop (mkF m 149 #[.val (.long p0), .second, .val (.long p2), .second, .val (.ref b1), .val (.long (own_mix (0 : Int64))), .second, .val (.ref b11), .val (.long (own_mix (-9223372036854775808 : Int64))), .second, .val (.ref b28), .val (.long (own_mix (p0 + (-7046029254386353131 : Int64)))), .second, .val (.long (own_mix ((p0 + (-7046029254386353131 : Int64)) + (-7046029254386353131 : Int64)))), .second, .val (.ref b60), .val (.long (own_mix ((p0 + (-7046029254386353131 : Int64)) + (-7046029254386353131 : Int64)))), .second, .val (.ref b91), .val (.long (own_mix (p2 + (-7046029254386353131 : Int64)))), .second, .val (.int (1 : Int32)), .val (.int (1 : Int32)), .unset] [(.int (0 : Int32))]))
    refine Goes.step (fun _ k => XS.lload X117.here hx rfl (hb hby at_149) rfl  k) ?_
    show Goes _ _ _ _ _ _ _ (T117.setTop (mkF m 151 #[.val (.long p0), .second, .val (.long p2), .second, .val (.ref b1), .val (.long (own_mix (0 : Int64))), .second, .val (.ref b11), .val (.long (own_mix (-9223372036854775808 : Int64))), .second, .val (.ref b28), .val (.long (own_mix (p0 + (-7046029254386353131 : Int64)))), .second, .val (.long (own_mix ((p0 + (-7046029254386353131 : Int64)) + (-7046029254386353131 : Int64)))), .second, .val (.ref b60), .val (.long (own_mix ((p0 + (-7046029254386353131 : Int64)) + (-7046029254386353131 : Int64)))), .second, .val (.ref b91), .val (.long (own_mix (p2 + (-7046029254386353131 : Int64)))), .second, .val (.int (1 : Int32)), .val (.int (1 : Int32)), .unset] [(.long (own_mix (p0 + (-7046029254386353131 : Int64)))), (.int (0 : Int32))]))
    refine Goes.step (fun _ k => XS.lload X117.here hx rfl (hb hby at_151) rfl  k) ?_
    show Goes _ _ _ _ _ _ _ (T117.setTop (mkF m 153 #[.val (.long p0), .second, .val (.long p2), .second, .val (.ref b1), .val (.long (own_mix (0 : Int64))), .second, .val (.ref b11), .val (.long (own_mix (-9223372036854775808 : Int64))), .second, .val (.ref b28), .val (.long (own_mix (p0 + (-7046029254386353131 : Int64)))), .second, .val (.long (own_mix ((p0 + (-7046029254386353131 : Int64)) + (-7046029254386353131 : Int64)))), .second, .val (.ref b60), .val (.long (own_mix ((p0 + (-7046029254386353131 : Int64)) + (-7046029254386353131 : Int64)))), .second, .val (.ref b91), .val (.long (own_mix (p2 + (-7046029254386353131 : Int64)))), .second, .val (.int (1 : Int32)), .val (.int (1 : Int32)), .unset] [(.long (own_mix (p2 + (-7046029254386353131 : Int64)))), (.long (own_mix (p0 + (-7046029254386353131 : Int64)))), (.int (0 : Int32))]))
    refine Goes.step (fun _ k => XS.lcmp X117.here hx rfl (hb hby at_153) rfl k) ?_
    show Goes _ _ _ _ _ _ _ (T117.setTop (mkF m 154 #[.val (.long p0), .second, .val (.long p2), .second, .val (.ref b1), .val (.long (own_mix (0 : Int64))), .second, .val (.ref b11), .val (.long (own_mix (-9223372036854775808 : Int64))), .second, .val (.ref b28), .val (.long (own_mix (p0 + (-7046029254386353131 : Int64)))), .second, .val (.long (own_mix ((p0 + (-7046029254386353131 : Int64)) + (-7046029254386353131 : Int64)))), .second, .val (.ref b60), .val (.long (own_mix ((p0 + (-7046029254386353131 : Int64)) + (-7046029254386353131 : Int64)))), .second, .val (.ref b91), .val (.long (own_mix (p2 + (-7046029254386353131 : Int64)))), .second, .val (.int (1 : Int32)), .val (.int (1 : Int32)), .unset] [(.int (lcmpW (own_mix (p0 + (-7046029254386353131 : Int64))) (own_mix (p2 + (-7046029254386353131 : Int64))))), (.int (0 : Int32))]))
    refine Goes.step (fun _ k => XS.ifYes X117.here hx rfl (pc0 := 154) (pc' := 161) rfl (hb hby at_154) rfl ((if0 _ _).trans (feq (fun q => (own_diff _ c141_129) ((lw_eq _ _).mp q))).2) (by decide) (by decide) k) ?_
    show Goes _ _ _ _ _ _ _ (T117.setTop (mkF m 161 #[.val (.long p0), .second, .val (.long p2), .second, .val (.ref b1), .val (.long (own_mix (0 : Int64))), .second, .val (.ref b11), .val (.long (own_mix (-9223372036854775808 : Int64))), .second, .val (.ref b28), .val (.long (own_mix (p0 + (-7046029254386353131 : Int64)))), .second, .val (.long (own_mix ((p0 + (-7046029254386353131 : Int64)) + (-7046029254386353131 : Int64)))), .second, .val (.ref b60), .val (.long (own_mix ((p0 + (-7046029254386353131 : Int64)) + (-7046029254386353131 : Int64)))), .second, .val (.ref b91), .val (.long (own_mix (p2 + (-7046029254386353131 : Int64)))), .second, .val (.int (1 : Int32)), .val (.int (1 : Int32)), .unset] [(.int (0 : Int32))]))
    refine Goes.step (fun _ k => XS.iconst X117.here hx rfl (hb hby at_161) k) ?_
    show Goes _ _ _ _ _ _ _ (T117.setTop (mkF m 162 #[.val (.long p0), .second, .val (.long p2), .second, .val (.ref b1), .val (.long (own_mix (0 : Int64))), .second, .val (.ref b11), .val (.long (own_mix (-9223372036854775808 : Int64))), .second, .val (.ref b28), .val (.long (own_mix (p0 + (-7046029254386353131 : Int64)))), .second, .val (.long (own_mix ((p0 + (-7046029254386353131 : Int64)) + (-7046029254386353131 : Int64)))), .second, .val (.ref b60), .val (.long (own_mix ((p0 + (-7046029254386353131 : Int64)) + (-7046029254386353131 : Int64)))), .second, .val (.ref b91), .val (.long (own_mix (p2 + (-7046029254386353131 : Int64)))), .second, .val (.int (1 : Int32)), .val (.int (1 : Int32)), .unset] [(.int (0 : Int32)), (.int (0 : Int32))]))
    refine Goes.step (fun _ k => XS.icmpNo X117.here hx rfl (hb hby at_162) rfl (teq (by decide : (0 : Int32) = (0 : Int32))).2 k) ?_
    show Goes _ _ _ _ _ _ _ (T117.setTop (mkF m 165 #[.val (.long p0), .second, .val (.long p2), .second, .val (.ref b1), .val (.long (own_mix (0 : Int64))), .second, .val (.ref b11), .val (.long (own_mix (-9223372036854775808 : Int64))), .second, .val (.ref b28), .val (.long (own_mix (p0 + (-7046029254386353131 : Int64)))), .second, .val (.long (own_mix ((p0 + (-7046029254386353131 : Int64)) + (-7046029254386353131 : Int64)))), .second, .val (.ref b60), .val (.long (own_mix ((p0 + (-7046029254386353131 : Int64)) + (-7046029254386353131 : Int64)))), .second, .val (.ref b91), .val (.long (own_mix (p2 + (-7046029254386353131 : Int64)))), .second, .val (.int (1 : Int32)), .val (.int (1 : Int32)), .unset] []))
    refine Goes.step (fun _ k => XS.iconst X117.here hx rfl (hb hby at_165) k) ?_
    show Goes _ _ _ _ _ _ _ (T117.setTop (mkF m 166 #[.val (.long p0), .second, .val (.long p2), .second, .val (.ref b1), .val (.long (own_mix (0 : Int64))), .second, .val (.ref b11), .val (.long (own_mix (-9223372036854775808 : Int64))), .second, .val (.ref b28), .val (.long (own_mix (p0 + (-7046029254386353131 : Int64)))), .second, .val (.long (own_mix ((p0 + (-7046029254386353131 : Int64)) + (-7046029254386353131 : Int64)))), .second, .val (.ref b60), .val (.long (own_mix ((p0 + (-7046029254386353131 : Int64)) + (-7046029254386353131 : Int64)))), .second, .val (.ref b91), .val (.long (own_mix (p2 + (-7046029254386353131 : Int64)))), .second, .val (.int (1 : Int32)), .val (.int (1 : Int32)), .unset] [(.int (1 : Int32))]))
    refine Goes.step (fun _ k => XS.goto X117.here hx rfl (pc0 := 166) (pc' := 170) rfl (hb hby at_166) (by decide) (by decide) k) ?_
    show Goes _ _ _ _ _ _ _ (T117.setTop (mkF m 170 #[.val (.long p0), .second, .val (.long p2), .second, .val (.ref b1), .val (.long (own_mix (0 : Int64))), .second, .val (.ref b11), .val (.long (own_mix (-9223372036854775808 : Int64))), .second, .val (.ref b28), .val (.long (own_mix (p0 + (-7046029254386353131 : Int64)))), .second, .val (.long (own_mix ((p0 + (-7046029254386353131 : Int64)) + (-7046029254386353131 : Int64)))), .second, .val (.ref b60), .val (.long (own_mix ((p0 + (-7046029254386353131 : Int64)) + (-7046029254386353131 : Int64)))), .second, .val (.ref b91), .val (.long (own_mix (p2 + (-7046029254386353131 : Int64)))), .second, .val (.int (1 : Int32)), .val (.int (1 : Int32)), .unset] [(.int (1 : Int32))]))
    refine Goes.step (fun _ k => XS.istore X117.here hx rfl (hb hby at_170) rfl (l' := #[.val (.long p0), .second, .val (.long p2), .second, .val (.ref b1), .val (.long (own_mix (0 : Int64))), .second, .val (.ref b11), .val (.long (own_mix (-9223372036854775808 : Int64))), .second, .val (.ref b28), .val (.long (own_mix (p0 + (-7046029254386353131 : Int64)))), .second, .val (.long (own_mix ((p0 + (-7046029254386353131 : Int64)) + (-7046029254386353131 : Int64)))), .second, .val (.ref b60), .val (.long (own_mix ((p0 + (-7046029254386353131 : Int64)) + (-7046029254386353131 : Int64)))), .second, .val (.ref b91), .val (.long (own_mix (p2 + (-7046029254386353131 : Int64)))), .second, .val (.int (1 : Int32)), .val (.int (1 : Int32)), .val (.int (1 : Int32))]) rfl k) ?_
    show Goes _ _ _ _ _ _ _ (T117.setTop (mkF m 172 #[.val (.long p0), .second, .val (.long p2), .second, .val (.ref b1), .val (.long (own_mix (0 : Int64))), .second, .val (.ref b11), .val (.long (own_mix (-9223372036854775808 : Int64))), .second, .val (.ref b28), .val (.long (own_mix (p0 + (-7046029254386353131 : Int64)))), .second, .val (.long (own_mix ((p0 + (-7046029254386353131 : Int64)) + (-7046029254386353131 : Int64)))), .second, .val (.ref b60), .val (.long (own_mix ((p0 + (-7046029254386353131 : Int64)) + (-7046029254386353131 : Int64)))), .second, .val (.ref b91), .val (.long (own_mix (p2 + (-7046029254386353131 : Int64)))), .second, .val (.int (1 : Int32)), .val (.int (1 : Int32)), .val (.int (1 : Int32))] []))
    refine Goes.step (fun _ k => XS.iload X117.here hx rfl (hb hby at_172) rfl  k) ?_
    show Goes _ _ _ _ _ _ _ (T117.setTop (mkF m 174 #[.val (.long p0), .second, .val (.long p2), .second, .val (.ref b1), .val (.long (own_mix (0 : Int64))), .second, .val (.ref b11), .val (.long (own_mix (-9223372036854775808 : Int64))), .second, .val (.ref b28), .val (.long (own_mix (p0 + (-7046029254386353131 : Int64)))), .second, .val (.long (own_mix ((p0 + (-7046029254386353131 : Int64)) + (-7046029254386353131 : Int64)))), .second, .val (.ref b60), .val (.long (own_mix ((p0 + (-7046029254386353131 : Int64)) + (-7046029254386353131 : Int64)))), .second, .val (.ref b91), .val (.long (own_mix (p2 + (-7046029254386353131 : Int64)))), .second, .val (.int (1 : Int32)), .val (.int (1 : Int32)), .val (.int (1 : Int32))] [(.int (1 : Int32))]))
    refine Goes.step (fun _ k => XS.ifNo X117.here hx rfl (hb hby at_174) rfl ((if0 _ _).trans (feq (by decide : ¬ ((1 : Int32) = (0 : Int32)))).1) k) ?_
    show Goes _ _ _ _ _ _ _ (T117.setTop (mkF m 177 #[.val (.long p0), .second, .val (.long p2), .second, .val (.ref b1), .val (.long (own_mix (0 : Int64))), .second, .val (.ref b11), .val (.long (own_mix (-9223372036854775808 : Int64))), .second, .val (.ref b28), .val (.long (own_mix (p0 + (-7046029254386353131 : Int64)))), .second, .val (.long (own_mix ((p0 + (-7046029254386353131 : Int64)) + (-7046029254386353131 : Int64)))), .second, .val (.ref b60), .val (.long (own_mix ((p0 + (-7046029254386353131 : Int64)) + (-7046029254386353131 : Int64)))), .second, .val (.ref b91), .val (.long (own_mix (p2 + (-7046029254386353131 : Int64)))), .second, .val (.int (1 : Int32)), .val (.int (1 : Int32)), .val (.int (1 : Int32))] []))
    refine Goes.step (fun _ k => XS.iload X117.here hx rfl (hb hby at_177) rfl  k) ?_
    show Goes _ _ _ _ _ _ _ (T117.setTop (mkF m 179 #[.val (.long p0), .second, .val (.long p2), .second, .val (.ref b1), .val (.long (own_mix (0 : Int64))), .second, .val (.ref b11), .val (.long (own_mix (-9223372036854775808 : Int64))), .second, .val (.ref b28), .val (.long (own_mix (p0 + (-7046029254386353131 : Int64)))), .second, .val (.long (own_mix ((p0 + (-7046029254386353131 : Int64)) + (-7046029254386353131 : Int64)))), .second, .val (.ref b60), .val (.long (own_mix ((p0 + (-7046029254386353131 : Int64)) + (-7046029254386353131 : Int64)))), .second, .val (.ref b91), .val (.long (own_mix (p2 + (-7046029254386353131 : Int64)))), .second, .val (.int (1 : Int32)), .val (.int (1 : Int32)), .val (.int (1 : Int32))] [(.int (1 : Int32))]))
    refine Goes.step (fun _ k => XS.ifNo X117.here hx rfl (hb hby at_179) rfl ((if0 _ _).trans (feq (by decide : ¬ ((1 : Int32) = (0 : Int32)))).1) k) ?_
    show Goes _ _ _ _ _ _ _ (T117.setTop (mkF m 182 #[.val (.long p0), .second, .val (.long p2), .second, .val (.ref b1), .val (.long (own_mix (0 : Int64))), .second, .val (.ref b11), .val (.long (own_mix (-9223372036854775808 : Int64))), .second, .val (.ref b28), .val (.long (own_mix (p0 + (-7046029254386353131 : Int64)))), .second, .val (.long (own_mix ((p0 + (-7046029254386353131 : Int64)) + (-7046029254386353131 : Int64)))), .second, .val (.ref b60), .val (.long (own_mix ((p0 + (-7046029254386353131 : Int64)) + (-7046029254386353131 : Int64)))), .second, .val (.ref b91), .val (.long (own_mix (p2 + (-7046029254386353131 : Int64)))), .second, .val (.int (1 : Int32)), .val (.int (1 : Int32)), .val (.int (1 : Int32))] []))
    refine Goes.step (fun _ k => XS.iload X117.here hx rfl (hb hby at_182) rfl  k) ?_
    show Goes _ _ _ _ _ _ _ (T117.setTop (mkF m 184 #[.val (.long p0), .second, .val (.long p2), .second, .val (.ref b1), .val (.long (own_mix (0 : Int64))), .second, .val (.ref b11), .val (.long (own_mix (-9223372036854775808 : Int64))), .second, .val (.ref b28), .val (.long (own_mix (p0 + (-7046029254386353131 : Int64)))), .second, .val (.long (own_mix ((p0 + (-7046029254386353131 : Int64)) + (-7046029254386353131 : Int64)))), .second, .val (.ref b60), .val (.long (own_mix ((p0 + (-7046029254386353131 : Int64)) + (-7046029254386353131 : Int64)))), .second, .val (.ref b91), .val (.long (own_mix (p2 + (-7046029254386353131 : Int64)))), .second, .val (.int (1 : Int32)), .val (.int (1 : Int32)), .val (.int (1 : Int32))] [(.int (1 : Int32))]))
    refine Goes.step (fun _ k => XS.ifNo X117.here hx rfl (hb hby at_184) rfl ((if0 _ _).trans (feq (by decide : ¬ ((1 : Int32) = (0 : Int32)))).1) k) ?_
    show Goes _ _ _ _ _ _ _ (T117.setTop (mkF m 187 #[.val (.long p0), .second, .val (.long p2), .second, .val (.ref b1), .val (.long (own_mix (0 : Int64))), .second, .val (.ref b11), .val (.long (own_mix (-9223372036854775808 : Int64))), .second, .val (.ref b28), .val (.long (own_mix (p0 + (-7046029254386353131 : Int64)))), .second, .val (.long (own_mix ((p0 + (-7046029254386353131 : Int64)) + (-7046029254386353131 : Int64)))), .second, .val (.ref b60), .val (.long (own_mix ((p0 + (-7046029254386353131 : Int64)) + (-7046029254386353131 : Int64)))), .second, .val (.ref b91), .val (.long (own_mix (p2 + (-7046029254386353131 : Int64)))), .second, .val (.int (1 : Int32)), .val (.int (1 : Int32)), .val (.int (1 : Int32))] []))
    refine Goes.step (fun _ k => XS.iconst X117.here hx rfl (hb hby at_187) k) ?_
    show Goes _ _ _ _ _ _ _ (T117.setTop (mkF m 188 #[.val (.long p0), .second, .val (.long p2), .second, .val (.ref b1), .val (.long (own_mix (0 : Int64))), .second, .val (.ref b11), .val (.long (own_mix (-9223372036854775808 : Int64))), .second, .val (.ref b28), .val (.long (own_mix (p0 + (-7046029254386353131 : Int64)))), .second, .val (.long (own_mix ((p0 + (-7046029254386353131 : Int64)) + (-7046029254386353131 : Int64)))), .second, .val (.ref b60), .val (.long (own_mix ((p0 + (-7046029254386353131 : Int64)) + (-7046029254386353131 : Int64)))), .second, .val (.ref b91), .val (.long (own_mix (p2 + (-7046029254386353131 : Int64)))), .second, .val (.int (1 : Int32)), .val (.int (1 : Int32)), .val (.int (1 : Int32))] [(.int (1 : Int32))]))
    refine Goes.step (fun _ k => XS.goto X117.here hx rfl (pc0 := 188) (pc' := 192) rfl (hb hby at_188) (by decide) (by decide) k) ?_
    show Goes _ _ _ _ _ _ _ (T117.setTop (mkF m 192 #[.val (.long p0), .second, .val (.long p2), .second, .val (.ref b1), .val (.long (own_mix (0 : Int64))), .second, .val (.ref b11), .val (.long (own_mix (-9223372036854775808 : Int64))), .second, .val (.ref b28), .val (.long (own_mix (p0 + (-7046029254386353131 : Int64)))), .second, .val (.long (own_mix ((p0 + (-7046029254386353131 : Int64)) + (-7046029254386353131 : Int64)))), .second, .val (.ref b60), .val (.long (own_mix ((p0 + (-7046029254386353131 : Int64)) + (-7046029254386353131 : Int64)))), .second, .val (.ref b91), .val (.long (own_mix (p2 + (-7046029254386353131 : Int64)))), .second, .val (.int (1 : Int32)), .val (.int (1 : Int32)), .val (.int (1 : Int32))] [(.int (1 : Int32))]))
    exact Goes.ret X117 hx (BodyLoose.notSynchronized Bd) Bd.returns rfl (Or.inl ⟨rfl, by simp, _, rfl⟩) (hb hby at_192) (by show Q0 Z p0 p2 h0 n0 (some (.int (1 : Int32))) T117.heap _; exact ⟨rfl, NA117⟩) (by decide) (by decide)
set_option maxRecDepth 65536 in
set_option maxHeartbeats 40000000 in
theorem comes_1 {Post : Tables → Env → Array Value → State → Outcome → State → Prop} (hpost : ∀ tb e args s v u, (limb_1_1.after args s (.returned v) u = true ∧ limb_1_2.after args s (.returned v) u = true ∧ True) → FrameEnd s (.returned v) u (Jvm.fieldLocs frame_1_writes args s ++ Jvm.arrayLocs frame_1_arrays args s ++ Jvm.staticLocs frame_1_statics s) 24 128 → Post tb e args s (.returned v) u) :
    ArmFor flags0 classFile x code maxLocals ret World_1 tables_1 room_1 Calls_1 rest_1 Pre_1 Post := by
  intro l hfl _ _ p e ha hc hk s m args below hf hA hF happ hP
  obtain ⟨hcalls, hrest, hpre⟩ := hP
  obtain ⟨-, -, -, hnamed, -, -, -, hat⟩ := (Spec.applies_iff hf).mp happ
  obtain ⟨hg, hn⟩ := and_e (Cond.before_iff.mp (show (Jvm.Cond.and given_1 narrow_1).before args s = true from hpre))
  obtain ⟨gg1, gg2⟩ := and_e hg
  obtain ⟨gg3, gg4⟩ := and_e gg2
  obtain ⟨w0, w1, rfl⟩ : ∃ w0 w1 : Value, args = #[w0, w1] := by
    have hs : args.size = 2 := by simpa [Cond.value, given_1] using gg1
    obtain ⟨L⟩ := args
    match L, hs with
    | [w0, w1], _ => exact ⟨w0, w1, rfl⟩
  have hw := fun d (hd : d ∈ tables_1) => atoms_spec (ws := Jvm.Cond.code x code maxLocals ret :: tables_1) hat d (List.mem_cons_of_mem _ hd)
  have hfit : Fit s := fun {y c} hc i hi => by
    obtain ⟨ha, rfl⟩ := Array.getElem?_eq_some_iff.mp hc
    have q := List.all_eq_true.mp ((Array.all_eq_true_iff_forall_mem.mp hF) _ (Array.getElem_mem ha)) i (List.mem_range.mpr hi)
    simpa [Array.getElem?_eq_getElem hi] using q
  obtain ⟨i0, ei0⟩ := isL_v gg3
  obtain rfl : w0 = (.long i0) := Option.some.inj ei0
  obtain ⟨i1, ei1⟩ := isL_v gg4
  obtain rfl : w1 = (.long i1) := Option.some.inj ei1
  obtain ⟨n, o, h1, h2, h3, _, L, rfl, ⟨rfl, N⟩, hq⟩ := rm0 l s _ hw tables_1 i0 i1 s.heap s.heap.size (Nat.le_refl _)  p e ha hc hk s m _ below hf ((Spec.applies_iff_loose hf).mp happ).1 ⟨rfl, State.Warmed39.refl s, rfl⟩ trivial
  refine ⟨n, _, h1, h2, h3, hpost _ _ _ _ _ _ ⟨Cond.after_iff.mpr rfl, Cond.after_iff.mpr (eq_i res_at (Term.int_eval (1)) rfl), trivial⟩ ⟨hq.1, hq.2.1, (hq.2.2.sift fun y hy => Or.inr (N y hy)).mono (by decide) (by decide)⟩⟩
theorem main_1_1 : Claimed_1_1 := comes_1 fun _ _ _ _ _ _ h hF => ⟨h.1, hF⟩
theorem main_1_2 : Claimed_1_2 := comes_1 fun _ _ _ _ _ _ h hF => ⟨h.2.1, hF⟩
end Jvm.Pilot.@@N@@
namespace Jvm.Pilot.@@N@@
open Jvm Jvm.ClassFile Sem Op Lib Jvm.Free Jvm.Stand Jvm.Pilot.@@N@@.Jvm.D
/-! MADE BY PROGRAM (witnessworld.py) out of the Statement's table words and the real class files: 9 classes; the members and pool entries that the words name. The judged class is class 1, her method 1. -/
namespace start1
open Jvm.ClassFile
def u (s : String) : CpInfo := .utf8 (stringToUtf16 s)
/-- a pool by its gaps: so many unusable entries, then the entry; so many at the end -/
def gap : Nat → List CpInfo → List CpInfo
  | 0, r => r
  | n + 1, r => .unusable :: gap n r
def poolList (es : List (Nat × CpInfo)) (last : Nat) : List CpInfo := es.foldr (fun e r => gap e.1 (e.2 :: r)) (gap last [])
def pool (es : List (Nat × CpInfo)) (last : Nat) : Array CpInfo := ⟨poolList es last⟩
def fileOf (pool : Array CpInfo) (this : Nat) (attrs : Array Attribute := #[]) (ms : Array MethodInfo := #[]) (fl : Nat := 33) (sup : Nat := 0) (ifs : Array Nat := #[]) (fds : Array FieldInfo := #[]) : ClassFile where
  minorVersion := 0
  majorVersion := 65
  constantPool := pool
  accessFlags := fl
  thisClass := this
  superClass := sup
  interfaces := ifs
  fields := fds
  methods := ms
  attributes := attrs
def plain (name : String) (sup : Option ClassId) : Class where
  name := name
  kind := .ordinary
  loader := none
  accessFlags := 33
  super := sup
  interfaces := #[]
  cf := none
  fields := #[]
  methods := #[]
  instanceTypes := #[]
  staticTypes := #[]
  resolved := #[]
  callSites := []
  init := .initialized
  statics := none
  mirror := none

def pool0 : Array CpInfo := pool [(5, u "<init>"), (0, u "()V"), (1, .class_ 10), (1, u "java/lang/Object")] 113

def k0c0 : Code := { maxStack := 0, maxLocals := 1, code := object_method_1_code, exceptionTable := #[], attributes := #[] }
def k0m0 : Method := { name := "<init>", desc := "()V", sig := { parameters := [], returnType := none }, accessFlags := 1, code := some k0c0 }
/-- java/lang/Object -/
def k0 : Class := { plain "java/lang/Object" none with
  accessFlags := 33
  interfaces := #[]
  cf := some (fileOf pool0 8 #[] #[{ accessFlags := 1, nameIndex := 5, descriptorIndex := 6, attributes := #[] }] 33 0 #[] #[])
  fields := #[]
  methods := #[k0m0]
  instanceTypes := #[]
  staticTypes := #[]
  resolved := Array.replicate 124 none
  statics := none }

def pool1 : Array CpInfo := pool [(2, .class_ 4), (1, u "java/lang/Object"), (0, u "<init>"), (0, u "()V"), (0, .class_ 8), (0, u "com/example/hailwise/hailwise/SeededRandom"), (0, .class_ 10), (0, u "com/example/hailwise/hailwise/SeededRandomNextLongPinLaw"), (0, .long 7046029254386353131), (1, .methodref 7 14), (0, .nameAndType 5 15), (0, u "(J)V"), (0, .methodref 7 17), (0, .nameAndType 18 19), (0, u "nextLong"), (0, u "()J"), (0, .long 16269401291241128939), (1, .long 11400714819323198485), (1, .long 2720858781877447050), (1, u "GAMMA"), (0, u "J"), (3, u "law"), (0, u "(JJ)Z")] 3

def k1m0 : Method := { name := "<init>", desc := "()V", sig := { parameters := [], returnType := none }, accessFlags := 1, code := none }
def k1c1 : Code := { maxStack := 6, maxLocals := 24, code := code, exceptionTable := #[], attributes := #[] }
def k1m1 : Method := { name := "law", desc := "(JJ)Z", sig := { parameters := [.long, .long], returnType := some .boolean }, accessFlags := 9, code := some k1c1 }
/-- com/example/hailwise/hailwise/SeededRandomNextLongPinLaw -/
def k1 : Class := { plain "com/example/hailwise/hailwise/SeededRandomNextLongPinLaw" (some 0) with
  accessFlags := 49
  interfaces := #[]
  cf := some (fileOf pool1 9 #[] #[{ accessFlags := 1, nameIndex := 5, descriptorIndex := 6, attributes := #[] }, { accessFlags := 9, nameIndex := 31, descriptorIndex := 32, attributes := #[] }] 49 2 #[] #[{ accessFlags := 26, nameIndex := 26, descriptorIndex := 27, attributes := #[] }])
  fields := #[{ name := "GAMMA", type := .long, accessFlags := 26, slot := 0, constantValue := 0 }]
  methods := #[k1m0, k1m1]
  instanceTypes := #[]
  staticTypes := #[.long]
  resolved := Array.replicate 36 none
  statics := none }

def pool2 : Array CpInfo := pool [(1, .methodref 2 3), (0, .class_ 4), (0, .nameAndType 5 6), (0, u "java/lang/Object"), (0, u "<init>"), (0, u "()V"), (0, .fieldref 8 9), (0, .class_ 10), (0, .nameAndType 11 12), (0, u "com/example/hailwise/hailwise/SeededRandom"), (0, u "state"), (0, u "J"), (0, .long 11400714819323198485), (1, .long 13787848793156543929), (1, .long 10723151780598845931), (3, u "nextLong"), (0, u "()J"), (23, u "LONGEST_EXPONENTIAL"), (0, u "D"), (0, u "GOLDEN_GAMMA"), (1, u "TWO_TO_MINUS_53"), (0, u "(J)V")] 8

def k2c0 : Code := { maxStack := 3, maxLocals := 3, code := prog_31_method_1_code, exceptionTable := #[], attributes := #[] }
def k2m0 : Method := { name := "<init>", desc := "(J)V", sig := { parameters := [.long], returnType := none }, accessFlags := 0, code := some k2c0 }
def k2c1 : Code := { maxStack := 5, maxLocals := 3, code := prog_31_method_2_code, exceptionTable := #[], attributes := #[] }
def k2m1 : Method := { name := "nextLong", desc := "()J", sig := { parameters := [], returnType := some .long }, accessFlags := 0, code := some k2c1 }
/-- com/example/hailwise/hailwise/SeededRandom -/
def k2 : Class := { plain "com/example/hailwise/hailwise/SeededRandom" (some 0) with
  accessFlags := 48
  interfaces := #[]
  cf := some (fileOf pool2 8 #[] #[{ accessFlags := 0, nameIndex := 5, descriptorIndex := 51, attributes := #[] }, { accessFlags := 0, nameIndex := 21, descriptorIndex := 22, attributes := #[] }] 48 2 #[] #[{ accessFlags := 24, nameIndex := 46, descriptorIndex := 47, attributes := #[] }, { accessFlags := 26, nameIndex := 48, descriptorIndex := 12, attributes := #[] }, { accessFlags := 26, nameIndex := 50, descriptorIndex := 47, attributes := #[] }, { accessFlags := 2, nameIndex := 11, descriptorIndex := 12, attributes := #[] }])
  fields := #[{ name := "LONGEST_EXPONENTIAL", type := .double, accessFlags := 24, slot := 0, constantValue := 0 }, { name := "GOLDEN_GAMMA", type := .long, accessFlags := 26, slot := 1, constantValue := 0 }, { name := "TWO_TO_MINUS_53", type := .double, accessFlags := 26, slot := 2, constantValue := 0 }, { name := "state", type := .long, accessFlags := 2, slot := 0, constantValue := 0 }]
  methods := #[k2m0, k2m1]
  instanceTypes := #[.long]
  staticTypes := #[.double, .long, .double]
  resolved := Array.replicate 60 none
  statics := none }

def pool3 : Array CpInfo := pool [(1, u "java/lang/Cloneable"), (0, .class_ 1), (0, u "java/lang/Object"), (0, .class_ 3)] 3

/-- java/lang/Cloneable -/
def k3 : Class := { plain "java/lang/Cloneable" (some 0) with
  accessFlags := 1537
  interfaces := #[]
  cf := some (fileOf pool3 2 #[] #[] 1537 4 #[] #[])
  fields := #[]
  methods := #[]
  instanceTypes := #[]
  staticTypes := #[]
  resolved := Array.replicate 8 none
  statics := none }

def pool4 : Array CpInfo := pool [(1, u "java/io/Serializable"), (0, .class_ 1), (0, u "java/lang/Object"), (0, .class_ 3)] 3

/-- java/io/Serializable -/
def k4 : Class := { plain "java/io/Serializable" (some 0) with
  accessFlags := 1537
  interfaces := #[]
  cf := some (fileOf pool4 2 #[] #[] 1537 4 #[] #[])
  fields := #[]
  methods := #[]
  instanceTypes := #[]
  staticTypes := #[]
  resolved := Array.replicate 8 none
  statics := none }

/-- the primitive byte -/
def k5 : Class := { plain "byte" none with kind := .primitive 'B', accessFlags := 0x411 }
/-- [B -/
def k6 : Class := { plain "[B" (some 0) with kind := .array 5 .byte, interfaces := #[3, 4], accessFlags := 1041 }

/-- the primitive int -/
def k7 : Class := { plain "int" none with kind := .primitive 'I', accessFlags := 0x411 }
/-- [I -/
def k8 : Class := { plain "[I" (some 0) with kind := .array 7 .int, interfaces := #[3, 4], accessFlags := 1041 }

def heap : Heap := #[]
def classes : Array Class := #[k0, k1, k2, k3, k4, k5, k6, k7, k8]
def interned : List (Array UInt16 × Addr) := []
def slotsUsed : Nat := 0
def theMethod : MethodId := ⟨1, 1⟩
def args0 : Array Value := #[.long 5, .long 5]
def aboutOver (below : List Frame) : State where
  vm := { classes := classes, interned := interned.toArray }
  heap := heap
  slotsUsed := slotsUsed
  threads := #[{ frames := .invoking theMethod args0 :: below }]
def below0 : List Frame := [.native { method := ⟨0, 0⟩, args := #[] }]
def about1 : State := aboutOver below0
def p0 : Program := .bare "" "" ""
def e0 : Env := launch0.env 0 0 0
theorem w_frames : about1.frames = Frame.invoking theMethod args0 :: below0 := rfl
set_option maxRecDepth 65536 in
theorem w_args : argsFit about1.vm theMethod args0 = true := by decide +kernel
set_option maxRecDepth 65536 in
theorem w_heap : heapFits about1 = true := by decide +kernel
set_option maxRecDepth 65536 in
theorem w_runnable : about1.curStatus? = some .runnable := by decide +kernel
set_option maxRecDepth 65536 in
theorem w_alone : about1.alone = true := by decide +kernel
set_option maxRecDepth 65536 in
theorem w_named : about1.methodNamed? x = some theMethod := by decide +kernel
set_option maxRecDepth 65536 in
theorem w_hears : about1.hears theMethod below0 = true := by decide +kernel
set_option maxRecDepth 65536 in
theorem w_ripe : about1.ripe theMethod args0 below0 = true := by decide +kernel
theorem w_running : about1.status = .running := rfl
set_option maxRecDepth 65536 in
theorem w_room : about1.hasRoom e0.platform room_1 = true :=
  launch0.hasRoom_least _ room_1 (by decide +kernel) (by decide +kernel) (by decide +kernel) (by decide +kernel) (by decide +kernel) (by decide +kernel)
theorem allAtoms_all (ts : List Jvm.Cond) (a : Array Jvm.Value) (st : Jvm.State) : (allAtoms ts).before a st = ts.all (fun c => c.before a st) := by
  induction ts with
  | nil => rfl
  | cons c t ih =>
    show (Jvm.Cond.and c (allAtoms t)).before a st = _
    rw [Jvm.Cond.before_and, ih, List.all_cons]
def words1 : List Jvm.Cond := Jvm.Cond.code x code maxLocals ret :: tables_1
/-- a 'code' word, met by the world's own term for the bytes: nothing is compared byte by byte -/
theorem code_word {y : MethodName} {bytes : ByteArray} {mx : Nat} {rt : Option FieldType} {a : Array Value} {s : State} {m : MethodId} {meth : Method} {c : Code} (h1 : s.methodNamed? y = some m) (h2 : s.vm.method? m = some meth) (h3 : meth.code = some c) (h4 : c.code = bytes)
    (h5 : (c.maxLocals == mx && c.exceptionTable.isEmpty && decide (c.maxStack ≤ mostOperands) && decide (meth.sig.returnType = rt) && !meth.locks && decide (parseMethodDescriptor y.desc = some meth.sig)) = true) : (Jvm.Cond.code y bytes mx rt).before a s = true := by
  simp only [Bool.and_eq_true, beq_iff_eq, Bool.not_eq_true', decide_eq_true_eq] at h5
  obtain ⟨⟨⟨⟨⟨g1, g2⟩, g3⟩, g4⟩, g5⟩, g6⟩ := h5
  simp [Cond.before, Cond.holds, Cond.value, h1, h2, h3, h4, g1, g2, g3, g4, g5, g6]
def isCode : Jvm.Cond → Bool
  | .code _ _ _ _ => true
  | _ => false
theorem all_split {L : List Jvm.Cond} {P : Jvm.Cond → Bool} (h1 : L.all (fun c => isCode c || P c) = true) (h2 : ∀ c ∈ L.filter isCode, P c = true) : L.all P = true := by
  refine List.all_eq_true.mpr fun c hc => ?_
  have h := List.all_eq_true.mp h1 c hc
  rcases Bool.eq_false_or_eq_true (isCode c) with hi | hi
  · exact h2 c (List.mem_filter.mpr ⟨hc, hi⟩)
  · simpa [hi] using h
set_option maxRecDepth 65536 in
theorem w_c0 : (Jvm.Cond.code x code maxLocals ret).before args0 about1 = true := code_word (m := ⟨1, 1⟩) (meth := k1m1) (c := k1c1) (by decide +kernel) rfl rfl rfl (by decide +kernel)
set_option maxRecDepth 65536 in
theorem w_c1 : (Jvm.Cond.code ({ cls := "com/example/hailwise/hailwise/SeededRandom", name := "<init>", desc := "(J)V" } : Jvm.MethodName) prog_31_method_1_code (3 : Nat) (Option.none : Option Jvm.ClassFile.FieldType)).before args0 about1 = true := code_word (m := ⟨2, 0⟩) (meth := k2m0) (c := k2c0) (by decide +kernel) rfl rfl rfl (by decide +kernel)
set_option maxRecDepth 65536 in
theorem w_c2 : (Jvm.Cond.code ({ cls := "java/lang/Object", name := "<init>", desc := "()V" } : Jvm.MethodName) object_method_1_code (1 : Nat) (Option.none : Option Jvm.ClassFile.FieldType)).before args0 about1 = true := code_word (m := ⟨0, 0⟩) (meth := k0m0) (c := k0c0) (by decide +kernel) rfl rfl rfl (by decide +kernel)
set_option maxRecDepth 65536 in
theorem w_c3 : (Jvm.Cond.code ({ cls := "com/example/hailwise/hailwise/SeededRandom", name := "nextLong", desc := "()J" } : Jvm.MethodName) prog_31_method_2_code (3 : Nat) (Option.some Jvm.ClassFile.FieldType.long)).before args0 about1 = true := code_word (m := ⟨2, 1⟩) (meth := k2m1) (c := k2c1) (by decide +kernel) rfl rfl rfl (by decide +kernel)
def codes1 : List Jvm.Cond := [Jvm.Cond.code x code maxLocals ret, Jvm.Cond.code ({ cls := "com/example/hailwise/hailwise/SeededRandom", name := "<init>", desc := "(J)V" } : Jvm.MethodName) prog_31_method_1_code (3 : Nat) (Option.none : Option Jvm.ClassFile.FieldType), Jvm.Cond.code ({ cls := "java/lang/Object", name := "<init>", desc := "()V" } : Jvm.MethodName) object_method_1_code (1 : Nat) (Option.none : Option Jvm.ClassFile.FieldType), Jvm.Cond.code ({ cls := "com/example/hailwise/hailwise/SeededRandom", name := "nextLong", desc := "()J" } : Jvm.MethodName) prog_31_method_2_code (3 : Nat) (Option.some Jvm.ClassFile.FieldType.long)]
set_option maxRecDepth 65536 in
theorem codes_eq : words1.filter isCode = codes1 := rfl
theorem w_codes : ∀ c ∈ words1.filter isCode, c.before args0 about1 = true := by
  rw [codes_eq]
  intro c hc
  simp only [codes1, List.mem_cons, List.not_mem_nil, or_false] at hc
  rcases hc with rfl | rfl | rfl | rfl
  · exact w_c0
  · exact w_c1
  · exact w_c2
  · exact w_c3
set_option maxRecDepth 65536 in
theorem w_t1 : words1.all (fun c => isCode c || c.before args0 about1) = true := by decide +kernel
theorem w_tables : (allAtoms (Jvm.Cond.code x code maxLocals ret :: tables_1)).before args0 about1 = true := by
  rw [allAtoms_all]
  show words1.all (fun c => c.before args0 about1) = true
  refine all_split ?_ w_codes
  rw [w_t1]
set_option maxRecDepth 65536 in
theorem w_case : (Jvm.Cond.and given_1 narrow_1).before args0 about1 = true := by decide +kernel
theorem w_applies : (headSpec (Jvm.Cond.code x code maxLocals ret :: tables_1) room_1).applies x e0.platform about1 = true :=
  (Spec.applies_iff w_frames).mpr ⟨w_running, w_runnable, w_alone, w_named, w_hears, w_ripe, w_room, w_tables⟩
theorem atStart : AtStart classFile x code maxLocals ret World_1 tables_1 room_1 Calls_1 rest_1 Pre_1 launch0 p0 e0 about1 theMethod args0 below0 :=
  ⟨lists_1, trivial, launch0.admits_env _ _ _, launch0.least_env, fairChoices_fair.cas, fairChoices_fair.clock, w_frames, w_args, w_heap, w_applies, trivial, trivial, w_case⟩
end start1
theorem witness_1 : WitnessClaimed_1 := ⟨start1.p0, start1.e0, start1.about1, start1.theMethod, start1.args0, start1.below0, start1.atStart⟩
end Jvm.Pilot.@@N@@
