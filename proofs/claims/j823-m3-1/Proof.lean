import JvmDerived
import JvmDerived.Pilot.@@N@@Statement
import JvmDerived.Pilot.@@N@@Code
set_option linter.unusedVariables false
set_option linter.unusedSimpArgs false
@@BLOCK:NumsL.lean.txt@@
namespace Jvm.Pilot.@@N@@
open Jvm Jvm.ClassFile Sem Op Lib Jvm.Free Jvm.Stand Jvm.LawKit Jvm.RoadKit Bundle Jvm.Pilot.@@N@@.Jvm.D
section Own
variable {p : Program} {l : Launch} {e : Env} {R : Room} {s : State} {m : MethodId} {args : Array Value} {below : List Frame} {meth : Method} {c : Code} {T : State} {locs : List Loc} {cells slots cl sl : Nat} {Q : Option Value → Heap → List Loc → Prop}
/-- from the state S the invocation comes to its end, returns, and Q holds of what it returned and left -/
def Goes (p : Program) (e : Env) (below : List Frame) (s : State) (cl sl : Nat) (Q : Option Value → Heap → List Loc → Prop) (S : State) : Prop :=
  ∃ s₂ o, Steps p.tables e below S s₂ ∧ s₂.status = .running ∧ Ended s₂ below o ∧ ∃ v L, o = .returned v ∧ Q v s₂.heap L ∧ FrameEnd s o s₂ L cl sl
theorem Goes.step {S S' : State} (h : ∀ t, Steps p.tables e below S' t → Steps p.tables e below S t) (k : Goes p e below s cl sl Q S') : Goes p e below s cl sl Q S := by
  obtain ⟨s₂, o, a, b⟩ := k
  exact ⟨s₂, o, h _ a, b⟩
theorem Goes.back {S S' : State} (h : Steps p.tables e below S S') (k : Goes p e below s cl sl Q S') : Goes p e below s cl sl Q S := Goes.step (fun _ q => h.trans q) k
theorem Goes.ret (X : Stand p l e R s m args below meth c T locs cells slots) (hx : p.tables.exec = Jvm.exec) (hlk : meth.locks = false) {pc : Nat} {Ls : Array Slot} {w : Value} {t : FieldType} {i : Instr} {rest : List Value} (hret : meth.sig.returnType = some t) (hn : narrow t w = w)
    (hi : (i = .ireturn ∧ (t = .int ∨ t = .boolean ∨ t = .byte ∨ t = .char ∨ t = .short) ∧ ∃ z, w = .int z) ∨ (i = .lreturn ∧ t = .long ∧ ∃ z, w = .long z) ∨ (i = .dreturn ∧ t = .double ∧ ∃ z, w = .double z) ∨ (i = .freturn ∧ t = .float ∧ ∃ z, w = .float z) ∨ (i = .areturn ∧ t.isReference = true ∧ w.isRef = true))
    (hd : decode c.code pc = .ok (i, 1)) (hQ : Q (some w) T.heap locs) (hc : cells ≤ cl) (hs : slots ≤ sl) : Goes p e below s cl sl Q (T.setTop (mkF m pc Ls (w :: rest))) := by
  obtain ⟨fs, hr, hrun, hended, hW, hsame⟩ := X.leave (v := some w) (fun h => by rw [hret] at h; cases h) hlk
  exact ⟨_, _, retOut X hx hret hn hi hd hr, hrun, hended, _, _, rfl, hQ, ⟨_, rfl⟩, hW, hsame.mono hc hs⟩
theorem Goes.retV (X : Stand p l e R s m args below meth c T locs cells slots) (hx : p.tables.exec = Jvm.exec) (hlk : meth.locks = false) {pc : Nat} {Ls : Array Slot} (hret : meth.sig.returnType = none)
    (hd : decode c.code pc = .ok (.return_, 1)) (hQ : Q none T.heap locs) (hc : cells ≤ cl) (hs : slots ≤ sl) : Goes p e below s cl sl Q (T.setTop (mkF m pc Ls [])) := by
  obtain ⟨fs, hr, hrun, hended, hW, hsame⟩ := X.leave (v := none) (fun _ => rfl) hlk
  exact ⟨_, _, X.returnOut hx hret hd hr, hrun, hended, _, _, rfl, hQ, ⟨_, rfl⟩, hW, hsame.mono hc hs⟩
theorem own_eqInt {args : Array Value} {s : State} {t : Term} {k : Int32} (h : (Cond.eq t (.int k)).value args s none s [] = some true) : t.eval args s none [] s = some (.int k) := by
  obtain ⟨x, y, hx, hy, -, k2⟩ := cmp_v (Or.inl h)
  obtain rfl : y = .int k := (Option.some.inj hy).symm
  obtain ⟨z, rfl⟩ := k2
  have e : (Cond.eq t (.int k)).value args s none s [] = some (decide (z = k)) := by simp [Cond.value, hx, hy]
  rw [hx, gotT e h]
theorem own_eqLong {args : Array Value} {s : State} {t : Term} {k : Int64} (h : (Cond.eq t (.long k)).value args s none s [] = some true) : t.eval args s none [] s = some (.long k) := by
  obtain ⟨x, y, hx, hy, -, k2⟩ := cmp_v (Or.inl h)
  obtain rfl : y = .long k := (Option.some.inj hy).symm
  obtain ⟨z, rfl⟩ := k2
  rw [hx, gotT (eq_L hx hy) h]
theorem own_neFld {Z : State} {h : Heap} {a b : Addr} {C n d : String} {x y : Int32} (F : Fld Z h a C n d (.int x)) (G : Fld Z h b C n d (.int y)) (q : x ≠ y) : a ≠ b := fun e => by
  subst e
  obtain ⟨cell, cf, k, i, f, h1, h2, -, -, -, -, h7⟩ := F
  obtain ⟨cell', cf', k', i', f', g1, g2, -, -, -, -, g7⟩ := G
  cases h1.symm.trans g1
  cases h2.symm.trans g2
  rw [h7] at g7
  injection g7 with g8
  injection g8 with g9
  exact q g9
theorem own_miss1 {k : Int32} {a : Int} (b : Int32) (hb : b.toInt = a) (h : ¬ k = b) : a ≠ k.toInt := fun q => h (Int32.toInt_inj.mp (by rw [hb, q]))
theorem own_find3 {k : Int32} {a b c' o1 o2 o3 : Int} {a' b' d' : Int32} (ha : ¬ k = a') (hb : ¬ k = b') (hc : ¬ k = d') (ea : a'.toInt = a := by rfl) (eb : b'.toInt = b := by rfl) (ec : d'.toInt = c' := by rfl) : (#[(a, o1), (b, o2), (c', o3)] : Array (Int × Int)).find? (·.1 == k.toInt) = none :=
  find_miss fun p hp => by
    simp only [List.mem_cons, List.not_mem_nil, or_false] at hp
    rcases hp with rfl | rfl | rfl
    · exact own_miss1 _ ea ha
    · exact own_miss1 _ eb hb
    · exact own_miss1 _ ec hc
theorem own_insKeep {Z : State} {h h' : Heap} {a : Addr} {C : String} {b : Bool} {ws : List Addr} (F : Ins Z h a C b) (K : Keep h h' ws) : Ins Z h' a C b := by
  obtain ⟨cell, cT, h1, h2, h3⟩ := F
  obtain ⟨c', q, r1, r2, r3⟩ := K.2.2 a cell h1
  exact ⟨c', cT, q, h2, by rw [r1, r2]; exact h3⟩
theorem own_insLt {Z : State} {h : Heap} {a : Addr} {C : String} {b : Bool} (F : Ins Z h a C b) : a < h.size := by
  obtain ⟨cell, cT, h1, -⟩ := F
  exact (Array.getElem?_eq_some_iff.mp h1).1
theorem own_cat {v : Value} (h : v.isRef = true) : v.category = 1 := by cases v <;> first | rfl | (simp [Value.isRef] at h)
theorem own_nar {ty : FieldType} {v : Value} (h : v.isRef = true) : narrow ty v = v := by cases v <;> first | (simp [Value.isRef] at h; done) | (cases ty <;> rfl)
theorem own_fit {C : String} {v : Value} (h : v.isRef = true) : fits (.object C) v = true := by cases v <;> first | rfl | (simp [Value.isRef] at h)
/-- a private method is selected by its own type, which is no interface since another method of it is selected -/
theorem own_selPriv {s : State} {args : Array Value} {C : String} {x z y : MethodName} (w : (Cond.selects C x z).before args s = true) (hc : z.cls = y.cls) (hp : (Cond.privateMethod y).before args s = true) (hi : (Cond.instanceMethod y).before args s = true)
    (hy : y.cls ≠ "java/lang/invoke/MethodHandle" ∧ y.cls ≠ "java/lang/invoke/VarHandle") : (Cond.selects y.cls y y).before args s = true := by
  obtain ⟨c2, r2, m2, -, -, q3, -, kP, hkP, hkPi⟩ := Cond.selects_spec w
  have hf := findClass_of_methodNamed q3
  rw [hc] at hf
  exact selects_self_of_private hf hkP hkPi (Cond.privateMethod_at hp) hi hy
/-- an array whose contents aren't told -/
def Arx (Z : State) (h : Heap) (a : Addr) (k : ClassId) (ty : FieldType) (n : Int32) : Prop :=
  ∃ cl : Cell, Arr Z h a cl ty ∧ cl.cls = k ∧ cl.slots.size = n.toNatClampNeg ∧ ¬ n < 0 ∧ ∀ i, i < cl.slots.size → ∃ v, cl.slots[i]? = some v ∧ fits ty v = true
theorem Arx.lt {Z : State} {h : Heap} {a : Addr} {k : ClassId} {ty : FieldType} {n : Int32} (F : Arx Z h a k ty n) : a < h.size := by obtain ⟨cl, A, -⟩ := F; exact A.lt
theorem Arx.ext {Z : State} {h h' : Heap} {a : Addr} {k : ClassId} {ty : FieldType} {n : Int32} (F : Arx Z h a k ty n) (E : Ext h h') : Arx Z h' a k ty n := by obtain ⟨cl, A, r⟩ := F; exact ⟨cl, A.ext E, r⟩
theorem Arx.other {Z : State} {h h' : Heap} {a b : Addr} {k : ClassId} {ty : FieldType} {n : Int32} {sl : Nat} {v : Value} (F : Arx Z h b k ty n) (W : Wr h h' a sl v) (q : b ≠ a) : Arx Z h' b k ty n := by obtain ⟨cl, A, r⟩ := F; exact ⟨cl, A.other W q, r⟩
theorem Arx.keep {Z : State} {h h' : Heap} {a : Addr} {k : ClassId} {ty : FieldType} {n : Int32} {ws : List Addr} (F : Arx Z h a k ty n) (K : Keep h h' ws) (q : a ∉ ws) : Arx Z h' a k ty n := by obtain ⟨cl, A, r⟩ := F; exact ⟨cl, ⟨K.2.1 a cl A.1 q, A.2⟩, r⟩
theorem Arx.set {Z : State} {h h' : Heap} {a : Addr} {k : ClassId} {ty : FieldType} {n : Int32} {cl : Cell} {sl : Nat} {v : Value} (A : Arr Z h a cl ty) (q1 : cl.cls = k) (S : cl.slots.size = n.toNatClampNeg) (P : ¬ n < 0) (G : ∀ i, i < cl.slots.size → ∃ v, cl.slots[i]? = some v ∧ fits ty v = true) (hv : fits ty v = true) (W : Wr h h' a sl v) : Arx Z h' a k ty n := by
  refine ⟨_, A.same W, q1, by rw [sz_set]; exact S, P, fun i hi => ?_⟩
  rw [sz_set] at hi
  by_cases u : sl = i
  · subst u
    exact ⟨v, by simp [Cell.setSlot, hi], hv⟩
  · obtain ⟨w, e1, e2⟩ := G i hi
    refine ⟨w, ?_, e2⟩
    show (cl.slots.setIfInBounds sl v)[i]? = some w
    rw [Array.getElem?_setIfInBounds_ne u]
    exact e1
theorem own_arx {Z : State} {h : Heap} {a : Addr} {k : ClassId} {ty : FieldType} {n : Int32} {vs : List Value} {d : Value} (F : Arv Z h a k ty n vs d) : Arx Z h a k ty n := by
  obtain ⟨cl, A, r1, r2, r3, H, G⟩ := F
  exact ⟨cl, A, r1, r2, r3, fun i hi => ⟨_, H i hi, G i hi⟩⟩
theorem own_arI {cl : Cell} {j : Int32} (G : ∀ i, i < cl.slots.size → ∃ v, cl.slots[i]? = some v ∧ fits .int v = true) (hin : ¬ (j < 0 ∨ cl.slots.size ≤ j.toNatClampNeg)) : ∃ x : Int32, cl.slots[j.toNatClampNeg]? = some (.int x) := by
  obtain ⟨v, e1, e2⟩ := G _ (Nat.lt_of_not_le fun q => hin (Or.inr q))
  obtain ⟨x, rfl⟩ := fit_I e2 (Or.inl rfl)
  exact ⟨x, e1⟩
theorem own_arD {cl : Cell} {j : Int32} (G : ∀ i, i < cl.slots.size → ∃ v, cl.slots[i]? = some v ∧ fits .double v = true) (hin : ¬ (j < 0 ∨ cl.slots.size ≤ j.toNatClampNeg)) : ∃ x, cl.slots[j.toNatClampNeg]? = some (.double x) := by
  obtain ⟨v, e1, e2⟩ := G _ (Nat.lt_of_not_le fun q => hin (Or.inr q))
  obtain ⟨x, rfl⟩ := fit_D e2
  exact ⟨x, e1⟩
end Own
theorem own_arx0 {s : State} {args : Array Value} {t : Term} {a : Addr} {cl : Cell} {ty : FieldType} {n : Int32} (hfit : Fit s) (et : t.eval args s none [] s = some (.ref a)) (A : Arr s s.heap a cl ty) (hl : (Term.length t).eval args s none [] s = some (.int n)) (hn : ¬ n < 0) : Arx s s.heap a cl.cls ty n := by
  obtain ⟨x, c2, e1, e2, e4, e3⟩ := Jvm.Free.SB.Term.length_small hl
  cases et.symm.trans e1
  cases (A.fin (Vm.Alike.refl _)).symm.trans e2
  injection e4 with e5
  have hs : cl.slots.size = n.toNatClampNeg := by
    rw [e5]
    simp only [Int32.toNatClampNeg, len_toInt e3]
    rfl
  refine ⟨cl, A, rfl, hs, hn, fun i hi => ?_⟩
  have hq : ¬ (i.toInt32 < 0 ∨ cl.slots.size ≤ i.toInt32.toNatClampNeg) := idx_in hi e3
  obtain ⟨v, r1, r2⟩ := elem_fit hfit A hq
  refine ⟨v, ?_, r2⟩
  have hi2 : i.toInt32.toNatClampNeg = i := by simp only [Int32.toNatClampNeg, len_toInt (Nat.lt_trans hi e3)]; rfl
  rw [hi2] at r1
  exact r1
section OwnNums
theorem own_maskNN (x : Int32) : 0 ≤ (x &&& 2147483647).toInt ∧ (x &&& 2147483647).toInt < 2 ^ 31 := by
  have h : (x &&& 2147483647).toInt = x.toInt % 2 ^ 31 := Jvm.Kit.i32_mask x 2147483647 (k := 31) (by decide) (by decide)
  omega
theorem own_remB (x : Int32) (n : Int32) (hn : 0 < n.toInt) : 0 ≤ ((x &&& 2147483647) % n).toInt ∧ ((x &&& 2147483647) % n).toInt < n.toInt := by
  rw [Int32.toInt_mod, Int.tmod_eq_emod_of_nonneg (own_maskNN x).1]
  exact ⟨Int.emod_nonneg _ (by omega), Int.emod_lt_of_pos _ hn⟩
theorem own_eqOf {i : Int32} (k : Int32) (h : i.toInt = k.toInt) : i = k := Int32.toInt_inj.mp h
end OwnNums
section OwnM
theorem own_and3b (x : Int32) : 0 ≤ (x &&& (3 : Int32)).toInt ∧ (x &&& (3 : Int32)).toInt < 4 := by
  have b : (x &&& (3 : Int32)).toInt = x.toInt % 2 ^ 2 := Jvm.Kit.i32_mask x 3 (k := 2) (by decide) (by decide)
  omega
theorem own_and3 {x i : Int32} (h : (x &&& (3 : Int32)) = i) : i = 0 ∨ i = 1 ∨ i = 2 ∨ i = 3 := by
  have b := own_and3b x
  rw [h] at b
  have q : i.toInt = 0 ∨ i.toInt = 1 ∨ i.toInt = 2 ∨ i.toInt = 3 := by omega
  rcases q with q | q | q | q
  · exact Or.inl (own_eqOf 0 q)
  · exact Or.inr (Or.inl (own_eqOf 1 q))
  · exact Or.inr (Or.inr (Or.inl (own_eqOf 2 q)))
  · exact Or.inr (Or.inr (Or.inr (own_eqOf 3 q)))
theorem own_m1 {x i : Int32} (h : ((x &&& (3 : Int32)) % (1 : Int32)) = i) : i = 0 := by
  have a := own_and3b x
  have b : ((x &&& (3 : Int32)) % (1 : Int32)).toInt = (x &&& (3 : Int32)).toInt % (1 : Int32).toInt := Jvm.Kit.i32_rem_nonneg a.1
  have e : (1 : Int32).toInt = 1 := rfl
  rw [h, e] at b
  have q : i.toInt = 0 := by omega
  exact own_eqOf 0 q
theorem own_m2 {x i : Int32} (h : ((x &&& (3 : Int32)) % (2 : Int32)) = i) : i = 0 ∨ i = 1 := by
  have a := own_and3b x
  have b : ((x &&& (3 : Int32)) % (2 : Int32)).toInt = (x &&& (3 : Int32)).toInt % (2 : Int32).toInt := Jvm.Kit.i32_rem_nonneg a.1
  have e : (2 : Int32).toInt = 2 := rfl
  rw [h, e] at b
  have q : i.toInt = 0 ∨ i.toInt = 1 := by omega
  rcases q with q | q
  · exact Or.inl (own_eqOf 0 q)
  · exact Or.inr (own_eqOf 1 q)
theorem own_m3 {x i : Int32} (h : ((x &&& (3 : Int32)) % (3 : Int32)) = i) : i = 0 ∨ i = 1 ∨ i = 2 := by
  have a := own_and3b x
  have b : ((x &&& (3 : Int32)) % (3 : Int32)).toInt = (x &&& (3 : Int32)).toInt % (3 : Int32).toInt := Jvm.Kit.i32_rem_nonneg a.1
  have e : (3 : Int32).toInt = 3 := rfl
  rw [h, e] at b
  have q : i.toInt = 0 ∨ i.toInt = 1 ∨ i.toInt = 2 := by omega
  rcases q with q | q | q
  · exact Or.inl (own_eqOf 0 q)
  · exact Or.inr (Or.inl (own_eqOf 1 q))
  · exact Or.inr (Or.inr (own_eqOf 2 q))
theorem own_m4 {x i : Int32} (h : ((x &&& (3 : Int32)) % (4 : Int32)) = i) : i = 0 ∨ i = 1 ∨ i = 2 ∨ i = 3 := by
  have a := own_and3b x
  have b : ((x &&& (3 : Int32)) % (4 : Int32)).toInt = (x &&& (3 : Int32)).toInt % (4 : Int32).toInt := Jvm.Kit.i32_rem_nonneg a.1
  have e : (4 : Int32).toInt = 4 := rfl
  rw [h, e] at b
  have q : i.toInt = 0 ∨ i.toInt = 1 ∨ i.toInt = 2 ∨ i.toInt = 3 := by omega
  rcases q with q | q | q | q
  · exact Or.inl (own_eqOf 0 q)
  · exact Or.inr (Or.inl (own_eqOf 1 q))
  · exact Or.inr (Or.inr (Or.inl (own_eqOf 2 q)))
  · exact Or.inr (Or.inr (Or.inr (own_eqOf 3 q)))
end OwnM
theorem d1_0 : decode prog_21_method_1_code 0 = .ok (.aload_n 0, 1) := by decide +kernel
theorem d1_1 : decode prog_21_method_1_code 1 = .ok (.invokespecial 1, 3) := by decide +kernel
theorem d1_4 : decode prog_21_method_1_code 4 = .ok (.aload_n 0, 1) := by decide +kernel
theorem d1_5 : decode prog_21_method_1_code 5 = .ok (.bipush 64, 2) := by decide +kernel
theorem d1_7 : decode prog_21_method_1_code 7 = .ok (.newarray .int, 2) := by decide +kernel
theorem d1_9 : decode prog_21_method_1_code 9 = .ok (.putfield 7, 3) := by decide +kernel
theorem d1_12 : decode prog_21_method_1_code 12 = .ok (.aload_n 0, 1) := by decide +kernel
theorem d1_13 : decode prog_21_method_1_code 13 = .ok (.bipush 64, 2) := by decide +kernel
theorem d1_15 : decode prog_21_method_1_code 15 = .ok (.newarray .double, 2) := by decide +kernel
theorem d1_17 : decode prog_21_method_1_code 17 = .ok (.putfield 13, 3) := by decide +kernel
theorem d1_20 : decode prog_21_method_1_code 20 = .ok (.return_, 1) := by decide +kernel
theorem pn_1 : plainName "com/example/hailwise/hailwise/NodeQueue" = true := by first | (simp [plainName, overriddenIn]; done) | decide +kernel
theorem ef_1 (m : MethodId) (x0 : Addr)  : entryFrame m #[(.ref x0)] 1 = mkF m 0 #[.val (.ref x0)] [] := by first | (simp [entryFrame, mkF, argsToLocals, Value.category]; done) | rfl
def Q1 (Z : State) (x0 : Addr) (h0 : Heap) (n0 : Nat) (v : Option Value) (h : Heap) (L : List Loc) : Prop := Fr n0 L ∧ Keep h0 h [x0] ∧ ((∃ (r_0 : Addr) (r_1 : Addr) (k_0 : ClassId) (k_1 : ClassId), v = none ∧ n0 ≤ r_0 ∧ h0.size ≤ r_0 ∧ n0 ≤ r_1 ∧ h0.size ≤ r_1 ∧ r_1 ≠ r_0 ∧ Fld Z h x0 "com/example/hailwise/hailwise/NodeQueue" "nodes" "[I" (.ref r_0) ∧ Fld Z h x0 "com/example/hailwise/hailwise/NodeQueue" "keys" "[D" (.ref r_1) ∧ Fld Z h x0 "com/example/hailwise/hailwise/NodeQueue" "size" "I" (.int (0 : Int32)) ∧ Exa Z h x0 "com/example/hailwise/hailwise/NodeQueue" ∧ Arx Z h r_0 k_0 .int (64 : Int32) ∧ Arx Z h r_1 k_1 .double (64 : Int32)))
set_option maxRecDepth 65536 in
set_option maxHeartbeats 40000000 in
theorem rm1 (l : Launch) (Z : State) (a0 : Array Value) (hw : ∀ d ∈ tables_1, d.before a0 Z = true) (ws : List Jvm.Cond) (x0 : Addr) (h0 : Heap) (n0 : Nat) (Z0 : n0 ≤ h0.size) (F0_nodes : Fld Z h0 x0 "com/example/hailwise/hailwise/NodeQueue" "nodes" "[I" .null) (F0_keys : Fld Z h0 x0 "com/example/hailwise/hailwise/NodeQueue" "keys" "[D" .null) (F0_size : Fld Z h0 x0 "com/example/hailwise/hailwise/NodeQueue" "size" "I" (.int (0 : Int32))) (E_x0 : Exa Z h0 x0 "com/example/hailwise/hailwise/NodeQueue") (g_x0 : n0 ≤ x0) :
    MetFree l (⟨"com/example/hailwise/hailwise/NodeQueue", "<init>", "()V"⟩ : MethodName) (head1 (Jvm.Cond.code (⟨"com/example/hailwise/hailwise/NodeQueue", "<init>", "()V"⟩ : MethodName) prog_21_method_1_code 1 none :: ws) ({ frames := 1, cells := 2, slots := 128, locals := 12 } : Room)) (fun a U => a = #[(.ref x0)] ∧ Z.Warmed39 U.vm ∧ U.heap = h0) (fun _ _ _ _ _ => True) (fun _ U o U' => ∃ v L, o = .returned v ∧ Q1 Z x0 h0 n0 v U'.heap L ∧ FrameEnd U o U' L ({ frames := 1, cells := 2, slots := 128, locals := 12 } : Room).cells ({ frames := 1, cells := 2, slots := 128, locals := 12 } : Room).slots) := by
  refine MetFree.of_bodySF (plainFor_of_name pn_1) hisR ?_
  intro p e s m args below meth c s₁ Bd hml0 hP hK
  obtain ⟨rfl, hZ, hh⟩ := hP
  have hx := Bd.exec
  have hby := Bd.bytes
  have hml : c.maxLocals = 1 := hml0
  have hown : s.vm.findClass "com/example/hailwise/hailwise/NodeQueue" = some m.cls := findClass_of_methodNamed Bd.named
  have hnm := (name_of_methodNamed Bd.named Bd.method).1
  have X0 : Stand p l e ({ frames := 1, cells := 2, slots := 128, locals := 12 } : Room) s m #[(.ref x0)] below meth c s₁ [] 0 0 := Stand.of_body Bd
  have e0 : s₁.heap = h0 := by rw [← hh, Bd.state]; rfl
  have N0 := Fr.nil n0
  have K0 : Keep h0 h0 [x0] := Keep.refl h0 _
  refine (?_ : Goes p e below s ({ frames := 1, cells := 2, slots := 128, locals := 12 } : Room).cells ({ frames := 1, cells := 2, slots := 128, locals := 12 } : Room).slots (fun v h L => Q1 Z x0 h0 n0 v h L) (s₁.setTop (entryFrame m #[(.ref x0)] 1)))
  rw [ef_1 m x0 ]
  show Goes _ _ _ _ _ _ _ (s₁.setTop (mkF m 0 #[.val (.ref x0)] []))
  refine Goes.step (fun _ k => XS.aloadN X0.here hx rfl (hb hby d1_0) rfl rfl k) ?_
  show Goes _ _ _ _ _ _ _ (s₁.setTop (mkF m 1 #[.val (.ref x0)] [(.ref x0)]))
  obtain ⟨T1, X1, e1, st1⟩ := initO X0 hx hZ hown (hw _ (List.mem_of_getElem? (i := 6) rfl)) (hw _ (List.mem_of_getElem? (i := 7) rfl)) (hw _ (List.mem_of_getElem? (i := 8) rfl)) e0 (g := (mkF m 1 #[.val (.ref x0)] [(.ref x0)])) rfl (by rw [hml]; rfl) rfl (hb hby d1_1) (by decide) (W := 0) (by show 2 * 0 + _ ≤ _; exact Nat.le_of_eq rfl) (by decide)
  refine Goes.step st1 ?_
  show Goes _ _ _ _ _ _ _ (T1.setTop (mkF m 4 #[.val (.ref x0)] []))
  refine Goes.step (fun _ k => XS.aloadN X1.here hx rfl (hb hby d1_4) rfl rfl k) ?_
  show Goes _ _ _ _ _ _ _ (T1.setTop (mkF m 5 #[.val (.ref x0)] [(.ref x0)]))
  refine Goes.step (fun _ k => XS.bipush X1.here hx rfl (hb hby d1_5) k) ?_
  show Goes _ _ _ _ _ _ _ (T1.setTop (mkF m 7 #[.val (.ref x0)] [(.int (64 : Int32)), (.ref x0)]))
  obtain ⟨T2, h2, k2, X2, e2, E2, A2, st2⟩ := newP X1 hx hZ (hw _ (List.mem_of_getElem? (i := 9) rfl)) e1 (g := (mkF m 7 #[.val (.ref x0)] [(.int (64 : Int32)), (.ref x0)])) rfl (hb hby d1_7) rfl (by decide) (cap := 64) (by decide) (by decide) (by decide) (by decide)
  obtain ⟨b2, g2⟩ : ∃ z, z = h0.size := ⟨_, rfl⟩
  rw [← g2] at A2 st2
  refine Goes.step st2 ?_
  have g_b2 : n0 ≤ b2 := Nat.le_trans Z0 (Nat.le_of_eq g2.symm)
  have sz_b2 : h0.size ≤ b2 := Nat.le_trans K0.1 (Nat.le_of_eq g2.symm)
  have ne3 : x0 ≠ b2 := Nat.ne_of_lt (Nat.lt_of_lt_of_le F0_nodes.lt (Nat.le_of_eq g2.symm))
  have f4 := F0_nodes.ext E2
  have f5 := F0_keys.ext E2
  have f6 := F0_size.ext E2
  have f7 := E_x0.ext E2
  have K8 : Keep h0 h2 [x0] := K0.ext E2
  have Z8 : n0 ≤ h2.size := Nat.le_trans Z0 E2.1
  have V_b2 := own_arx (Arv.new A2 (by decide))
  show Goes _ _ _ _ _ _ _ (T2.setTop (mkF m 9 #[.val (.ref x0)] [(.ref b2), (.ref x0)]))
  obtain ⟨T9, h9, X9, e9, W9, st9⟩ := putF X2 hx hZ hown (host := "") (Or.inl (hw _ (List.mem_of_getElem? (i := 10) rfl))) Via.refl e2 f4 f7 (Or.inl (hw _ (List.mem_of_getElem? (i := 11) rfl))) (hw _ (List.mem_of_getElem? (i := 1) rfl)) (ty := (.array .int)) (by decide) rfl rfl (g := (mkF m 9 #[.val (.ref x0)] [(.ref b2), (.ref x0)])) rfl rfl (hb hby d1_9)
  refine Goes.step st9 ?_
  have f10 := f4.same W9
  have f11 := f5.other W9 (Or.inr (slot_ne (Or.inl (hw _ (List.mem_of_getElem? (i := 14) rfl))) (Or.inl (hw _ (List.mem_of_getElem? (i := 11) rfl))) (by decide) (t := (.array .double)) (t' := (.array .int)) (by decide) (by decide)))
  have f12 := f6.other W9 (Or.inr (slot_ne (Or.inl (hw _ (List.mem_of_getElem? (i := 21) rfl))) (Or.inl (hw _ (List.mem_of_getElem? (i := 11) rfl))) (by decide) (t := .int) (t' := (.array .int)) (by decide) (by decide)))
  have f13 := f7.wr W9
  have f14 := V_b2.other W9 (Ne.symm ne3)
  have K15 : Keep h0 h9 [x0] := K8.wr W9 (Or.inl (List.mem_of_getElem? (i := 0) rfl))
  have Z15 : n0 ≤ h9.size := by rw [Wr.size W9]; exact Z8
  have N15 := Fr.snoc X9 N0 g_x0
  show Goes _ _ _ _ _ _ _ (T9.setTop (mkF m 12 #[.val (.ref x0)] []))
  refine Goes.step (fun _ k => XS.aloadN X9.here hx rfl (hb hby d1_12) rfl rfl k) ?_
  show Goes _ _ _ _ _ _ _ (T9.setTop (mkF m 13 #[.val (.ref x0)] [(.ref x0)]))
  refine Goes.step (fun _ k => XS.bipush X9.here hx rfl (hb hby d1_13) k) ?_
  show Goes _ _ _ _ _ _ _ (T9.setTop (mkF m 15 #[.val (.ref x0)] [(.int (64 : Int32)), (.ref x0)]))
  obtain ⟨T16, h16, k16, X16, e16, E16, A16, st16⟩ := newP X9 hx hZ (hw _ (List.mem_of_getElem? (i := 12) rfl)) e9 (g := (mkF m 15 #[.val (.ref x0)] [(.int (64 : Int32)), (.ref x0)])) rfl (hb hby d1_15) rfl (by decide) (cap := 64) (by decide) (by decide) (by decide) (by decide)
  obtain ⟨b16, g16⟩ : ∃ z, z = h9.size := ⟨_, rfl⟩
  rw [← g16] at A16 st16
  refine Goes.step st16 ?_
  have g_b16 : n0 ≤ b16 := Nat.le_trans Z15 (Nat.le_of_eq g16.symm)
  have sz_b16 : h0.size ≤ b16 := Nat.le_trans K15.1 (Nat.le_of_eq g16.symm)
  have ne17 : x0 ≠ b16 := Nat.ne_of_lt (Nat.lt_of_lt_of_le f10.lt (Nat.le_of_eq g16.symm))
  have ne18 : b2 ≠ b16 := Nat.ne_of_lt (Nat.lt_of_lt_of_le f14.lt (Nat.le_of_eq g16.symm))
  have f19 := f10.ext E16
  have f20 := f11.ext E16
  have f21 := f12.ext E16
  have f22 := f13.ext E16
  have f23 := f14.ext E16
  have K24 : Keep h0 h16 [x0] := K15.ext E16
  have Z24 : n0 ≤ h16.size := Nat.le_trans Z15 E16.1
  have V_b16 := own_arx (Arv.new A16 (by decide))
  show Goes _ _ _ _ _ _ _ (T16.setTop (mkF m 17 #[.val (.ref x0)] [(.ref b16), (.ref x0)]))
  obtain ⟨T25, h25, X25, e25, W25, st25⟩ := putF X16 hx hZ hown (host := "") (Or.inl (hw _ (List.mem_of_getElem? (i := 13) rfl))) Via.refl e16 f20 f22 (Or.inl (hw _ (List.mem_of_getElem? (i := 14) rfl))) (hw _ (List.mem_of_getElem? (i := 1) rfl)) (ty := (.array .double)) (by decide) rfl rfl (g := (mkF m 17 #[.val (.ref x0)] [(.ref b16), (.ref x0)])) rfl rfl (hb hby d1_17)
  refine Goes.step st25 ?_
  have f26 := f19.other W25 (Or.inr (slot_ne (Or.inl (hw _ (List.mem_of_getElem? (i := 11) rfl))) (Or.inl (hw _ (List.mem_of_getElem? (i := 14) rfl))) (by decide) (t := (.array .int)) (t' := (.array .double)) (by decide) (by decide)))
  have f27 := f20.same W25
  have f28 := f21.other W25 (Or.inr (slot_ne (Or.inl (hw _ (List.mem_of_getElem? (i := 21) rfl))) (Or.inl (hw _ (List.mem_of_getElem? (i := 14) rfl))) (by decide) (t := .int) (t' := (.array .double)) (by decide) (by decide)))
  have f29 := f22.wr W25
  have f30 := f23.other W25 (Ne.symm ne3)
  have f31 := V_b16.other W25 (Ne.symm ne17)
  have K32 : Keep h0 h25 [x0] := K24.wr W25 (Or.inl (List.mem_of_getElem? (i := 0) rfl))
  have Z32 : n0 ≤ h25.size := by rw [Wr.size W25]; exact Z24
  have N32 := Fr.snoc X25 N15 g_x0
  show Goes _ _ _ _ _ _ _ (T25.setTop (mkF m 20 #[.val (.ref x0)] []))
  exact Goes.retV X25 hx (BodyLoose.notSynchronized Bd) Bd.returns (hb hby d1_20) (by show Q1 Z x0 h0 n0 none T25.heap _; rw [e25]; exact ⟨N32, K32, ⟨b2, b16, k2, k16, rfl, g_b2, sz_b2, g_b16, sz_b16, (Ne.symm ne18), f26, f27, f28, f29, f30, f31⟩⟩) (by decide) (by decide)
theorem d3_0 : decode prog_21_method_4_code 0 = .ok (.aload_n 0, 1) := by decide +kernel
theorem d3_1 : decode prog_21_method_4_code 1 = .ok (.getfield 17, 3) := by decide +kernel
theorem d3_4 : decode prog_21_method_4_code 4 = .ok (.aload_n 0, 1) := by decide +kernel
theorem d3_5 : decode prog_21_method_4_code 5 = .ok (.getfield 7, 3) := by decide +kernel
theorem d3_8 : decode prog_21_method_4_code 8 = .ok (.arraylength, 1) := by decide +kernel
theorem d3_9 : decode prog_21_method_4_code 9 = .ok (.if_icmp .ne 37, 3) := by decide +kernel
theorem d3_46 : decode prog_21_method_4_code 46 = .ok (.aload_n 0, 1) := by decide +kernel
theorem d3_47 : decode prog_21_method_4_code 47 = .ok (.dup, 1) := by decide +kernel
theorem d3_48 : decode prog_21_method_4_code 48 = .ok (.getfield 17, 3) := by decide +kernel
theorem d3_51 : decode prog_21_method_4_code 51 = .ok (.dup_x1, 1) := by decide +kernel
theorem d3_52 : decode prog_21_method_4_code 52 = .ok (.iconst 1, 1) := by decide +kernel
theorem d3_53 : decode prog_21_method_4_code 53 = .ok (.iadd, 1) := by decide +kernel
theorem d3_54 : decode prog_21_method_4_code 54 = .ok (.putfield 17, 3) := by decide +kernel
theorem d3_57 : decode prog_21_method_4_code 57 = .ok (.istore 4, 2) := by decide +kernel
theorem d3_59 : decode prog_21_method_4_code 59 = .ok (.iload 4, 2) := by decide +kernel
theorem d3_61 : decode prog_21_method_4_code 61 = .ok (.ifCond .le 62, 3) := by decide +kernel
theorem d3_123 : decode prog_21_method_4_code 123 = .ok (.aload_n 0, 1) := by decide +kernel
theorem d3_124 : decode prog_21_method_4_code 124 = .ok (.getfield 7, 3) := by decide +kernel
theorem d3_127 : decode prog_21_method_4_code 127 = .ok (.iload 4, 2) := by decide +kernel
theorem d3_129 : decode prog_21_method_4_code 129 = .ok (.iload_n 1, 1) := by decide +kernel
theorem d3_130 : decode prog_21_method_4_code 130 = .ok (.iastore, 1) := by decide +kernel
theorem d3_131 : decode prog_21_method_4_code 131 = .ok (.aload_n 0, 1) := by decide +kernel
theorem d3_132 : decode prog_21_method_4_code 132 = .ok (.getfield 13, 3) := by decide +kernel
theorem d3_135 : decode prog_21_method_4_code 135 = .ok (.iload 4, 2) := by decide +kernel
theorem d3_137 : decode prog_21_method_4_code 137 = .ok (.dload_n 2, 1) := by decide +kernel
theorem d3_138 : decode prog_21_method_4_code 138 = .ok (.dastore, 1) := by decide +kernel
theorem d3_139 : decode prog_21_method_4_code 139 = .ok (.return_, 1) := by decide +kernel
theorem pn_3 : plainName "com/example/hailwise/hailwise/NodeQueue" = true := by first | (simp [plainName, overriddenIn]; done) | decide +kernel
theorem ef_3_0 (m : MethodId) (x0 : Addr) (x1 : Int32) (x2 : UInt64) (f0_nodes : Addr) (f0_keys : Addr) (ka_f0_nodes : ClassId) (ka_f0_keys : ClassId)  : entryFrame m #[(.ref x0), (.int x1), (.double x2)] 6 = mkF m 0 #[.val (.ref x0), .val (.int x1), .val (.double x2), .second, .unset, .unset] [] := by first | (simp [entryFrame, mkF, argsToLocals, Value.category]; done) | rfl
def Q3_0 (Z : State) (x0 : Addr) (x1 : Int32) (x2 : UInt64) (f0_nodes : Addr) (f0_keys : Addr) (ka_f0_nodes : ClassId) (ka_f0_keys : ClassId) (h0 : Heap) (n0 : Nat) (v : Option Value) (h : Heap) (L : List Loc) : Prop := Fr n0 L ∧ Keep h0 h [x0, f0_nodes, f0_keys] ∧ ((v = none ∧ Fld Z h x0 "com/example/hailwise/hailwise/NodeQueue" "nodes" "[I" (.ref f0_nodes) ∧ Fld Z h x0 "com/example/hailwise/hailwise/NodeQueue" "keys" "[D" (.ref f0_keys) ∧ Fld Z h x0 "com/example/hailwise/hailwise/NodeQueue" "size" "I" (.int (1 : Int32)) ∧ Exa Z h x0 "com/example/hailwise/hailwise/NodeQueue" ∧ Arx Z h f0_nodes ka_f0_nodes .int (64 : Int32) ∧ Arx Z h f0_keys ka_f0_keys .double (64 : Int32)))
set_option maxRecDepth 65536 in
set_option maxHeartbeats 40000000 in
theorem rm3_0 (l : Launch) (Z : State) (a0 : Array Value) (hw : ∀ d ∈ tables_1, d.before a0 Z = true) (ws : List Jvm.Cond) (x0 : Addr) (x1 : Int32) (x2 : UInt64) (f0_nodes : Addr) (f0_keys : Addr) (ka_f0_nodes : ClassId) (ka_f0_keys : ClassId) (h0 : Heap) (n0 : Nat) (Z0 : n0 ≤ h0.size) (F0_nodes : Fld Z h0 x0 "com/example/hailwise/hailwise/NodeQueue" "nodes" "[I" (.ref f0_nodes)) (F0_keys : Fld Z h0 x0 "com/example/hailwise/hailwise/NodeQueue" "keys" "[D" (.ref f0_keys)) (F0_size : Fld Z h0 x0 "com/example/hailwise/hailwise/NodeQueue" "size" "I" (.int (0 : Int32))) (E_x0 : Exa Z h0 x0 "com/example/hailwise/hailwise/NodeQueue") (V_f0_nodes : Arx Z h0 f0_nodes ka_f0_nodes .int (64 : Int32)) (V_f0_keys : Arx Z h0 f0_keys ka_f0_keys .double (64 : Int32)) (g_x0 : n0 ≤ x0) (g_f0_nodes : n0 ≤ f0_nodes) (g_f0_keys : n0 ≤ f0_keys) (ne_x0_f0_nodes : x0 ≠ f0_nodes) (ne_x0_f0_keys : x0 ≠ f0_keys) (ne_f0_nodes_f0_keys : f0_nodes ≠ f0_keys) :
    MetFree l (⟨"com/example/hailwise/hailwise/NodeQueue", "add", "(ID)V"⟩ : MethodName) (head1 (Jvm.Cond.code (⟨"com/example/hailwise/hailwise/NodeQueue", "add", "(ID)V"⟩ : MethodName) prog_21_method_4_code 6 none :: ws) ({ frames := 0, cells := 0, slots := 0, locals := 0 } : Room)) (fun a U => a = #[(.ref x0), (.int x1), (.double x2)] ∧ Z.Warmed39 U.vm ∧ U.heap = h0) (fun _ _ _ _ _ => True) (fun _ U o U' => ∃ v L, o = .returned v ∧ Q3_0 Z x0 x1 x2 f0_nodes f0_keys ka_f0_nodes ka_f0_keys h0 n0 v U'.heap L ∧ FrameEnd U o U' L ({ frames := 0, cells := 0, slots := 0, locals := 0 } : Room).cells ({ frames := 0, cells := 0, slots := 0, locals := 0 } : Room).slots) := by
  refine MetFree.of_bodySF (plainFor_of_name pn_3) hisR ?_
  intro p e s m args below meth c s₁ Bd hml0 hP hK
  obtain ⟨rfl, hZ, hh⟩ := hP
  have hx := Bd.exec
  have hby := Bd.bytes
  have hml : c.maxLocals = 6 := hml0
  have hown : s.vm.findClass "com/example/hailwise/hailwise/NodeQueue" = some m.cls := findClass_of_methodNamed Bd.named
  have hnm := (name_of_methodNamed Bd.named Bd.method).1
  have X0 : Stand p l e ({ frames := 0, cells := 0, slots := 0, locals := 0 } : Room) s m #[(.ref x0), (.int x1), (.double x2)] below meth c s₁ [] 0 0 := Stand.of_body Bd
  have e0 : s₁.heap = h0 := by rw [← hh, Bd.state]; rfl
  have N0 := Fr.nil n0
  have K0 : Keep h0 h0 [x0, f0_nodes, f0_keys] := Keep.refl h0 _
  refine (?_ : Goes p e below s ({ frames := 0, cells := 0, slots := 0, locals := 0 } : Room).cells ({ frames := 0, cells := 0, slots := 0, locals := 0 } : Room).slots (fun v h L => Q3_0 Z x0 x1 x2 f0_nodes f0_keys ka_f0_nodes ka_f0_keys h0 n0 v h L) (s₁.setTop (entryFrame m #[(.ref x0), (.int x1), (.double x2)] 6)))
  rw [ef_3_0 m x0 x1 x2 f0_nodes f0_keys ka_f0_nodes ka_f0_keys ]
  show Goes _ _ _ _ _ _ _ (s₁.setTop (mkF m 0 #[.val (.ref x0), .val (.int x1), .val (.double x2), .second, .unset, .unset] []))
  refine Goes.step (fun _ k => XS.aloadN X0.here hx rfl (hb hby d3_0) rfl rfl k) ?_
  show Goes _ _ _ _ _ _ _ (s₁.setTop (mkF m 1 #[.val (.ref x0), .val (.int x1), .val (.double x2), .second, .unset, .unset] [(.ref x0)]))
  obtain ⟨T1, X1, e1, st1⟩ := getF X0 hx hZ hown (host := "") (Or.inl (hw _ (List.mem_of_getElem? (i := 20) rfl))) Via.refl e0 F0_size (g := (mkF m 1 #[.val (.ref x0), .val (.int x1), .val (.double x2), .second, .unset, .unset] [(.ref x0)])) rfl rfl (hb hby d3_1)
  refine Goes.step st1 ?_
  show Goes _ _ _ _ _ _ _ (T1.setTop (mkF m 4 #[.val (.ref x0), .val (.int x1), .val (.double x2), .second, .unset, .unset] [(.int (0 : Int32))]))
  refine Goes.step (fun _ k => XS.aloadN X1.here hx rfl (hb hby d3_4) rfl rfl k) ?_
  show Goes _ _ _ _ _ _ _ (T1.setTop (mkF m 5 #[.val (.ref x0), .val (.int x1), .val (.double x2), .second, .unset, .unset] [(.ref x0), (.int (0 : Int32))]))
  obtain ⟨T2, X2, e2, st2⟩ := getF X1 hx hZ hown (host := "") (Or.inl (hw _ (List.mem_of_getElem? (i := 10) rfl))) Via.refl e1 F0_nodes (g := (mkF m 5 #[.val (.ref x0), .val (.int x1), .val (.double x2), .second, .unset, .unset] [(.ref x0), (.int (0 : Int32))])) rfl rfl (hb hby d3_5)
  refine Goes.step st2 ?_
  show Goes _ _ _ _ _ _ _ (T2.setTop (mkF m 8 #[.val (.ref x0), .val (.int x1), .val (.double x2), .second, .unset, .unset] [(.ref f0_nodes), (.int (0 : Int32))]))
  obtain ⟨cl3, Ar3, q3, S3, P3, G3⟩ := id V_f0_nodes
  refine Goes.step (fun _ k => X2.arraylength hx (by rw [e2]; exact Ar3.1) (State.isArrayOf_alike hZ.alike Ar3.2.1) (g := (mkF m 8 #[.val (.ref x0), .val (.int x1), .val (.double x2), .second, .unset, .unset] [(.ref f0_nodes), (.int (0 : Int32))])) rfl rfl (hb hby d3_8) _ k) ?_
  rw [len_of S3 P3]
  show Goes _ _ _ _ _ _ _ (T2.setTop (mkF m 9 #[.val (.ref x0), .val (.int x1), .val (.double x2), .second, .unset, .unset] [(.int (64 : Int32)), (.int (0 : Int32))]))
  refine Goes.step (fun _ k => XS.icmpYes X2.here hx rfl (pc0 := 9) (pc' := 46) rfl (hb hby d3_9) rfl (feq (by decide : ¬ ((0 : Int32) = (64 : Int32)))).2 (by decide) (by decide) k) ?_
  show Goes _ _ _ _ _ _ _ (T2.setTop (mkF m 46 #[.val (.ref x0), .val (.int x1), .val (.double x2), .second, .unset, .unset] []))
  refine Goes.step (fun _ k => XS.aloadN X2.here hx rfl (hb hby d3_46) rfl rfl k) ?_
  show Goes _ _ _ _ _ _ _ (T2.setTop (mkF m 47 #[.val (.ref x0), .val (.int x1), .val (.double x2), .second, .unset, .unset] [(.ref x0)]))
  refine Goes.step (fun _ k => XS.dup X2.here hx rfl (hb hby d3_47) rfl rfl k) ?_
  show Goes _ _ _ _ _ _ _ (T2.setTop (mkF m 48 #[.val (.ref x0), .val (.int x1), .val (.double x2), .second, .unset, .unset] [(.ref x0), (.ref x0)]))
  obtain ⟨T4, X4, e4, st4⟩ := getF X2 hx hZ hown (host := "") (Or.inl (hw _ (List.mem_of_getElem? (i := 20) rfl))) Via.refl e2 F0_size (g := (mkF m 48 #[.val (.ref x0), .val (.int x1), .val (.double x2), .second, .unset, .unset] [(.ref x0), (.ref x0)])) rfl rfl (hb hby d3_48)
  refine Goes.step st4 ?_
  show Goes _ _ _ _ _ _ _ (T4.setTop (mkF m 51 #[.val (.ref x0), .val (.int x1), .val (.double x2), .second, .unset, .unset] [(.int (0 : Int32)), (.ref x0)]))
  refine Goes.step (fun _ k => XS.dupX1 X4.here hx rfl (hb hby d3_51) rfl rfl rfl k) ?_
  show Goes _ _ _ _ _ _ _ (T4.setTop (mkF m 52 #[.val (.ref x0), .val (.int x1), .val (.double x2), .second, .unset, .unset] [(.int (0 : Int32)), (.ref x0), (.int (0 : Int32))]))
  refine Goes.step (fun _ k => XS.iconst X4.here hx rfl (hb hby d3_52) k) ?_
  show Goes _ _ _ _ _ _ _ (T4.setTop (mkF m 53 #[.val (.ref x0), .val (.int x1), .val (.double x2), .second, .unset, .unset] [(.int (1 : Int32)), (.int (0 : Int32)), (.ref x0), (.int (0 : Int32))]))
  refine Goes.step (fun _ k => XS.iadd X4.here hx rfl (hb hby d3_53) rfl k) ?_
  show Goes _ _ _ _ _ _ _ (T4.setTop (mkF m 54 #[.val (.ref x0), .val (.int x1), .val (.double x2), .second, .unset, .unset] [(.int (1 : Int32)), (.ref x0), (.int (0 : Int32))]))
  obtain ⟨T5, h5, X5, e5, W5, st5⟩ := putF X4 hx hZ hown (host := "") (Or.inl (hw _ (List.mem_of_getElem? (i := 20) rfl))) Via.refl e4 F0_size E_x0 (Or.inl (hw _ (List.mem_of_getElem? (i := 21) rfl))) (hw _ (List.mem_of_getElem? (i := 1) rfl)) (ty := .int) (by decide) rfl rfl (g := (mkF m 54 #[.val (.ref x0), .val (.int x1), .val (.double x2), .second, .unset, .unset] [(.int (1 : Int32)), (.ref x0), (.int (0 : Int32))])) rfl rfl (hb hby d3_54)
  refine Goes.step st5 ?_
  have f6 := F0_nodes.other W5 (Or.inr (slot_ne (Or.inl (hw _ (List.mem_of_getElem? (i := 11) rfl))) (Or.inl (hw _ (List.mem_of_getElem? (i := 21) rfl))) (by decide) (t := (.array .int)) (t' := .int) (by decide) (by decide)))
  have f7 := F0_keys.other W5 (Or.inr (slot_ne (Or.inl (hw _ (List.mem_of_getElem? (i := 14) rfl))) (Or.inl (hw _ (List.mem_of_getElem? (i := 21) rfl))) (by decide) (t := (.array .double)) (t' := .int) (by decide) (by decide)))
  have f8 := F0_size.same W5
  have f9 := E_x0.wr W5
  have f10 := V_f0_nodes.other W5 (Ne.symm ne_x0_f0_nodes)
  have f11 := V_f0_keys.other W5 (Ne.symm ne_x0_f0_keys)
  have K12 : Keep h0 h5 [x0, f0_nodes, f0_keys] := K0.wr W5 (Or.inl (List.mem_of_getElem? (i := 0) rfl))
  have Z12 : n0 ≤ h5.size := by rw [Wr.size W5]; exact Z0
  have N12 := Fr.snoc X5 N0 g_x0
  show Goes _ _ _ _ _ _ _ (T5.setTop (mkF m 57 #[.val (.ref x0), .val (.int x1), .val (.double x2), .second, .unset, .unset] [(.int (0 : Int32))]))
  refine Goes.step (fun _ k => XS.istore X5.here hx rfl (hb hby d3_57) rfl (l' := #[.val (.ref x0), .val (.int x1), .val (.double x2), .second, .val (.int (0 : Int32)), .unset]) rfl k) ?_
  show Goes _ _ _ _ _ _ _ (T5.setTop (mkF m 59 #[.val (.ref x0), .val (.int x1), .val (.double x2), .second, .val (.int (0 : Int32)), .unset] []))
  refine Goes.step (fun _ k => XS.iload X5.here hx rfl (hb hby d3_59) rfl  k) ?_
  show Goes _ _ _ _ _ _ _ (T5.setTop (mkF m 61 #[.val (.ref x0), .val (.int x1), .val (.double x2), .second, .val (.int (0 : Int32)), .unset] [(.int (0 : Int32))]))
  refine Goes.step (fun _ k => XS.ifYes X5.here hx rfl (pc0 := 61) (pc' := 123) rfl (hb hby d3_61) rfl ((if0 _ _).trans (flt (by decide : ¬ ((0 : Int32) < (0 : Int32)))).2.2.2) (by decide) (by decide) k) ?_
  show Goes _ _ _ _ _ _ _ (T5.setTop (mkF m 123 #[.val (.ref x0), .val (.int x1), .val (.double x2), .second, .val (.int (0 : Int32)), .unset] []))
  refine Goes.step (fun _ k => XS.aloadN X5.here hx rfl (hb hby d3_123) rfl rfl k) ?_
  show Goes _ _ _ _ _ _ _ (T5.setTop (mkF m 124 #[.val (.ref x0), .val (.int x1), .val (.double x2), .second, .val (.int (0 : Int32)), .unset] [(.ref x0)]))
  obtain ⟨T13, X13, e13, st13⟩ := getF X5 hx hZ hown (host := "") (Or.inl (hw _ (List.mem_of_getElem? (i := 10) rfl))) Via.refl e5 f6 (g := (mkF m 124 #[.val (.ref x0), .val (.int x1), .val (.double x2), .second, .val (.int (0 : Int32)), .unset] [(.ref x0)])) rfl rfl (hb hby d3_124)
  refine Goes.step st13 ?_
  show Goes _ _ _ _ _ _ _ (T13.setTop (mkF m 127 #[.val (.ref x0), .val (.int x1), .val (.double x2), .second, .val (.int (0 : Int32)), .unset] [(.ref f0_nodes)]))
  refine Goes.step (fun _ k => XS.iload X13.here hx rfl (hb hby d3_127) rfl  k) ?_
  show Goes _ _ _ _ _ _ _ (T13.setTop (mkF m 129 #[.val (.ref x0), .val (.int x1), .val (.double x2), .second, .val (.int (0 : Int32)), .unset] [(.int (0 : Int32)), (.ref f0_nodes)]))
  refine Goes.step (fun _ k => XS.iloadN X13.here hx rfl (hb hby d3_129) rfl  k) ?_
  show Goes _ _ _ _ _ _ _ (T13.setTop (mkF m 130 #[.val (.ref x0), .val (.int x1), .val (.double x2), .second, .val (.int (0 : Int32)), .unset] [(.int x1), (.int (0 : Int32)), (.ref f0_nodes)]))
  obtain ⟨cl14, Ar14, q14, S14, P14, G14⟩ := id f10
  have hin14 : ¬ ((0 : Int32) < 0 ∨ cl14.slots.size ≤ ((0 : Int32)).toNatClampNeg) := inb_of S14 ⟨by decide, by decide⟩
  obtain ⟨T15, h15, X15, e15, W15, st15⟩ := stI X13 hx hZ e13 Ar14 (j := (0 : Int32)) hin14 (g := (mkF m 130 #[.val (.ref x0), .val (.int x1), .val (.double x2), .second, .val (.int (0 : Int32)), .unset] [(.int x1), (.int (0 : Int32)), (.ref f0_nodes)])) rfl rfl (hb hby d3_130)
  refine Goes.step st15 ?_
  have V15 := Arx.set Ar14 q14 S14 P14 G14 rfl W15
  have f16 := f6.other W15 (Or.inl ne_x0_f0_nodes)
  have f17 := f7.other W15 (Or.inl ne_x0_f0_nodes)
  have f18 := f8.other W15 (Or.inl ne_x0_f0_nodes)
  have f19 := f9.wr W15
  have f20 := V15
  have f21 := f11.other W15 (Ne.symm ne_f0_nodes_f0_keys)
  have K22 : Keep h0 h15 [x0, f0_nodes, f0_keys] := K12.wr W15 (Or.inl (List.mem_of_getElem? (i := 1) rfl))
  have Z22 : n0 ≤ h15.size := by rw [Wr.size W15]; exact Z12
  have N22 := Fr.snoc X15 N12 g_f0_nodes
  show Goes _ _ _ _ _ _ _ (T15.setTop (mkF m 131 #[.val (.ref x0), .val (.int x1), .val (.double x2), .second, .val (.int (0 : Int32)), .unset] []))
  refine Goes.step (fun _ k => XS.aloadN X15.here hx rfl (hb hby d3_131) rfl rfl k) ?_
  show Goes _ _ _ _ _ _ _ (T15.setTop (mkF m 132 #[.val (.ref x0), .val (.int x1), .val (.double x2), .second, .val (.int (0 : Int32)), .unset] [(.ref x0)]))
  obtain ⟨T23, X23, e23, st23⟩ := getF X15 hx hZ hown (host := "") (Or.inl (hw _ (List.mem_of_getElem? (i := 13) rfl))) Via.refl e15 f17 (g := (mkF m 132 #[.val (.ref x0), .val (.int x1), .val (.double x2), .second, .val (.int (0 : Int32)), .unset] [(.ref x0)])) rfl rfl (hb hby d3_132)
  refine Goes.step st23 ?_
  show Goes _ _ _ _ _ _ _ (T23.setTop (mkF m 135 #[.val (.ref x0), .val (.int x1), .val (.double x2), .second, .val (.int (0 : Int32)), .unset] [(.ref f0_keys)]))
  refine Goes.step (fun _ k => XS.iload X23.here hx rfl (hb hby d3_135) rfl  k) ?_
  show Goes _ _ _ _ _ _ _ (T23.setTop (mkF m 137 #[.val (.ref x0), .val (.int x1), .val (.double x2), .second, .val (.int (0 : Int32)), .unset] [(.int (0 : Int32)), (.ref f0_keys)]))
  refine Goes.step (fun _ k => XS.dloadN X23.here hx rfl (hb hby d3_137) rfl k) ?_
  show Goes _ _ _ _ _ _ _ (T23.setTop (mkF m 138 #[.val (.ref x0), .val (.int x1), .val (.double x2), .second, .val (.int (0 : Int32)), .unset] [(.double x2), (.int (0 : Int32)), (.ref f0_keys)]))
  obtain ⟨cl24, Ar24, q24, S24, P24, G24⟩ := id f21
  have hin24 : ¬ ((0 : Int32) < 0 ∨ cl24.slots.size ≤ ((0 : Int32)).toNatClampNeg) := inb_of S24 ⟨by decide, by decide⟩
  obtain ⟨T25, h25, X25, e25, W25, st25⟩ := stD X23 hx hZ e23 Ar24 (j := (0 : Int32)) hin24 (g := (mkF m 138 #[.val (.ref x0), .val (.int x1), .val (.double x2), .second, .val (.int (0 : Int32)), .unset] [(.double x2), (.int (0 : Int32)), (.ref f0_keys)])) rfl rfl (hb hby d3_138)
  refine Goes.step st25 ?_
  have V25 := Arx.set Ar24 q24 S24 P24 G24 rfl W25
  have f26 := f16.other W25 (Or.inl ne_x0_f0_keys)
  have f27 := f17.other W25 (Or.inl ne_x0_f0_keys)
  have f28 := f18.other W25 (Or.inl ne_x0_f0_keys)
  have f29 := f19.wr W25
  have f30 := f20.other W25 ne_f0_nodes_f0_keys
  have f31 := V25
  have K32 : Keep h0 h25 [x0, f0_nodes, f0_keys] := K22.wr W25 (Or.inl (List.mem_of_getElem? (i := 2) rfl))
  have Z32 : n0 ≤ h25.size := by rw [Wr.size W25]; exact Z22
  have N32 := Fr.snoc X25 N22 g_f0_keys
  show Goes _ _ _ _ _ _ _ (T25.setTop (mkF m 139 #[.val (.ref x0), .val (.int x1), .val (.double x2), .second, .val (.int (0 : Int32)), .unset] []))
  exact Goes.retV X25 hx (BodyLoose.notSynchronized Bd) Bd.returns (hb hby d3_139) (by show Q3_0 Z x0 x1 x2 f0_nodes f0_keys ka_f0_nodes ka_f0_keys h0 n0 none T25.heap _; rw [e25]; exact ⟨N32, K32, ⟨rfl, f26, f27, f28, f29, f30, f31⟩⟩) (by decide) (by decide)
theorem d3_64 : decode prog_21_method_4_code 64 = .ok (.aload_n 0, 1) := by decide +kernel
theorem d3_65 : decode prog_21_method_4_code 65 = .ok (.getfield 13, 3) := by decide +kernel
theorem d3_68 : decode prog_21_method_4_code 68 = .ok (.iload 4, 2) := by decide +kernel
theorem d3_70 : decode prog_21_method_4_code 70 = .ok (.iconst 1, 1) := by decide +kernel
theorem d3_71 : decode prog_21_method_4_code 71 = .ok (.isub, 1) := by decide +kernel
theorem d3_72 : decode prog_21_method_4_code 72 = .ok (.iconst 2, 1) := by decide +kernel
theorem d3_73 : decode prog_21_method_4_code 73 = .ok (.idiv, 1) := by decide +kernel
theorem d3_74 : decode prog_21_method_4_code 74 = .ok (.daload, 1) := by decide +kernel
theorem d3_75 : decode prog_21_method_4_code 75 = .ok (.dload_n 2, 1) := by decide +kernel
theorem d3_76 : decode prog_21_method_4_code 76 = .ok (.dcmp .l, 1) := by decide +kernel
theorem d3_77 : decode prog_21_method_4_code 77 = .ok (.ifCond .le 46, 3) := by decide +kernel
theorem d3_80 : decode prog_21_method_4_code 80 = .ok (.iload 4, 2) := by decide +kernel
theorem d3_82 : decode prog_21_method_4_code 82 = .ok (.iconst 1, 1) := by decide +kernel
theorem d3_83 : decode prog_21_method_4_code 83 = .ok (.isub, 1) := by decide +kernel
theorem d3_84 : decode prog_21_method_4_code 84 = .ok (.iconst 2, 1) := by decide +kernel
theorem d3_85 : decode prog_21_method_4_code 85 = .ok (.idiv, 1) := by decide +kernel
theorem d3_86 : decode prog_21_method_4_code 86 = .ok (.istore 5, 2) := by decide +kernel
theorem d3_88 : decode prog_21_method_4_code 88 = .ok (.aload_n 0, 1) := by decide +kernel
theorem d3_89 : decode prog_21_method_4_code 89 = .ok (.getfield 7, 3) := by decide +kernel
theorem d3_92 : decode prog_21_method_4_code 92 = .ok (.iload 4, 2) := by decide +kernel
theorem d3_94 : decode prog_21_method_4_code 94 = .ok (.aload_n 0, 1) := by decide +kernel
theorem d3_95 : decode prog_21_method_4_code 95 = .ok (.getfield 7, 3) := by decide +kernel
theorem d3_98 : decode prog_21_method_4_code 98 = .ok (.iload 5, 2) := by decide +kernel
theorem d3_100 : decode prog_21_method_4_code 100 = .ok (.iaload, 1) := by decide +kernel
theorem d3_101 : decode prog_21_method_4_code 101 = .ok (.iastore, 1) := by decide +kernel
theorem d3_102 : decode prog_21_method_4_code 102 = .ok (.aload_n 0, 1) := by decide +kernel
theorem d3_103 : decode prog_21_method_4_code 103 = .ok (.getfield 13, 3) := by decide +kernel
theorem d3_106 : decode prog_21_method_4_code 106 = .ok (.iload 4, 2) := by decide +kernel
theorem d3_108 : decode prog_21_method_4_code 108 = .ok (.aload_n 0, 1) := by decide +kernel
theorem d3_109 : decode prog_21_method_4_code 109 = .ok (.getfield 13, 3) := by decide +kernel
theorem d3_112 : decode prog_21_method_4_code 112 = .ok (.iload 5, 2) := by decide +kernel
theorem d3_114 : decode prog_21_method_4_code 114 = .ok (.daload, 1) := by decide +kernel
theorem d3_115 : decode prog_21_method_4_code 115 = .ok (.dastore, 1) := by decide +kernel
theorem d3_116 : decode prog_21_method_4_code 116 = .ok (.iload 5, 2) := by decide +kernel
theorem d3_118 : decode prog_21_method_4_code 118 = .ok (.istore 4, 2) := by decide +kernel
theorem d3_120 : decode prog_21_method_4_code 120 = .ok (.goto (-61), 3) := by decide +kernel
theorem ef_3_1 (m : MethodId) (x0 : Addr) (x1 : Int32) (x2 : UInt64) (f0_nodes : Addr) (f0_keys : Addr) (ka_f0_nodes : ClassId) (ka_f0_keys : ClassId)  : entryFrame m #[(.ref x0), (.int x1), (.double x2)] 6 = mkF m 0 #[.val (.ref x0), .val (.int x1), .val (.double x2), .second, .unset, .unset] [] := by first | (simp [entryFrame, mkF, argsToLocals, Value.category]; done) | rfl
def Q3_1 (Z : State) (x0 : Addr) (x1 : Int32) (x2 : UInt64) (f0_nodes : Addr) (f0_keys : Addr) (ka_f0_nodes : ClassId) (ka_f0_keys : ClassId) (h0 : Heap) (n0 : Nat) (v : Option Value) (h : Heap) (L : List Loc) : Prop := Fr n0 L ∧ Keep h0 h [x0, f0_nodes, f0_keys] ∧ ((v = none ∧ Fld Z h x0 "com/example/hailwise/hailwise/NodeQueue" "nodes" "[I" (.ref f0_nodes) ∧ Fld Z h x0 "com/example/hailwise/hailwise/NodeQueue" "keys" "[D" (.ref f0_keys) ∧ Fld Z h x0 "com/example/hailwise/hailwise/NodeQueue" "size" "I" (.int (2 : Int32)) ∧ Exa Z h x0 "com/example/hailwise/hailwise/NodeQueue" ∧ Arx Z h f0_nodes ka_f0_nodes .int (64 : Int32) ∧ Arx Z h f0_keys ka_f0_keys .double (64 : Int32)))
set_option maxRecDepth 65536 in
set_option maxHeartbeats 40000000 in
theorem rm3_1 (l : Launch) (Z : State) (a0 : Array Value) (hw : ∀ d ∈ tables_1, d.before a0 Z = true) (ws : List Jvm.Cond) (x0 : Addr) (x1 : Int32) (x2 : UInt64) (f0_nodes : Addr) (f0_keys : Addr) (ka_f0_nodes : ClassId) (ka_f0_keys : ClassId) (h0 : Heap) (n0 : Nat) (Z0 : n0 ≤ h0.size) (F0_nodes : Fld Z h0 x0 "com/example/hailwise/hailwise/NodeQueue" "nodes" "[I" (.ref f0_nodes)) (F0_keys : Fld Z h0 x0 "com/example/hailwise/hailwise/NodeQueue" "keys" "[D" (.ref f0_keys)) (F0_size : Fld Z h0 x0 "com/example/hailwise/hailwise/NodeQueue" "size" "I" (.int (1 : Int32))) (E_x0 : Exa Z h0 x0 "com/example/hailwise/hailwise/NodeQueue") (V_f0_nodes : Arx Z h0 f0_nodes ka_f0_nodes .int (64 : Int32)) (V_f0_keys : Arx Z h0 f0_keys ka_f0_keys .double (64 : Int32)) (g_x0 : n0 ≤ x0) (g_f0_nodes : n0 ≤ f0_nodes) (g_f0_keys : n0 ≤ f0_keys) (ne_x0_f0_nodes : x0 ≠ f0_nodes) (ne_x0_f0_keys : x0 ≠ f0_keys) (ne_f0_nodes_f0_keys : f0_nodes ≠ f0_keys) :
    MetFree l (⟨"com/example/hailwise/hailwise/NodeQueue", "add", "(ID)V"⟩ : MethodName) (head1 (Jvm.Cond.code (⟨"com/example/hailwise/hailwise/NodeQueue", "add", "(ID)V"⟩ : MethodName) prog_21_method_4_code 6 none :: ws) ({ frames := 0, cells := 0, slots := 0, locals := 0 } : Room)) (fun a U => a = #[(.ref x0), (.int x1), (.double x2)] ∧ Z.Warmed39 U.vm ∧ U.heap = h0) (fun _ _ _ _ _ => True) (fun _ U o U' => ∃ v L, o = .returned v ∧ Q3_1 Z x0 x1 x2 f0_nodes f0_keys ka_f0_nodes ka_f0_keys h0 n0 v U'.heap L ∧ FrameEnd U o U' L ({ frames := 0, cells := 0, slots := 0, locals := 0 } : Room).cells ({ frames := 0, cells := 0, slots := 0, locals := 0 } : Room).slots) := by
  refine MetFree.of_bodySF (plainFor_of_name pn_3) hisR ?_
  intro p e s m args below meth c s₁ Bd hml0 hP hK
  obtain ⟨rfl, hZ, hh⟩ := hP
  have hx := Bd.exec
  have hby := Bd.bytes
  have hml : c.maxLocals = 6 := hml0
  have hown : s.vm.findClass "com/example/hailwise/hailwise/NodeQueue" = some m.cls := findClass_of_methodNamed Bd.named
  have hnm := (name_of_methodNamed Bd.named Bd.method).1
  have X0 : Stand p l e ({ frames := 0, cells := 0, slots := 0, locals := 0 } : Room) s m #[(.ref x0), (.int x1), (.double x2)] below meth c s₁ [] 0 0 := Stand.of_body Bd
  have e0 : s₁.heap = h0 := by rw [← hh, Bd.state]; rfl
  have N0 := Fr.nil n0
  have K0 : Keep h0 h0 [x0, f0_nodes, f0_keys] := Keep.refl h0 _
  refine (?_ : Goes p e below s ({ frames := 0, cells := 0, slots := 0, locals := 0 } : Room).cells ({ frames := 0, cells := 0, slots := 0, locals := 0 } : Room).slots (fun v h L => Q3_1 Z x0 x1 x2 f0_nodes f0_keys ka_f0_nodes ka_f0_keys h0 n0 v h L) (s₁.setTop (entryFrame m #[(.ref x0), (.int x1), (.double x2)] 6)))
  rw [ef_3_1 m x0 x1 x2 f0_nodes f0_keys ka_f0_nodes ka_f0_keys ]
  show Goes _ _ _ _ _ _ _ (s₁.setTop (mkF m 0 #[.val (.ref x0), .val (.int x1), .val (.double x2), .second, .unset, .unset] []))
  refine Goes.step (fun _ k => XS.aloadN X0.here hx rfl (hb hby d3_0) rfl rfl k) ?_
  show Goes _ _ _ _ _ _ _ (s₁.setTop (mkF m 1 #[.val (.ref x0), .val (.int x1), .val (.double x2), .second, .unset, .unset] [(.ref x0)]))
  obtain ⟨T1, X1, e1, st1⟩ := getF X0 hx hZ hown (host := "") (Or.inl (hw _ (List.mem_of_getElem? (i := 20) rfl))) Via.refl e0 F0_size (g := (mkF m 1 #[.val (.ref x0), .val (.int x1), .val (.double x2), .second, .unset, .unset] [(.ref x0)])) rfl rfl (hb hby d3_1)
  refine Goes.step st1 ?_
  show Goes _ _ _ _ _ _ _ (T1.setTop (mkF m 4 #[.val (.ref x0), .val (.int x1), .val (.double x2), .second, .unset, .unset] [(.int (1 : Int32))]))
  refine Goes.step (fun _ k => XS.aloadN X1.here hx rfl (hb hby d3_4) rfl rfl k) ?_
  show Goes _ _ _ _ _ _ _ (T1.setTop (mkF m 5 #[.val (.ref x0), .val (.int x1), .val (.double x2), .second, .unset, .unset] [(.ref x0), (.int (1 : Int32))]))
  obtain ⟨T2, X2, e2, st2⟩ := getF X1 hx hZ hown (host := "") (Or.inl (hw _ (List.mem_of_getElem? (i := 10) rfl))) Via.refl e1 F0_nodes (g := (mkF m 5 #[.val (.ref x0), .val (.int x1), .val (.double x2), .second, .unset, .unset] [(.ref x0), (.int (1 : Int32))])) rfl rfl (hb hby d3_5)
  refine Goes.step st2 ?_
  show Goes _ _ _ _ _ _ _ (T2.setTop (mkF m 8 #[.val (.ref x0), .val (.int x1), .val (.double x2), .second, .unset, .unset] [(.ref f0_nodes), (.int (1 : Int32))]))
  obtain ⟨cl3, Ar3, q3, S3, P3, G3⟩ := id V_f0_nodes
  refine Goes.step (fun _ k => X2.arraylength hx (by rw [e2]; exact Ar3.1) (State.isArrayOf_alike hZ.alike Ar3.2.1) (g := (mkF m 8 #[.val (.ref x0), .val (.int x1), .val (.double x2), .second, .unset, .unset] [(.ref f0_nodes), (.int (1 : Int32))])) rfl rfl (hb hby d3_8) _ k) ?_
  rw [len_of S3 P3]
  show Goes _ _ _ _ _ _ _ (T2.setTop (mkF m 9 #[.val (.ref x0), .val (.int x1), .val (.double x2), .second, .unset, .unset] [(.int (64 : Int32)), (.int (1 : Int32))]))
  refine Goes.step (fun _ k => XS.icmpYes X2.here hx rfl (pc0 := 9) (pc' := 46) rfl (hb hby d3_9) rfl (feq (by decide : ¬ ((1 : Int32) = (64 : Int32)))).2 (by decide) (by decide) k) ?_
  show Goes _ _ _ _ _ _ _ (T2.setTop (mkF m 46 #[.val (.ref x0), .val (.int x1), .val (.double x2), .second, .unset, .unset] []))
  refine Goes.step (fun _ k => XS.aloadN X2.here hx rfl (hb hby d3_46) rfl rfl k) ?_
  show Goes _ _ _ _ _ _ _ (T2.setTop (mkF m 47 #[.val (.ref x0), .val (.int x1), .val (.double x2), .second, .unset, .unset] [(.ref x0)]))
  refine Goes.step (fun _ k => XS.dup X2.here hx rfl (hb hby d3_47) rfl rfl k) ?_
  show Goes _ _ _ _ _ _ _ (T2.setTop (mkF m 48 #[.val (.ref x0), .val (.int x1), .val (.double x2), .second, .unset, .unset] [(.ref x0), (.ref x0)]))
  obtain ⟨T4, X4, e4, st4⟩ := getF X2 hx hZ hown (host := "") (Or.inl (hw _ (List.mem_of_getElem? (i := 20) rfl))) Via.refl e2 F0_size (g := (mkF m 48 #[.val (.ref x0), .val (.int x1), .val (.double x2), .second, .unset, .unset] [(.ref x0), (.ref x0)])) rfl rfl (hb hby d3_48)
  refine Goes.step st4 ?_
  show Goes _ _ _ _ _ _ _ (T4.setTop (mkF m 51 #[.val (.ref x0), .val (.int x1), .val (.double x2), .second, .unset, .unset] [(.int (1 : Int32)), (.ref x0)]))
  refine Goes.step (fun _ k => XS.dupX1 X4.here hx rfl (hb hby d3_51) rfl rfl rfl k) ?_
  show Goes _ _ _ _ _ _ _ (T4.setTop (mkF m 52 #[.val (.ref x0), .val (.int x1), .val (.double x2), .second, .unset, .unset] [(.int (1 : Int32)), (.ref x0), (.int (1 : Int32))]))
  refine Goes.step (fun _ k => XS.iconst X4.here hx rfl (hb hby d3_52) k) ?_
  show Goes _ _ _ _ _ _ _ (T4.setTop (mkF m 53 #[.val (.ref x0), .val (.int x1), .val (.double x2), .second, .unset, .unset] [(.int (1 : Int32)), (.int (1 : Int32)), (.ref x0), (.int (1 : Int32))]))
  refine Goes.step (fun _ k => XS.iadd X4.here hx rfl (hb hby d3_53) rfl k) ?_
  show Goes _ _ _ _ _ _ _ (T4.setTop (mkF m 54 #[.val (.ref x0), .val (.int x1), .val (.double x2), .second, .unset, .unset] [(.int (2 : Int32)), (.ref x0), (.int (1 : Int32))]))
  obtain ⟨T5, h5, X5, e5, W5, st5⟩ := putF X4 hx hZ hown (host := "") (Or.inl (hw _ (List.mem_of_getElem? (i := 20) rfl))) Via.refl e4 F0_size E_x0 (Or.inl (hw _ (List.mem_of_getElem? (i := 21) rfl))) (hw _ (List.mem_of_getElem? (i := 1) rfl)) (ty := .int) (by decide) rfl rfl (g := (mkF m 54 #[.val (.ref x0), .val (.int x1), .val (.double x2), .second, .unset, .unset] [(.int (2 : Int32)), (.ref x0), (.int (1 : Int32))])) rfl rfl (hb hby d3_54)
  refine Goes.step st5 ?_
  have f6 := F0_nodes.other W5 (Or.inr (slot_ne (Or.inl (hw _ (List.mem_of_getElem? (i := 11) rfl))) (Or.inl (hw _ (List.mem_of_getElem? (i := 21) rfl))) (by decide) (t := (.array .int)) (t' := .int) (by decide) (by decide)))
  have f7 := F0_keys.other W5 (Or.inr (slot_ne (Or.inl (hw _ (List.mem_of_getElem? (i := 14) rfl))) (Or.inl (hw _ (List.mem_of_getElem? (i := 21) rfl))) (by decide) (t := (.array .double)) (t' := .int) (by decide) (by decide)))
  have f8 := F0_size.same W5
  have f9 := E_x0.wr W5
  have f10 := V_f0_nodes.other W5 (Ne.symm ne_x0_f0_nodes)
  have f11 := V_f0_keys.other W5 (Ne.symm ne_x0_f0_keys)
  have K12 : Keep h0 h5 [x0, f0_nodes, f0_keys] := K0.wr W5 (Or.inl (List.mem_of_getElem? (i := 0) rfl))
  have Z12 : n0 ≤ h5.size := by rw [Wr.size W5]; exact Z0
  have N12 := Fr.snoc X5 N0 g_x0
  show Goes _ _ _ _ _ _ _ (T5.setTop (mkF m 57 #[.val (.ref x0), .val (.int x1), .val (.double x2), .second, .unset, .unset] [(.int (1 : Int32))]))
  refine Goes.step (fun _ k => XS.istore X5.here hx rfl (hb hby d3_57) rfl (l' := #[.val (.ref x0), .val (.int x1), .val (.double x2), .second, .val (.int (1 : Int32)), .unset]) rfl k) ?_
  show Goes _ _ _ _ _ _ _ (T5.setTop (mkF m 59 #[.val (.ref x0), .val (.int x1), .val (.double x2), .second, .val (.int (1 : Int32)), .unset] []))
  refine Goes.step (fun _ k => XS.iload X5.here hx rfl (hb hby d3_59) rfl  k) ?_
  show Goes _ _ _ _ _ _ _ (T5.setTop (mkF m 61 #[.val (.ref x0), .val (.int x1), .val (.double x2), .second, .val (.int (1 : Int32)), .unset] [(.int (1 : Int32))]))
  refine Goes.step (fun _ k => XS.ifNo X5.here hx rfl (hb hby d3_61) rfl ((if0 _ _).trans (tlt (by decide : (0 : Int32) < (1 : Int32))).2.2.2) k) ?_
  show Goes _ _ _ _ _ _ _ (T5.setTop (mkF m 64 #[.val (.ref x0), .val (.int x1), .val (.double x2), .second, .val (.int (1 : Int32)), .unset] []))
  refine Goes.step (fun _ k => XS.aloadN X5.here hx rfl (hb hby d3_64) rfl rfl k) ?_
  show Goes _ _ _ _ _ _ _ (T5.setTop (mkF m 65 #[.val (.ref x0), .val (.int x1), .val (.double x2), .second, .val (.int (1 : Int32)), .unset] [(.ref x0)]))
  obtain ⟨T13, X13, e13, st13⟩ := getF X5 hx hZ hown (host := "") (Or.inl (hw _ (List.mem_of_getElem? (i := 13) rfl))) Via.refl e5 f7 (g := (mkF m 65 #[.val (.ref x0), .val (.int x1), .val (.double x2), .second, .val (.int (1 : Int32)), .unset] [(.ref x0)])) rfl rfl (hb hby d3_65)
  refine Goes.step st13 ?_
  show Goes _ _ _ _ _ _ _ (T13.setTop (mkF m 68 #[.val (.ref x0), .val (.int x1), .val (.double x2), .second, .val (.int (1 : Int32)), .unset] [(.ref f0_keys)]))
  refine Goes.step (fun _ k => XS.iload X13.here hx rfl (hb hby d3_68) rfl  k) ?_
  show Goes _ _ _ _ _ _ _ (T13.setTop (mkF m 70 #[.val (.ref x0), .val (.int x1), .val (.double x2), .second, .val (.int (1 : Int32)), .unset] [(.int (1 : Int32)), (.ref f0_keys)]))
  refine Goes.step (fun _ k => XS.iconst X13.here hx rfl (hb hby d3_70) k) ?_
  show Goes _ _ _ _ _ _ _ (T13.setTop (mkF m 71 #[.val (.ref x0), .val (.int x1), .val (.double x2), .second, .val (.int (1 : Int32)), .unset] [(.int (1 : Int32)), (.int (1 : Int32)), (.ref f0_keys)]))
  refine Goes.step (fun _ k => XS.isub X13.here hx rfl (hb hby d3_71) rfl k) ?_
  show Goes _ _ _ _ _ _ _ (T13.setTop (mkF m 72 #[.val (.ref x0), .val (.int x1), .val (.double x2), .second, .val (.int (1 : Int32)), .unset] [(.int (0 : Int32)), (.ref f0_keys)]))
  refine Goes.step (fun _ k => XS.iconst X13.here hx rfl (hb hby d3_72) k) ?_
  show Goes _ _ _ _ _ _ _ (T13.setTop (mkF m 73 #[.val (.ref x0), .val (.int x1), .val (.double x2), .second, .val (.int (1 : Int32)), .unset] [(.int (2 : Int32)), (.int (0 : Int32)), (.ref f0_keys)]))
  refine Goes.step (fun _ k => XS.idiv X13.here hx rfl (hb hby d3_73) rfl (by decide) k) ?_
  show Goes _ _ _ _ _ _ _ (T13.setTop (mkF m 74 #[.val (.ref x0), .val (.int x1), .val (.double x2), .second, .val (.int (1 : Int32)), .unset] [(.int (0 : Int32)), (.ref f0_keys)]))
  obtain ⟨cl14, Ar14, q14, S14, P14, G14⟩ := id f11
  have hin14 : ¬ ((0 : Int32) < 0 ∨ cl14.slots.size ≤ ((0 : Int32)).toNatClampNeg) := inb_of S14 ⟨by decide, by decide⟩
  obtain ⟨w14, hat14⟩ := own_arD G14 hin14
  refine Goes.step (fun _ k => X13.daload hx (j := (0 : Int32)) (v := (.double w14)) (by rw [e13]; exact Ar14.1) (State.isArrayOf_alike hZ.alike Ar14.2.1) Ar14.2.2 hin14 hat14 (g := (mkF m 74 #[.val (.ref x0), .val (.int x1), .val (.double x2), .second, .val (.int (1 : Int32)), .unset] [(.int (0 : Int32)), (.ref f0_keys)])) rfl rfl (hb hby d3_74) _ k) ?_
  show Goes _ _ _ _ _ _ _ (T13.setTop (mkF m 75 #[.val (.ref x0), .val (.int x1), .val (.double x2), .second, .val (.int (1 : Int32)), .unset] [(.double w14)]))
  refine Goes.step (fun _ k => XS.dloadN X13.here hx rfl (hb hby d3_75) rfl k) ?_
  show Goes _ _ _ _ _ _ _ (T13.setTop (mkF m 76 #[.val (.ref x0), .val (.int x1), .val (.double x2), .second, .val (.int (1 : Int32)), .unset] [(.double x2), (.double w14)]))
  refine Goes.step (fun _ k => XS.dcmpS X13.here hx rfl (hb hby d3_76) rfl rfl k) ?_
  show Goes _ _ _ _ _ _ _ (T13.setTop (mkF m 77 #[.val (.ref x0), .val (.int x1), .val (.double x2), .second, .val (.int (1 : Int32)), .unset] [(.int (cmpValue (FP.dcmp w14 x2) .l))]))
  by_cases c77_15 : (0 : Int32) < (cmpValue (FP.dcmp w14 x2) .l)
  · refine Goes.step (fun _ k => XS.ifNo X13.here hx rfl (hb hby d3_77) rfl ((if0 _ _).trans (tlt c77_15).2.2.2) k) ?_
    show Goes _ _ _ _ _ _ _ (T13.setTop (mkF m 80 #[.val (.ref x0), .val (.int x1), .val (.double x2), .second, .val (.int (1 : Int32)), .unset] []))
    refine Goes.step (fun _ k => XS.iload X13.here hx rfl (hb hby d3_80) rfl  k) ?_
    show Goes _ _ _ _ _ _ _ (T13.setTop (mkF m 82 #[.val (.ref x0), .val (.int x1), .val (.double x2), .second, .val (.int (1 : Int32)), .unset] [(.int (1 : Int32))]))
    refine Goes.step (fun _ k => XS.iconst X13.here hx rfl (hb hby d3_82) k) ?_
    show Goes _ _ _ _ _ _ _ (T13.setTop (mkF m 83 #[.val (.ref x0), .val (.int x1), .val (.double x2), .second, .val (.int (1 : Int32)), .unset] [(.int (1 : Int32)), (.int (1 : Int32))]))
    refine Goes.step (fun _ k => XS.isub X13.here hx rfl (hb hby d3_83) rfl k) ?_
    show Goes _ _ _ _ _ _ _ (T13.setTop (mkF m 84 #[.val (.ref x0), .val (.int x1), .val (.double x2), .second, .val (.int (1 : Int32)), .unset] [(.int (0 : Int32))]))
    refine Goes.step (fun _ k => XS.iconst X13.here hx rfl (hb hby d3_84) k) ?_
    show Goes _ _ _ _ _ _ _ (T13.setTop (mkF m 85 #[.val (.ref x0), .val (.int x1), .val (.double x2), .second, .val (.int (1 : Int32)), .unset] [(.int (2 : Int32)), (.int (0 : Int32))]))
    refine Goes.step (fun _ k => XS.idiv X13.here hx rfl (hb hby d3_85) rfl (by decide) k) ?_
    show Goes _ _ _ _ _ _ _ (T13.setTop (mkF m 86 #[.val (.ref x0), .val (.int x1), .val (.double x2), .second, .val (.int (1 : Int32)), .unset] [(.int (0 : Int32))]))
    refine Goes.step (fun _ k => XS.istore X13.here hx rfl (hb hby d3_86) rfl (l' := #[.val (.ref x0), .val (.int x1), .val (.double x2), .second, .val (.int (1 : Int32)), .val (.int (0 : Int32))]) rfl k) ?_
    show Goes _ _ _ _ _ _ _ (T13.setTop (mkF m 88 #[.val (.ref x0), .val (.int x1), .val (.double x2), .second, .val (.int (1 : Int32)), .val (.int (0 : Int32))] []))
    refine Goes.step (fun _ k => XS.aloadN X13.here hx rfl (hb hby d3_88) rfl rfl k) ?_
    show Goes _ _ _ _ _ _ _ (T13.setTop (mkF m 89 #[.val (.ref x0), .val (.int x1), .val (.double x2), .second, .val (.int (1 : Int32)), .val (.int (0 : Int32))] [(.ref x0)]))
    obtain ⟨T16, X16, e16, st16⟩ := getF X13 hx hZ hown (host := "") (Or.inl (hw _ (List.mem_of_getElem? (i := 10) rfl))) Via.refl e13 f6 (g := (mkF m 89 #[.val (.ref x0), .val (.int x1), .val (.double x2), .second, .val (.int (1 : Int32)), .val (.int (0 : Int32))] [(.ref x0)])) rfl rfl (hb hby d3_89)
    refine Goes.step st16 ?_
    show Goes _ _ _ _ _ _ _ (T16.setTop (mkF m 92 #[.val (.ref x0), .val (.int x1), .val (.double x2), .second, .val (.int (1 : Int32)), .val (.int (0 : Int32))] [(.ref f0_nodes)]))
    refine Goes.step (fun _ k => XS.iload X16.here hx rfl (hb hby d3_92) rfl  k) ?_
    show Goes _ _ _ _ _ _ _ (T16.setTop (mkF m 94 #[.val (.ref x0), .val (.int x1), .val (.double x2), .second, .val (.int (1 : Int32)), .val (.int (0 : Int32))] [(.int (1 : Int32)), (.ref f0_nodes)]))
    refine Goes.step (fun _ k => XS.aloadN X16.here hx rfl (hb hby d3_94) rfl rfl k) ?_
    show Goes _ _ _ _ _ _ _ (T16.setTop (mkF m 95 #[.val (.ref x0), .val (.int x1), .val (.double x2), .second, .val (.int (1 : Int32)), .val (.int (0 : Int32))] [(.ref x0), (.int (1 : Int32)), (.ref f0_nodes)]))
    obtain ⟨T17, X17, e17, st17⟩ := getF X16 hx hZ hown (host := "") (Or.inl (hw _ (List.mem_of_getElem? (i := 10) rfl))) Via.refl e16 f6 (g := (mkF m 95 #[.val (.ref x0), .val (.int x1), .val (.double x2), .second, .val (.int (1 : Int32)), .val (.int (0 : Int32))] [(.ref x0), (.int (1 : Int32)), (.ref f0_nodes)])) rfl rfl (hb hby d3_95)
    refine Goes.step st17 ?_
    show Goes _ _ _ _ _ _ _ (T17.setTop (mkF m 98 #[.val (.ref x0), .val (.int x1), .val (.double x2), .second, .val (.int (1 : Int32)), .val (.int (0 : Int32))] [(.ref f0_nodes), (.int (1 : Int32)), (.ref f0_nodes)]))
    refine Goes.step (fun _ k => XS.iload X17.here hx rfl (hb hby d3_98) rfl  k) ?_
    show Goes _ _ _ _ _ _ _ (T17.setTop (mkF m 100 #[.val (.ref x0), .val (.int x1), .val (.double x2), .second, .val (.int (1 : Int32)), .val (.int (0 : Int32))] [(.int (0 : Int32)), (.ref f0_nodes), (.int (1 : Int32)), (.ref f0_nodes)]))
    obtain ⟨cl18, Ar18, q18, S18, P18, G18⟩ := id f10
    have hin18 : ¬ ((0 : Int32) < 0 ∨ cl18.slots.size ≤ ((0 : Int32)).toNatClampNeg) := inb_of S18 ⟨by decide, by decide⟩
    obtain ⟨w18, hat18⟩ := own_arI G18 hin18
    refine Goes.step (fun _ k => X17.iaload hx (j := (0 : Int32)) (v := (.int w18)) (by rw [e17]; exact Ar18.1) (State.isArrayOf_alike hZ.alike Ar18.2.1) Ar18.2.2 hin18 hat18 (g := (mkF m 100 #[.val (.ref x0), .val (.int x1), .val (.double x2), .second, .val (.int (1 : Int32)), .val (.int (0 : Int32))] [(.int (0 : Int32)), (.ref f0_nodes), (.int (1 : Int32)), (.ref f0_nodes)])) rfl rfl (hb hby d3_100) _ k) ?_
    show Goes _ _ _ _ _ _ _ (T17.setTop (mkF m 101 #[.val (.ref x0), .val (.int x1), .val (.double x2), .second, .val (.int (1 : Int32)), .val (.int (0 : Int32))] [(.int w18), (.int (1 : Int32)), (.ref f0_nodes)]))
    obtain ⟨cl19, Ar19, q19, S19, P19, G19⟩ := id f10
    have hin19 : ¬ ((1 : Int32) < 0 ∨ cl19.slots.size ≤ ((1 : Int32)).toNatClampNeg) := inb_of S19 ⟨by decide, by decide⟩
    obtain ⟨T20, h20, X20, e20, W20, st20⟩ := stI X17 hx hZ e17 Ar19 (j := (1 : Int32)) hin19 (g := (mkF m 101 #[.val (.ref x0), .val (.int x1), .val (.double x2), .second, .val (.int (1 : Int32)), .val (.int (0 : Int32))] [(.int w18), (.int (1 : Int32)), (.ref f0_nodes)])) rfl rfl (hb hby d3_101)
    refine Goes.step st20 ?_
    have V20 := Arx.set Ar19 q19 S19 P19 G19 rfl W20
    have f21 := f6.other W20 (Or.inl ne_x0_f0_nodes)
    have f22 := f7.other W20 (Or.inl ne_x0_f0_nodes)
    have f23 := f8.other W20 (Or.inl ne_x0_f0_nodes)
    have f24 := f9.wr W20
    have f25 := V20
    have f26 := f11.other W20 (Ne.symm ne_f0_nodes_f0_keys)
    have K27 : Keep h0 h20 [x0, f0_nodes, f0_keys] := K12.wr W20 (Or.inl (List.mem_of_getElem? (i := 1) rfl))
    have Z27 : n0 ≤ h20.size := by rw [Wr.size W20]; exact Z12
    have N27 := Fr.snoc X20 N12 g_f0_nodes
    show Goes _ _ _ _ _ _ _ (T20.setTop (mkF m 102 #[.val (.ref x0), .val (.int x1), .val (.double x2), .second, .val (.int (1 : Int32)), .val (.int (0 : Int32))] []))
    refine Goes.step (fun _ k => XS.aloadN X20.here hx rfl (hb hby d3_102) rfl rfl k) ?_
    show Goes _ _ _ _ _ _ _ (T20.setTop (mkF m 103 #[.val (.ref x0), .val (.int x1), .val (.double x2), .second, .val (.int (1 : Int32)), .val (.int (0 : Int32))] [(.ref x0)]))
    obtain ⟨T28, X28, e28, st28⟩ := getF X20 hx hZ hown (host := "") (Or.inl (hw _ (List.mem_of_getElem? (i := 13) rfl))) Via.refl e20 f22 (g := (mkF m 103 #[.val (.ref x0), .val (.int x1), .val (.double x2), .second, .val (.int (1 : Int32)), .val (.int (0 : Int32))] [(.ref x0)])) rfl rfl (hb hby d3_103)
    refine Goes.step st28 ?_
    show Goes _ _ _ _ _ _ _ (T28.setTop (mkF m 106 #[.val (.ref x0), .val (.int x1), .val (.double x2), .second, .val (.int (1 : Int32)), .val (.int (0 : Int32))] [(.ref f0_keys)]))
    refine Goes.step (fun _ k => XS.iload X28.here hx rfl (hb hby d3_106) rfl  k) ?_
    show Goes _ _ _ _ _ _ _ (T28.setTop (mkF m 108 #[.val (.ref x0), .val (.int x1), .val (.double x2), .second, .val (.int (1 : Int32)), .val (.int (0 : Int32))] [(.int (1 : Int32)), (.ref f0_keys)]))
    refine Goes.step (fun _ k => XS.aloadN X28.here hx rfl (hb hby d3_108) rfl rfl k) ?_
    show Goes _ _ _ _ _ _ _ (T28.setTop (mkF m 109 #[.val (.ref x0), .val (.int x1), .val (.double x2), .second, .val (.int (1 : Int32)), .val (.int (0 : Int32))] [(.ref x0), (.int (1 : Int32)), (.ref f0_keys)]))
    obtain ⟨T29, X29, e29, st29⟩ := getF X28 hx hZ hown (host := "") (Or.inl (hw _ (List.mem_of_getElem? (i := 13) rfl))) Via.refl e28 f22 (g := (mkF m 109 #[.val (.ref x0), .val (.int x1), .val (.double x2), .second, .val (.int (1 : Int32)), .val (.int (0 : Int32))] [(.ref x0), (.int (1 : Int32)), (.ref f0_keys)])) rfl rfl (hb hby d3_109)
    refine Goes.step st29 ?_
    show Goes _ _ _ _ _ _ _ (T29.setTop (mkF m 112 #[.val (.ref x0), .val (.int x1), .val (.double x2), .second, .val (.int (1 : Int32)), .val (.int (0 : Int32))] [(.ref f0_keys), (.int (1 : Int32)), (.ref f0_keys)]))
    refine Goes.step (fun _ k => XS.iload X29.here hx rfl (hb hby d3_112) rfl  k) ?_
    show Goes _ _ _ _ _ _ _ (T29.setTop (mkF m 114 #[.val (.ref x0), .val (.int x1), .val (.double x2), .second, .val (.int (1 : Int32)), .val (.int (0 : Int32))] [(.int (0 : Int32)), (.ref f0_keys), (.int (1 : Int32)), (.ref f0_keys)]))
    obtain ⟨cl30, Ar30, q30, S30, P30, G30⟩ := id f26
    have hin30 : ¬ ((0 : Int32) < 0 ∨ cl30.slots.size ≤ ((0 : Int32)).toNatClampNeg) := inb_of S30 ⟨by decide, by decide⟩
    obtain ⟨w30, hat30⟩ := own_arD G30 hin30
    refine Goes.step (fun _ k => X29.daload hx (j := (0 : Int32)) (v := (.double w30)) (by rw [e29]; exact Ar30.1) (State.isArrayOf_alike hZ.alike Ar30.2.1) Ar30.2.2 hin30 hat30 (g := (mkF m 114 #[.val (.ref x0), .val (.int x1), .val (.double x2), .second, .val (.int (1 : Int32)), .val (.int (0 : Int32))] [(.int (0 : Int32)), (.ref f0_keys), (.int (1 : Int32)), (.ref f0_keys)])) rfl rfl (hb hby d3_114) _ k) ?_
    show Goes _ _ _ _ _ _ _ (T29.setTop (mkF m 115 #[.val (.ref x0), .val (.int x1), .val (.double x2), .second, .val (.int (1 : Int32)), .val (.int (0 : Int32))] [(.double w30), (.int (1 : Int32)), (.ref f0_keys)]))
    obtain ⟨cl31, Ar31, q31, S31, P31, G31⟩ := id f26
    have hin31 : ¬ ((1 : Int32) < 0 ∨ cl31.slots.size ≤ ((1 : Int32)).toNatClampNeg) := inb_of S31 ⟨by decide, by decide⟩
    obtain ⟨T32, h32, X32, e32, W32, st32⟩ := stD X29 hx hZ e29 Ar31 (j := (1 : Int32)) hin31 (g := (mkF m 115 #[.val (.ref x0), .val (.int x1), .val (.double x2), .second, .val (.int (1 : Int32)), .val (.int (0 : Int32))] [(.double w30), (.int (1 : Int32)), (.ref f0_keys)])) rfl rfl (hb hby d3_115)
    refine Goes.step st32 ?_
    have V32 := Arx.set Ar31 q31 S31 P31 G31 rfl W32
    have f33 := f21.other W32 (Or.inl ne_x0_f0_keys)
    have f34 := f22.other W32 (Or.inl ne_x0_f0_keys)
    have f35 := f23.other W32 (Or.inl ne_x0_f0_keys)
    have f36 := f24.wr W32
    have f37 := f25.other W32 ne_f0_nodes_f0_keys
    have f38 := V32
    have K39 : Keep h0 h32 [x0, f0_nodes, f0_keys] := K27.wr W32 (Or.inl (List.mem_of_getElem? (i := 2) rfl))
    have Z39 : n0 ≤ h32.size := by rw [Wr.size W32]; exact Z27
    have N39 := Fr.snoc X32 N27 g_f0_keys
    show Goes _ _ _ _ _ _ _ (T32.setTop (mkF m 116 #[.val (.ref x0), .val (.int x1), .val (.double x2), .second, .val (.int (1 : Int32)), .val (.int (0 : Int32))] []))
    refine Goes.step (fun _ k => XS.iload X32.here hx rfl (hb hby d3_116) rfl  k) ?_
    show Goes _ _ _ _ _ _ _ (T32.setTop (mkF m 118 #[.val (.ref x0), .val (.int x1), .val (.double x2), .second, .val (.int (1 : Int32)), .val (.int (0 : Int32))] [(.int (0 : Int32))]))
    refine Goes.step (fun _ k => XS.istore X32.here hx rfl (hb hby d3_118) rfl (l' := #[.val (.ref x0), .val (.int x1), .val (.double x2), .second, .val (.int (0 : Int32)), .val (.int (0 : Int32))]) rfl k) ?_
    show Goes _ _ _ _ _ _ _ (T32.setTop (mkF m 120 #[.val (.ref x0), .val (.int x1), .val (.double x2), .second, .val (.int (0 : Int32)), .val (.int (0 : Int32))] []))
    refine Goes.step (fun _ k => XS.goto X32.here hx rfl (pc0 := 120) (pc' := 59) rfl (hb hby d3_120) (by decide) (by decide) k) ?_
    show Goes _ _ _ _ _ _ _ (T32.setTop (mkF m 59 #[.val (.ref x0), .val (.int x1), .val (.double x2), .second, .val (.int (0 : Int32)), .val (.int (0 : Int32))] []))
    refine Goes.step (fun _ k => XS.iload X32.here hx rfl (hb hby d3_59) rfl  k) ?_
    show Goes _ _ _ _ _ _ _ (T32.setTop (mkF m 61 #[.val (.ref x0), .val (.int x1), .val (.double x2), .second, .val (.int (0 : Int32)), .val (.int (0 : Int32))] [(.int (0 : Int32))]))
    refine Goes.step (fun _ k => XS.ifYes X32.here hx rfl (pc0 := 61) (pc' := 123) rfl (hb hby d3_61) rfl ((if0 _ _).trans (flt (by decide : ¬ ((0 : Int32) < (0 : Int32)))).2.2.2) (by decide) (by decide) k) ?_
    show Goes _ _ _ _ _ _ _ (T32.setTop (mkF m 123 #[.val (.ref x0), .val (.int x1), .val (.double x2), .second, .val (.int (0 : Int32)), .val (.int (0 : Int32))] []))
    refine Goes.step (fun _ k => XS.aloadN X32.here hx rfl (hb hby d3_123) rfl rfl k) ?_
    show Goes _ _ _ _ _ _ _ (T32.setTop (mkF m 124 #[.val (.ref x0), .val (.int x1), .val (.double x2), .second, .val (.int (0 : Int32)), .val (.int (0 : Int32))] [(.ref x0)]))
    obtain ⟨T40, X40, e40, st40⟩ := getF X32 hx hZ hown (host := "") (Or.inl (hw _ (List.mem_of_getElem? (i := 10) rfl))) Via.refl e32 f33 (g := (mkF m 124 #[.val (.ref x0), .val (.int x1), .val (.double x2), .second, .val (.int (0 : Int32)), .val (.int (0 : Int32))] [(.ref x0)])) rfl rfl (hb hby d3_124)
    refine Goes.step st40 ?_
    show Goes _ _ _ _ _ _ _ (T40.setTop (mkF m 127 #[.val (.ref x0), .val (.int x1), .val (.double x2), .second, .val (.int (0 : Int32)), .val (.int (0 : Int32))] [(.ref f0_nodes)]))
    refine Goes.step (fun _ k => XS.iload X40.here hx rfl (hb hby d3_127) rfl  k) ?_
    show Goes _ _ _ _ _ _ _ (T40.setTop (mkF m 129 #[.val (.ref x0), .val (.int x1), .val (.double x2), .second, .val (.int (0 : Int32)), .val (.int (0 : Int32))] [(.int (0 : Int32)), (.ref f0_nodes)]))
    refine Goes.step (fun _ k => XS.iloadN X40.here hx rfl (hb hby d3_129) rfl  k) ?_
    show Goes _ _ _ _ _ _ _ (T40.setTop (mkF m 130 #[.val (.ref x0), .val (.int x1), .val (.double x2), .second, .val (.int (0 : Int32)), .val (.int (0 : Int32))] [(.int x1), (.int (0 : Int32)), (.ref f0_nodes)]))
    obtain ⟨cl41, Ar41, q41, S41, P41, G41⟩ := id f37
    have hin41 : ¬ ((0 : Int32) < 0 ∨ cl41.slots.size ≤ ((0 : Int32)).toNatClampNeg) := inb_of S41 ⟨by decide, by decide⟩
    obtain ⟨T42, h42, X42, e42, W42, st42⟩ := stI X40 hx hZ e40 Ar41 (j := (0 : Int32)) hin41 (g := (mkF m 130 #[.val (.ref x0), .val (.int x1), .val (.double x2), .second, .val (.int (0 : Int32)), .val (.int (0 : Int32))] [(.int x1), (.int (0 : Int32)), (.ref f0_nodes)])) rfl rfl (hb hby d3_130)
    refine Goes.step st42 ?_
    have V42 := Arx.set Ar41 q41 S41 P41 G41 rfl W42
    have f43 := f33.other W42 (Or.inl ne_x0_f0_nodes)
    have f44 := f34.other W42 (Or.inl ne_x0_f0_nodes)
    have f45 := f35.other W42 (Or.inl ne_x0_f0_nodes)
    have f46 := f36.wr W42
    have f47 := V42
    have f48 := f38.other W42 (Ne.symm ne_f0_nodes_f0_keys)
    have K49 : Keep h0 h42 [x0, f0_nodes, f0_keys] := K39.wr W42 (Or.inl (List.mem_of_getElem? (i := 1) rfl))
    have Z49 : n0 ≤ h42.size := by rw [Wr.size W42]; exact Z39
    have N49 := Fr.snoc X42 N39 g_f0_nodes
    show Goes _ _ _ _ _ _ _ (T42.setTop (mkF m 131 #[.val (.ref x0), .val (.int x1), .val (.double x2), .second, .val (.int (0 : Int32)), .val (.int (0 : Int32))] []))
    refine Goes.step (fun _ k => XS.aloadN X42.here hx rfl (hb hby d3_131) rfl rfl k) ?_
    show Goes _ _ _ _ _ _ _ (T42.setTop (mkF m 132 #[.val (.ref x0), .val (.int x1), .val (.double x2), .second, .val (.int (0 : Int32)), .val (.int (0 : Int32))] [(.ref x0)]))
    obtain ⟨T50, X50, e50, st50⟩ := getF X42 hx hZ hown (host := "") (Or.inl (hw _ (List.mem_of_getElem? (i := 13) rfl))) Via.refl e42 f44 (g := (mkF m 132 #[.val (.ref x0), .val (.int x1), .val (.double x2), .second, .val (.int (0 : Int32)), .val (.int (0 : Int32))] [(.ref x0)])) rfl rfl (hb hby d3_132)
    refine Goes.step st50 ?_
    show Goes _ _ _ _ _ _ _ (T50.setTop (mkF m 135 #[.val (.ref x0), .val (.int x1), .val (.double x2), .second, .val (.int (0 : Int32)), .val (.int (0 : Int32))] [(.ref f0_keys)]))
    refine Goes.step (fun _ k => XS.iload X50.here hx rfl (hb hby d3_135) rfl  k) ?_
    show Goes _ _ _ _ _ _ _ (T50.setTop (mkF m 137 #[.val (.ref x0), .val (.int x1), .val (.double x2), .second, .val (.int (0 : Int32)), .val (.int (0 : Int32))] [(.int (0 : Int32)), (.ref f0_keys)]))
    refine Goes.step (fun _ k => XS.dloadN X50.here hx rfl (hb hby d3_137) rfl k) ?_
    show Goes _ _ _ _ _ _ _ (T50.setTop (mkF m 138 #[.val (.ref x0), .val (.int x1), .val (.double x2), .second, .val (.int (0 : Int32)), .val (.int (0 : Int32))] [(.double x2), (.int (0 : Int32)), (.ref f0_keys)]))
    obtain ⟨cl51, Ar51, q51, S51, P51, G51⟩ := id f48
    have hin51 : ¬ ((0 : Int32) < 0 ∨ cl51.slots.size ≤ ((0 : Int32)).toNatClampNeg) := inb_of S51 ⟨by decide, by decide⟩
    obtain ⟨T52, h52, X52, e52, W52, st52⟩ := stD X50 hx hZ e50 Ar51 (j := (0 : Int32)) hin51 (g := (mkF m 138 #[.val (.ref x0), .val (.int x1), .val (.double x2), .second, .val (.int (0 : Int32)), .val (.int (0 : Int32))] [(.double x2), (.int (0 : Int32)), (.ref f0_keys)])) rfl rfl (hb hby d3_138)
    refine Goes.step st52 ?_
    have V52 := Arx.set Ar51 q51 S51 P51 G51 rfl W52
    have f53 := f43.other W52 (Or.inl ne_x0_f0_keys)
    have f54 := f44.other W52 (Or.inl ne_x0_f0_keys)
    have f55 := f45.other W52 (Or.inl ne_x0_f0_keys)
    have f56 := f46.wr W52
    have f57 := f47.other W52 ne_f0_nodes_f0_keys
    have f58 := V52
    have K59 : Keep h0 h52 [x0, f0_nodes, f0_keys] := K49.wr W52 (Or.inl (List.mem_of_getElem? (i := 2) rfl))
    have Z59 : n0 ≤ h52.size := by rw [Wr.size W52]; exact Z49
    have N59 := Fr.snoc X52 N49 g_f0_keys
    show Goes _ _ _ _ _ _ _ (T52.setTop (mkF m 139 #[.val (.ref x0), .val (.int x1), .val (.double x2), .second, .val (.int (0 : Int32)), .val (.int (0 : Int32))] []))
    exact Goes.retV X52 hx (BodyLoose.notSynchronized Bd) Bd.returns (hb hby d3_139) (by show Q3_1 Z x0 x1 x2 f0_nodes f0_keys ka_f0_nodes ka_f0_keys h0 n0 none T52.heap _; rw [e52]; exact ⟨N59, K59, ⟨rfl, f53, f54, f55, f56, f57, f58⟩⟩) (by decide) (by decide)
  · refine Goes.step (fun _ k => XS.ifYes X13.here hx rfl (pc0 := 77) (pc' := 123) rfl (hb hby d3_77) rfl ((if0 _ _).trans (flt c77_15).2.2.2) (by decide) (by decide) k) ?_
    show Goes _ _ _ _ _ _ _ (T13.setTop (mkF m 123 #[.val (.ref x0), .val (.int x1), .val (.double x2), .second, .val (.int (1 : Int32)), .unset] []))
    refine Goes.step (fun _ k => XS.aloadN X13.here hx rfl (hb hby d3_123) rfl rfl k) ?_
    show Goes _ _ _ _ _ _ _ (T13.setTop (mkF m 124 #[.val (.ref x0), .val (.int x1), .val (.double x2), .second, .val (.int (1 : Int32)), .unset] [(.ref x0)]))
    obtain ⟨T60, X60, e60, st60⟩ := getF X13 hx hZ hown (host := "") (Or.inl (hw _ (List.mem_of_getElem? (i := 10) rfl))) Via.refl e13 f6 (g := (mkF m 124 #[.val (.ref x0), .val (.int x1), .val (.double x2), .second, .val (.int (1 : Int32)), .unset] [(.ref x0)])) rfl rfl (hb hby d3_124)
    refine Goes.step st60 ?_
    show Goes _ _ _ _ _ _ _ (T60.setTop (mkF m 127 #[.val (.ref x0), .val (.int x1), .val (.double x2), .second, .val (.int (1 : Int32)), .unset] [(.ref f0_nodes)]))
    refine Goes.step (fun _ k => XS.iload X60.here hx rfl (hb hby d3_127) rfl  k) ?_
    show Goes _ _ _ _ _ _ _ (T60.setTop (mkF m 129 #[.val (.ref x0), .val (.int x1), .val (.double x2), .second, .val (.int (1 : Int32)), .unset] [(.int (1 : Int32)), (.ref f0_nodes)]))
    refine Goes.step (fun _ k => XS.iloadN X60.here hx rfl (hb hby d3_129) rfl  k) ?_
    show Goes _ _ _ _ _ _ _ (T60.setTop (mkF m 130 #[.val (.ref x0), .val (.int x1), .val (.double x2), .second, .val (.int (1 : Int32)), .unset] [(.int x1), (.int (1 : Int32)), (.ref f0_nodes)]))
    obtain ⟨cl61, Ar61, q61, S61, P61, G61⟩ := id f10
    have hin61 : ¬ ((1 : Int32) < 0 ∨ cl61.slots.size ≤ ((1 : Int32)).toNatClampNeg) := inb_of S61 ⟨by decide, by decide⟩
    obtain ⟨T62, h62, X62, e62, W62, st62⟩ := stI X60 hx hZ e60 Ar61 (j := (1 : Int32)) hin61 (g := (mkF m 130 #[.val (.ref x0), .val (.int x1), .val (.double x2), .second, .val (.int (1 : Int32)), .unset] [(.int x1), (.int (1 : Int32)), (.ref f0_nodes)])) rfl rfl (hb hby d3_130)
    refine Goes.step st62 ?_
    have V62 := Arx.set Ar61 q61 S61 P61 G61 rfl W62
    have f63 := f6.other W62 (Or.inl ne_x0_f0_nodes)
    have f64 := f7.other W62 (Or.inl ne_x0_f0_nodes)
    have f65 := f8.other W62 (Or.inl ne_x0_f0_nodes)
    have f66 := f9.wr W62
    have f67 := V62
    have f68 := f11.other W62 (Ne.symm ne_f0_nodes_f0_keys)
    have K69 : Keep h0 h62 [x0, f0_nodes, f0_keys] := K12.wr W62 (Or.inl (List.mem_of_getElem? (i := 1) rfl))
    have Z69 : n0 ≤ h62.size := by rw [Wr.size W62]; exact Z12
    have N69 := Fr.snoc X62 N12 g_f0_nodes
    show Goes _ _ _ _ _ _ _ (T62.setTop (mkF m 131 #[.val (.ref x0), .val (.int x1), .val (.double x2), .second, .val (.int (1 : Int32)), .unset] []))
    refine Goes.step (fun _ k => XS.aloadN X62.here hx rfl (hb hby d3_131) rfl rfl k) ?_
    show Goes _ _ _ _ _ _ _ (T62.setTop (mkF m 132 #[.val (.ref x0), .val (.int x1), .val (.double x2), .second, .val (.int (1 : Int32)), .unset] [(.ref x0)]))
    obtain ⟨T70, X70, e70, st70⟩ := getF X62 hx hZ hown (host := "") (Or.inl (hw _ (List.mem_of_getElem? (i := 13) rfl))) Via.refl e62 f64 (g := (mkF m 132 #[.val (.ref x0), .val (.int x1), .val (.double x2), .second, .val (.int (1 : Int32)), .unset] [(.ref x0)])) rfl rfl (hb hby d3_132)
    refine Goes.step st70 ?_
    show Goes _ _ _ _ _ _ _ (T70.setTop (mkF m 135 #[.val (.ref x0), .val (.int x1), .val (.double x2), .second, .val (.int (1 : Int32)), .unset] [(.ref f0_keys)]))
    refine Goes.step (fun _ k => XS.iload X70.here hx rfl (hb hby d3_135) rfl  k) ?_
    show Goes _ _ _ _ _ _ _ (T70.setTop (mkF m 137 #[.val (.ref x0), .val (.int x1), .val (.double x2), .second, .val (.int (1 : Int32)), .unset] [(.int (1 : Int32)), (.ref f0_keys)]))
    refine Goes.step (fun _ k => XS.dloadN X70.here hx rfl (hb hby d3_137) rfl k) ?_
    show Goes _ _ _ _ _ _ _ (T70.setTop (mkF m 138 #[.val (.ref x0), .val (.int x1), .val (.double x2), .second, .val (.int (1 : Int32)), .unset] [(.double x2), (.int (1 : Int32)), (.ref f0_keys)]))
    obtain ⟨cl71, Ar71, q71, S71, P71, G71⟩ := id f68
    have hin71 : ¬ ((1 : Int32) < 0 ∨ cl71.slots.size ≤ ((1 : Int32)).toNatClampNeg) := inb_of S71 ⟨by decide, by decide⟩
    obtain ⟨T72, h72, X72, e72, W72, st72⟩ := stD X70 hx hZ e70 Ar71 (j := (1 : Int32)) hin71 (g := (mkF m 138 #[.val (.ref x0), .val (.int x1), .val (.double x2), .second, .val (.int (1 : Int32)), .unset] [(.double x2), (.int (1 : Int32)), (.ref f0_keys)])) rfl rfl (hb hby d3_138)
    refine Goes.step st72 ?_
    have V72 := Arx.set Ar71 q71 S71 P71 G71 rfl W72
    have f73 := f63.other W72 (Or.inl ne_x0_f0_keys)
    have f74 := f64.other W72 (Or.inl ne_x0_f0_keys)
    have f75 := f65.other W72 (Or.inl ne_x0_f0_keys)
    have f76 := f66.wr W72
    have f77 := f67.other W72 ne_f0_nodes_f0_keys
    have f78 := V72
    have K79 : Keep h0 h72 [x0, f0_nodes, f0_keys] := K69.wr W72 (Or.inl (List.mem_of_getElem? (i := 2) rfl))
    have Z79 : n0 ≤ h72.size := by rw [Wr.size W72]; exact Z69
    have N79 := Fr.snoc X72 N69 g_f0_keys
    show Goes _ _ _ _ _ _ _ (T72.setTop (mkF m 139 #[.val (.ref x0), .val (.int x1), .val (.double x2), .second, .val (.int (1 : Int32)), .unset] []))
    exact Goes.retV X72 hx (BodyLoose.notSynchronized Bd) Bd.returns (hb hby d3_139) (by show Q3_1 Z x0 x1 x2 f0_nodes f0_keys ka_f0_nodes ka_f0_keys h0 n0 none T72.heap _; rw [e72]; exact ⟨N79, K79, ⟨rfl, f73, f74, f75, f76, f77, f78⟩⟩) (by decide) (by decide)
theorem ef_3_2 (m : MethodId) (x0 : Addr) (x1 : Int32) (x2 : UInt64) (f0_nodes : Addr) (f0_keys : Addr) (ka_f0_nodes : ClassId) (ka_f0_keys : ClassId)  : entryFrame m #[(.ref x0), (.int x1), (.double x2)] 6 = mkF m 0 #[.val (.ref x0), .val (.int x1), .val (.double x2), .second, .unset, .unset] [] := by first | (simp [entryFrame, mkF, argsToLocals, Value.category]; done) | rfl
def Q3_2 (Z : State) (x0 : Addr) (x1 : Int32) (x2 : UInt64) (f0_nodes : Addr) (f0_keys : Addr) (ka_f0_nodes : ClassId) (ka_f0_keys : ClassId) (h0 : Heap) (n0 : Nat) (v : Option Value) (h : Heap) (L : List Loc) : Prop := Fr n0 L ∧ Keep h0 h [x0, f0_nodes, f0_keys] ∧ ((v = none ∧ Fld Z h x0 "com/example/hailwise/hailwise/NodeQueue" "nodes" "[I" (.ref f0_nodes) ∧ Fld Z h x0 "com/example/hailwise/hailwise/NodeQueue" "keys" "[D" (.ref f0_keys) ∧ Fld Z h x0 "com/example/hailwise/hailwise/NodeQueue" "size" "I" (.int (3 : Int32)) ∧ Exa Z h x0 "com/example/hailwise/hailwise/NodeQueue" ∧ Arx Z h f0_nodes ka_f0_nodes .int (64 : Int32) ∧ Arx Z h f0_keys ka_f0_keys .double (64 : Int32)))
set_option maxRecDepth 65536 in
set_option maxHeartbeats 40000000 in
theorem rm3_2 (l : Launch) (Z : State) (a0 : Array Value) (hw : ∀ d ∈ tables_1, d.before a0 Z = true) (ws : List Jvm.Cond) (x0 : Addr) (x1 : Int32) (x2 : UInt64) (f0_nodes : Addr) (f0_keys : Addr) (ka_f0_nodes : ClassId) (ka_f0_keys : ClassId) (h0 : Heap) (n0 : Nat) (Z0 : n0 ≤ h0.size) (F0_nodes : Fld Z h0 x0 "com/example/hailwise/hailwise/NodeQueue" "nodes" "[I" (.ref f0_nodes)) (F0_keys : Fld Z h0 x0 "com/example/hailwise/hailwise/NodeQueue" "keys" "[D" (.ref f0_keys)) (F0_size : Fld Z h0 x0 "com/example/hailwise/hailwise/NodeQueue" "size" "I" (.int (2 : Int32))) (E_x0 : Exa Z h0 x0 "com/example/hailwise/hailwise/NodeQueue") (V_f0_nodes : Arx Z h0 f0_nodes ka_f0_nodes .int (64 : Int32)) (V_f0_keys : Arx Z h0 f0_keys ka_f0_keys .double (64 : Int32)) (g_x0 : n0 ≤ x0) (g_f0_nodes : n0 ≤ f0_nodes) (g_f0_keys : n0 ≤ f0_keys) (ne_x0_f0_nodes : x0 ≠ f0_nodes) (ne_x0_f0_keys : x0 ≠ f0_keys) (ne_f0_nodes_f0_keys : f0_nodes ≠ f0_keys) :
    MetFree l (⟨"com/example/hailwise/hailwise/NodeQueue", "add", "(ID)V"⟩ : MethodName) (head1 (Jvm.Cond.code (⟨"com/example/hailwise/hailwise/NodeQueue", "add", "(ID)V"⟩ : MethodName) prog_21_method_4_code 6 none :: ws) ({ frames := 0, cells := 0, slots := 0, locals := 0 } : Room)) (fun a U => a = #[(.ref x0), (.int x1), (.double x2)] ∧ Z.Warmed39 U.vm ∧ U.heap = h0) (fun _ _ _ _ _ => True) (fun _ U o U' => ∃ v L, o = .returned v ∧ Q3_2 Z x0 x1 x2 f0_nodes f0_keys ka_f0_nodes ka_f0_keys h0 n0 v U'.heap L ∧ FrameEnd U o U' L ({ frames := 0, cells := 0, slots := 0, locals := 0 } : Room).cells ({ frames := 0, cells := 0, slots := 0, locals := 0 } : Room).slots) := by
  refine MetFree.of_bodySF (plainFor_of_name pn_3) hisR ?_
  intro p e s m args below meth c s₁ Bd hml0 hP hK
  obtain ⟨rfl, hZ, hh⟩ := hP
  have hx := Bd.exec
  have hby := Bd.bytes
  have hml : c.maxLocals = 6 := hml0
  have hown : s.vm.findClass "com/example/hailwise/hailwise/NodeQueue" = some m.cls := findClass_of_methodNamed Bd.named
  have hnm := (name_of_methodNamed Bd.named Bd.method).1
  have X0 : Stand p l e ({ frames := 0, cells := 0, slots := 0, locals := 0 } : Room) s m #[(.ref x0), (.int x1), (.double x2)] below meth c s₁ [] 0 0 := Stand.of_body Bd
  have e0 : s₁.heap = h0 := by rw [← hh, Bd.state]; rfl
  have N0 := Fr.nil n0
  have K0 : Keep h0 h0 [x0, f0_nodes, f0_keys] := Keep.refl h0 _
  refine (?_ : Goes p e below s ({ frames := 0, cells := 0, slots := 0, locals := 0 } : Room).cells ({ frames := 0, cells := 0, slots := 0, locals := 0 } : Room).slots (fun v h L => Q3_2 Z x0 x1 x2 f0_nodes f0_keys ka_f0_nodes ka_f0_keys h0 n0 v h L) (s₁.setTop (entryFrame m #[(.ref x0), (.int x1), (.double x2)] 6)))
  rw [ef_3_2 m x0 x1 x2 f0_nodes f0_keys ka_f0_nodes ka_f0_keys ]
  show Goes _ _ _ _ _ _ _ (s₁.setTop (mkF m 0 #[.val (.ref x0), .val (.int x1), .val (.double x2), .second, .unset, .unset] []))
  refine Goes.step (fun _ k => XS.aloadN X0.here hx rfl (hb hby d3_0) rfl rfl k) ?_
  show Goes _ _ _ _ _ _ _ (s₁.setTop (mkF m 1 #[.val (.ref x0), .val (.int x1), .val (.double x2), .second, .unset, .unset] [(.ref x0)]))
  obtain ⟨T1, X1, e1, st1⟩ := getF X0 hx hZ hown (host := "") (Or.inl (hw _ (List.mem_of_getElem? (i := 20) rfl))) Via.refl e0 F0_size (g := (mkF m 1 #[.val (.ref x0), .val (.int x1), .val (.double x2), .second, .unset, .unset] [(.ref x0)])) rfl rfl (hb hby d3_1)
  refine Goes.step st1 ?_
  show Goes _ _ _ _ _ _ _ (T1.setTop (mkF m 4 #[.val (.ref x0), .val (.int x1), .val (.double x2), .second, .unset, .unset] [(.int (2 : Int32))]))
  refine Goes.step (fun _ k => XS.aloadN X1.here hx rfl (hb hby d3_4) rfl rfl k) ?_
  show Goes _ _ _ _ _ _ _ (T1.setTop (mkF m 5 #[.val (.ref x0), .val (.int x1), .val (.double x2), .second, .unset, .unset] [(.ref x0), (.int (2 : Int32))]))
  obtain ⟨T2, X2, e2, st2⟩ := getF X1 hx hZ hown (host := "") (Or.inl (hw _ (List.mem_of_getElem? (i := 10) rfl))) Via.refl e1 F0_nodes (g := (mkF m 5 #[.val (.ref x0), .val (.int x1), .val (.double x2), .second, .unset, .unset] [(.ref x0), (.int (2 : Int32))])) rfl rfl (hb hby d3_5)
  refine Goes.step st2 ?_
  show Goes _ _ _ _ _ _ _ (T2.setTop (mkF m 8 #[.val (.ref x0), .val (.int x1), .val (.double x2), .second, .unset, .unset] [(.ref f0_nodes), (.int (2 : Int32))]))
  obtain ⟨cl3, Ar3, q3, S3, P3, G3⟩ := id V_f0_nodes
  refine Goes.step (fun _ k => X2.arraylength hx (by rw [e2]; exact Ar3.1) (State.isArrayOf_alike hZ.alike Ar3.2.1) (g := (mkF m 8 #[.val (.ref x0), .val (.int x1), .val (.double x2), .second, .unset, .unset] [(.ref f0_nodes), (.int (2 : Int32))])) rfl rfl (hb hby d3_8) _ k) ?_
  rw [len_of S3 P3]
  show Goes _ _ _ _ _ _ _ (T2.setTop (mkF m 9 #[.val (.ref x0), .val (.int x1), .val (.double x2), .second, .unset, .unset] [(.int (64 : Int32)), (.int (2 : Int32))]))
  refine Goes.step (fun _ k => XS.icmpYes X2.here hx rfl (pc0 := 9) (pc' := 46) rfl (hb hby d3_9) rfl (feq (by decide : ¬ ((2 : Int32) = (64 : Int32)))).2 (by decide) (by decide) k) ?_
  show Goes _ _ _ _ _ _ _ (T2.setTop (mkF m 46 #[.val (.ref x0), .val (.int x1), .val (.double x2), .second, .unset, .unset] []))
  refine Goes.step (fun _ k => XS.aloadN X2.here hx rfl (hb hby d3_46) rfl rfl k) ?_
  show Goes _ _ _ _ _ _ _ (T2.setTop (mkF m 47 #[.val (.ref x0), .val (.int x1), .val (.double x2), .second, .unset, .unset] [(.ref x0)]))
  refine Goes.step (fun _ k => XS.dup X2.here hx rfl (hb hby d3_47) rfl rfl k) ?_
  show Goes _ _ _ _ _ _ _ (T2.setTop (mkF m 48 #[.val (.ref x0), .val (.int x1), .val (.double x2), .second, .unset, .unset] [(.ref x0), (.ref x0)]))
  obtain ⟨T4, X4, e4, st4⟩ := getF X2 hx hZ hown (host := "") (Or.inl (hw _ (List.mem_of_getElem? (i := 20) rfl))) Via.refl e2 F0_size (g := (mkF m 48 #[.val (.ref x0), .val (.int x1), .val (.double x2), .second, .unset, .unset] [(.ref x0), (.ref x0)])) rfl rfl (hb hby d3_48)
  refine Goes.step st4 ?_
  show Goes _ _ _ _ _ _ _ (T4.setTop (mkF m 51 #[.val (.ref x0), .val (.int x1), .val (.double x2), .second, .unset, .unset] [(.int (2 : Int32)), (.ref x0)]))
  refine Goes.step (fun _ k => XS.dupX1 X4.here hx rfl (hb hby d3_51) rfl rfl rfl k) ?_
  show Goes _ _ _ _ _ _ _ (T4.setTop (mkF m 52 #[.val (.ref x0), .val (.int x1), .val (.double x2), .second, .unset, .unset] [(.int (2 : Int32)), (.ref x0), (.int (2 : Int32))]))
  refine Goes.step (fun _ k => XS.iconst X4.here hx rfl (hb hby d3_52) k) ?_
  show Goes _ _ _ _ _ _ _ (T4.setTop (mkF m 53 #[.val (.ref x0), .val (.int x1), .val (.double x2), .second, .unset, .unset] [(.int (1 : Int32)), (.int (2 : Int32)), (.ref x0), (.int (2 : Int32))]))
  refine Goes.step (fun _ k => XS.iadd X4.here hx rfl (hb hby d3_53) rfl k) ?_
  show Goes _ _ _ _ _ _ _ (T4.setTop (mkF m 54 #[.val (.ref x0), .val (.int x1), .val (.double x2), .second, .unset, .unset] [(.int (3 : Int32)), (.ref x0), (.int (2 : Int32))]))
  obtain ⟨T5, h5, X5, e5, W5, st5⟩ := putF X4 hx hZ hown (host := "") (Or.inl (hw _ (List.mem_of_getElem? (i := 20) rfl))) Via.refl e4 F0_size E_x0 (Or.inl (hw _ (List.mem_of_getElem? (i := 21) rfl))) (hw _ (List.mem_of_getElem? (i := 1) rfl)) (ty := .int) (by decide) rfl rfl (g := (mkF m 54 #[.val (.ref x0), .val (.int x1), .val (.double x2), .second, .unset, .unset] [(.int (3 : Int32)), (.ref x0), (.int (2 : Int32))])) rfl rfl (hb hby d3_54)
  refine Goes.step st5 ?_
  have f6 := F0_nodes.other W5 (Or.inr (slot_ne (Or.inl (hw _ (List.mem_of_getElem? (i := 11) rfl))) (Or.inl (hw _ (List.mem_of_getElem? (i := 21) rfl))) (by decide) (t := (.array .int)) (t' := .int) (by decide) (by decide)))
  have f7 := F0_keys.other W5 (Or.inr (slot_ne (Or.inl (hw _ (List.mem_of_getElem? (i := 14) rfl))) (Or.inl (hw _ (List.mem_of_getElem? (i := 21) rfl))) (by decide) (t := (.array .double)) (t' := .int) (by decide) (by decide)))
  have f8 := F0_size.same W5
  have f9 := E_x0.wr W5
  have f10 := V_f0_nodes.other W5 (Ne.symm ne_x0_f0_nodes)
  have f11 := V_f0_keys.other W5 (Ne.symm ne_x0_f0_keys)
  have K12 : Keep h0 h5 [x0, f0_nodes, f0_keys] := K0.wr W5 (Or.inl (List.mem_of_getElem? (i := 0) rfl))
  have Z12 : n0 ≤ h5.size := by rw [Wr.size W5]; exact Z0
  have N12 := Fr.snoc X5 N0 g_x0
  show Goes _ _ _ _ _ _ _ (T5.setTop (mkF m 57 #[.val (.ref x0), .val (.int x1), .val (.double x2), .second, .unset, .unset] [(.int (2 : Int32))]))
  refine Goes.step (fun _ k => XS.istore X5.here hx rfl (hb hby d3_57) rfl (l' := #[.val (.ref x0), .val (.int x1), .val (.double x2), .second, .val (.int (2 : Int32)), .unset]) rfl k) ?_
  show Goes _ _ _ _ _ _ _ (T5.setTop (mkF m 59 #[.val (.ref x0), .val (.int x1), .val (.double x2), .second, .val (.int (2 : Int32)), .unset] []))
  refine Goes.step (fun _ k => XS.iload X5.here hx rfl (hb hby d3_59) rfl  k) ?_
  show Goes _ _ _ _ _ _ _ (T5.setTop (mkF m 61 #[.val (.ref x0), .val (.int x1), .val (.double x2), .second, .val (.int (2 : Int32)), .unset] [(.int (2 : Int32))]))
  refine Goes.step (fun _ k => XS.ifNo X5.here hx rfl (hb hby d3_61) rfl ((if0 _ _).trans (tlt (by decide : (0 : Int32) < (2 : Int32))).2.2.2) k) ?_
  show Goes _ _ _ _ _ _ _ (T5.setTop (mkF m 64 #[.val (.ref x0), .val (.int x1), .val (.double x2), .second, .val (.int (2 : Int32)), .unset] []))
  refine Goes.step (fun _ k => XS.aloadN X5.here hx rfl (hb hby d3_64) rfl rfl k) ?_
  show Goes _ _ _ _ _ _ _ (T5.setTop (mkF m 65 #[.val (.ref x0), .val (.int x1), .val (.double x2), .second, .val (.int (2 : Int32)), .unset] [(.ref x0)]))
  obtain ⟨T13, X13, e13, st13⟩ := getF X5 hx hZ hown (host := "") (Or.inl (hw _ (List.mem_of_getElem? (i := 13) rfl))) Via.refl e5 f7 (g := (mkF m 65 #[.val (.ref x0), .val (.int x1), .val (.double x2), .second, .val (.int (2 : Int32)), .unset] [(.ref x0)])) rfl rfl (hb hby d3_65)
  refine Goes.step st13 ?_
  show Goes _ _ _ _ _ _ _ (T13.setTop (mkF m 68 #[.val (.ref x0), .val (.int x1), .val (.double x2), .second, .val (.int (2 : Int32)), .unset] [(.ref f0_keys)]))
  refine Goes.step (fun _ k => XS.iload X13.here hx rfl (hb hby d3_68) rfl  k) ?_
  show Goes _ _ _ _ _ _ _ (T13.setTop (mkF m 70 #[.val (.ref x0), .val (.int x1), .val (.double x2), .second, .val (.int (2 : Int32)), .unset] [(.int (2 : Int32)), (.ref f0_keys)]))
  refine Goes.step (fun _ k => XS.iconst X13.here hx rfl (hb hby d3_70) k) ?_
  show Goes _ _ _ _ _ _ _ (T13.setTop (mkF m 71 #[.val (.ref x0), .val (.int x1), .val (.double x2), .second, .val (.int (2 : Int32)), .unset] [(.int (1 : Int32)), (.int (2 : Int32)), (.ref f0_keys)]))
  refine Goes.step (fun _ k => XS.isub X13.here hx rfl (hb hby d3_71) rfl k) ?_
  show Goes _ _ _ _ _ _ _ (T13.setTop (mkF m 72 #[.val (.ref x0), .val (.int x1), .val (.double x2), .second, .val (.int (2 : Int32)), .unset] [(.int (1 : Int32)), (.ref f0_keys)]))
  refine Goes.step (fun _ k => XS.iconst X13.here hx rfl (hb hby d3_72) k) ?_
  show Goes _ _ _ _ _ _ _ (T13.setTop (mkF m 73 #[.val (.ref x0), .val (.int x1), .val (.double x2), .second, .val (.int (2 : Int32)), .unset] [(.int (2 : Int32)), (.int (1 : Int32)), (.ref f0_keys)]))
  refine Goes.step (fun _ k => XS.idiv X13.here hx rfl (hb hby d3_73) rfl (by decide) k) ?_
  show Goes _ _ _ _ _ _ _ (T13.setTop (mkF m 74 #[.val (.ref x0), .val (.int x1), .val (.double x2), .second, .val (.int (2 : Int32)), .unset] [(.int (0 : Int32)), (.ref f0_keys)]))
  obtain ⟨cl14, Ar14, q14, S14, P14, G14⟩ := id f11
  have hin14 : ¬ ((0 : Int32) < 0 ∨ cl14.slots.size ≤ ((0 : Int32)).toNatClampNeg) := inb_of S14 ⟨by decide, by decide⟩
  obtain ⟨w14, hat14⟩ := own_arD G14 hin14
  refine Goes.step (fun _ k => X13.daload hx (j := (0 : Int32)) (v := (.double w14)) (by rw [e13]; exact Ar14.1) (State.isArrayOf_alike hZ.alike Ar14.2.1) Ar14.2.2 hin14 hat14 (g := (mkF m 74 #[.val (.ref x0), .val (.int x1), .val (.double x2), .second, .val (.int (2 : Int32)), .unset] [(.int (0 : Int32)), (.ref f0_keys)])) rfl rfl (hb hby d3_74) _ k) ?_
  show Goes _ _ _ _ _ _ _ (T13.setTop (mkF m 75 #[.val (.ref x0), .val (.int x1), .val (.double x2), .second, .val (.int (2 : Int32)), .unset] [(.double w14)]))
  refine Goes.step (fun _ k => XS.dloadN X13.here hx rfl (hb hby d3_75) rfl k) ?_
  show Goes _ _ _ _ _ _ _ (T13.setTop (mkF m 76 #[.val (.ref x0), .val (.int x1), .val (.double x2), .second, .val (.int (2 : Int32)), .unset] [(.double x2), (.double w14)]))
  refine Goes.step (fun _ k => XS.dcmpS X13.here hx rfl (hb hby d3_76) rfl rfl k) ?_
  show Goes _ _ _ _ _ _ _ (T13.setTop (mkF m 77 #[.val (.ref x0), .val (.int x1), .val (.double x2), .second, .val (.int (2 : Int32)), .unset] [(.int (cmpValue (FP.dcmp w14 x2) .l))]))
  by_cases c77_15 : (0 : Int32) < (cmpValue (FP.dcmp w14 x2) .l)
  · refine Goes.step (fun _ k => XS.ifNo X13.here hx rfl (hb hby d3_77) rfl ((if0 _ _).trans (tlt c77_15).2.2.2) k) ?_
    show Goes _ _ _ _ _ _ _ (T13.setTop (mkF m 80 #[.val (.ref x0), .val (.int x1), .val (.double x2), .second, .val (.int (2 : Int32)), .unset] []))
    refine Goes.step (fun _ k => XS.iload X13.here hx rfl (hb hby d3_80) rfl  k) ?_
    show Goes _ _ _ _ _ _ _ (T13.setTop (mkF m 82 #[.val (.ref x0), .val (.int x1), .val (.double x2), .second, .val (.int (2 : Int32)), .unset] [(.int (2 : Int32))]))
    refine Goes.step (fun _ k => XS.iconst X13.here hx rfl (hb hby d3_82) k) ?_
    show Goes _ _ _ _ _ _ _ (T13.setTop (mkF m 83 #[.val (.ref x0), .val (.int x1), .val (.double x2), .second, .val (.int (2 : Int32)), .unset] [(.int (1 : Int32)), (.int (2 : Int32))]))
    refine Goes.step (fun _ k => XS.isub X13.here hx rfl (hb hby d3_83) rfl k) ?_
    show Goes _ _ _ _ _ _ _ (T13.setTop (mkF m 84 #[.val (.ref x0), .val (.int x1), .val (.double x2), .second, .val (.int (2 : Int32)), .unset] [(.int (1 : Int32))]))
    refine Goes.step (fun _ k => XS.iconst X13.here hx rfl (hb hby d3_84) k) ?_
    show Goes _ _ _ _ _ _ _ (T13.setTop (mkF m 85 #[.val (.ref x0), .val (.int x1), .val (.double x2), .second, .val (.int (2 : Int32)), .unset] [(.int (2 : Int32)), (.int (1 : Int32))]))
    refine Goes.step (fun _ k => XS.idiv X13.here hx rfl (hb hby d3_85) rfl (by decide) k) ?_
    show Goes _ _ _ _ _ _ _ (T13.setTop (mkF m 86 #[.val (.ref x0), .val (.int x1), .val (.double x2), .second, .val (.int (2 : Int32)), .unset] [(.int (0 : Int32))]))
    refine Goes.step (fun _ k => XS.istore X13.here hx rfl (hb hby d3_86) rfl (l' := #[.val (.ref x0), .val (.int x1), .val (.double x2), .second, .val (.int (2 : Int32)), .val (.int (0 : Int32))]) rfl k) ?_
    show Goes _ _ _ _ _ _ _ (T13.setTop (mkF m 88 #[.val (.ref x0), .val (.int x1), .val (.double x2), .second, .val (.int (2 : Int32)), .val (.int (0 : Int32))] []))
    refine Goes.step (fun _ k => XS.aloadN X13.here hx rfl (hb hby d3_88) rfl rfl k) ?_
    show Goes _ _ _ _ _ _ _ (T13.setTop (mkF m 89 #[.val (.ref x0), .val (.int x1), .val (.double x2), .second, .val (.int (2 : Int32)), .val (.int (0 : Int32))] [(.ref x0)]))
    obtain ⟨T16, X16, e16, st16⟩ := getF X13 hx hZ hown (host := "") (Or.inl (hw _ (List.mem_of_getElem? (i := 10) rfl))) Via.refl e13 f6 (g := (mkF m 89 #[.val (.ref x0), .val (.int x1), .val (.double x2), .second, .val (.int (2 : Int32)), .val (.int (0 : Int32))] [(.ref x0)])) rfl rfl (hb hby d3_89)
    refine Goes.step st16 ?_
    show Goes _ _ _ _ _ _ _ (T16.setTop (mkF m 92 #[.val (.ref x0), .val (.int x1), .val (.double x2), .second, .val (.int (2 : Int32)), .val (.int (0 : Int32))] [(.ref f0_nodes)]))
    refine Goes.step (fun _ k => XS.iload X16.here hx rfl (hb hby d3_92) rfl  k) ?_
    show Goes _ _ _ _ _ _ _ (T16.setTop (mkF m 94 #[.val (.ref x0), .val (.int x1), .val (.double x2), .second, .val (.int (2 : Int32)), .val (.int (0 : Int32))] [(.int (2 : Int32)), (.ref f0_nodes)]))
    refine Goes.step (fun _ k => XS.aloadN X16.here hx rfl (hb hby d3_94) rfl rfl k) ?_
    show Goes _ _ _ _ _ _ _ (T16.setTop (mkF m 95 #[.val (.ref x0), .val (.int x1), .val (.double x2), .second, .val (.int (2 : Int32)), .val (.int (0 : Int32))] [(.ref x0), (.int (2 : Int32)), (.ref f0_nodes)]))
    obtain ⟨T17, X17, e17, st17⟩ := getF X16 hx hZ hown (host := "") (Or.inl (hw _ (List.mem_of_getElem? (i := 10) rfl))) Via.refl e16 f6 (g := (mkF m 95 #[.val (.ref x0), .val (.int x1), .val (.double x2), .second, .val (.int (2 : Int32)), .val (.int (0 : Int32))] [(.ref x0), (.int (2 : Int32)), (.ref f0_nodes)])) rfl rfl (hb hby d3_95)
    refine Goes.step st17 ?_
    show Goes _ _ _ _ _ _ _ (T17.setTop (mkF m 98 #[.val (.ref x0), .val (.int x1), .val (.double x2), .second, .val (.int (2 : Int32)), .val (.int (0 : Int32))] [(.ref f0_nodes), (.int (2 : Int32)), (.ref f0_nodes)]))
    refine Goes.step (fun _ k => XS.iload X17.here hx rfl (hb hby d3_98) rfl  k) ?_
    show Goes _ _ _ _ _ _ _ (T17.setTop (mkF m 100 #[.val (.ref x0), .val (.int x1), .val (.double x2), .second, .val (.int (2 : Int32)), .val (.int (0 : Int32))] [(.int (0 : Int32)), (.ref f0_nodes), (.int (2 : Int32)), (.ref f0_nodes)]))
    obtain ⟨cl18, Ar18, q18, S18, P18, G18⟩ := id f10
    have hin18 : ¬ ((0 : Int32) < 0 ∨ cl18.slots.size ≤ ((0 : Int32)).toNatClampNeg) := inb_of S18 ⟨by decide, by decide⟩
    obtain ⟨w18, hat18⟩ := own_arI G18 hin18
    refine Goes.step (fun _ k => X17.iaload hx (j := (0 : Int32)) (v := (.int w18)) (by rw [e17]; exact Ar18.1) (State.isArrayOf_alike hZ.alike Ar18.2.1) Ar18.2.2 hin18 hat18 (g := (mkF m 100 #[.val (.ref x0), .val (.int x1), .val (.double x2), .second, .val (.int (2 : Int32)), .val (.int (0 : Int32))] [(.int (0 : Int32)), (.ref f0_nodes), (.int (2 : Int32)), (.ref f0_nodes)])) rfl rfl (hb hby d3_100) _ k) ?_
    show Goes _ _ _ _ _ _ _ (T17.setTop (mkF m 101 #[.val (.ref x0), .val (.int x1), .val (.double x2), .second, .val (.int (2 : Int32)), .val (.int (0 : Int32))] [(.int w18), (.int (2 : Int32)), (.ref f0_nodes)]))
    obtain ⟨cl19, Ar19, q19, S19, P19, G19⟩ := id f10
    have hin19 : ¬ ((2 : Int32) < 0 ∨ cl19.slots.size ≤ ((2 : Int32)).toNatClampNeg) := inb_of S19 ⟨by decide, by decide⟩
    obtain ⟨T20, h20, X20, e20, W20, st20⟩ := stI X17 hx hZ e17 Ar19 (j := (2 : Int32)) hin19 (g := (mkF m 101 #[.val (.ref x0), .val (.int x1), .val (.double x2), .second, .val (.int (2 : Int32)), .val (.int (0 : Int32))] [(.int w18), (.int (2 : Int32)), (.ref f0_nodes)])) rfl rfl (hb hby d3_101)
    refine Goes.step st20 ?_
    have V20 := Arx.set Ar19 q19 S19 P19 G19 rfl W20
    have f21 := f6.other W20 (Or.inl ne_x0_f0_nodes)
    have f22 := f7.other W20 (Or.inl ne_x0_f0_nodes)
    have f23 := f8.other W20 (Or.inl ne_x0_f0_nodes)
    have f24 := f9.wr W20
    have f25 := V20
    have f26 := f11.other W20 (Ne.symm ne_f0_nodes_f0_keys)
    have K27 : Keep h0 h20 [x0, f0_nodes, f0_keys] := K12.wr W20 (Or.inl (List.mem_of_getElem? (i := 1) rfl))
    have Z27 : n0 ≤ h20.size := by rw [Wr.size W20]; exact Z12
    have N27 := Fr.snoc X20 N12 g_f0_nodes
    show Goes _ _ _ _ _ _ _ (T20.setTop (mkF m 102 #[.val (.ref x0), .val (.int x1), .val (.double x2), .second, .val (.int (2 : Int32)), .val (.int (0 : Int32))] []))
    refine Goes.step (fun _ k => XS.aloadN X20.here hx rfl (hb hby d3_102) rfl rfl k) ?_
    show Goes _ _ _ _ _ _ _ (T20.setTop (mkF m 103 #[.val (.ref x0), .val (.int x1), .val (.double x2), .second, .val (.int (2 : Int32)), .val (.int (0 : Int32))] [(.ref x0)]))
    obtain ⟨T28, X28, e28, st28⟩ := getF X20 hx hZ hown (host := "") (Or.inl (hw _ (List.mem_of_getElem? (i := 13) rfl))) Via.refl e20 f22 (g := (mkF m 103 #[.val (.ref x0), .val (.int x1), .val (.double x2), .second, .val (.int (2 : Int32)), .val (.int (0 : Int32))] [(.ref x0)])) rfl rfl (hb hby d3_103)
    refine Goes.step st28 ?_
    show Goes _ _ _ _ _ _ _ (T28.setTop (mkF m 106 #[.val (.ref x0), .val (.int x1), .val (.double x2), .second, .val (.int (2 : Int32)), .val (.int (0 : Int32))] [(.ref f0_keys)]))
    refine Goes.step (fun _ k => XS.iload X28.here hx rfl (hb hby d3_106) rfl  k) ?_
    show Goes _ _ _ _ _ _ _ (T28.setTop (mkF m 108 #[.val (.ref x0), .val (.int x1), .val (.double x2), .second, .val (.int (2 : Int32)), .val (.int (0 : Int32))] [(.int (2 : Int32)), (.ref f0_keys)]))
    refine Goes.step (fun _ k => XS.aloadN X28.here hx rfl (hb hby d3_108) rfl rfl k) ?_
    show Goes _ _ _ _ _ _ _ (T28.setTop (mkF m 109 #[.val (.ref x0), .val (.int x1), .val (.double x2), .second, .val (.int (2 : Int32)), .val (.int (0 : Int32))] [(.ref x0), (.int (2 : Int32)), (.ref f0_keys)]))
    obtain ⟨T29, X29, e29, st29⟩ := getF X28 hx hZ hown (host := "") (Or.inl (hw _ (List.mem_of_getElem? (i := 13) rfl))) Via.refl e28 f22 (g := (mkF m 109 #[.val (.ref x0), .val (.int x1), .val (.double x2), .second, .val (.int (2 : Int32)), .val (.int (0 : Int32))] [(.ref x0), (.int (2 : Int32)), (.ref f0_keys)])) rfl rfl (hb hby d3_109)
    refine Goes.step st29 ?_
    show Goes _ _ _ _ _ _ _ (T29.setTop (mkF m 112 #[.val (.ref x0), .val (.int x1), .val (.double x2), .second, .val (.int (2 : Int32)), .val (.int (0 : Int32))] [(.ref f0_keys), (.int (2 : Int32)), (.ref f0_keys)]))
    refine Goes.step (fun _ k => XS.iload X29.here hx rfl (hb hby d3_112) rfl  k) ?_
    show Goes _ _ _ _ _ _ _ (T29.setTop (mkF m 114 #[.val (.ref x0), .val (.int x1), .val (.double x2), .second, .val (.int (2 : Int32)), .val (.int (0 : Int32))] [(.int (0 : Int32)), (.ref f0_keys), (.int (2 : Int32)), (.ref f0_keys)]))
    obtain ⟨cl30, Ar30, q30, S30, P30, G30⟩ := id f26
    have hin30 : ¬ ((0 : Int32) < 0 ∨ cl30.slots.size ≤ ((0 : Int32)).toNatClampNeg) := inb_of S30 ⟨by decide, by decide⟩
    obtain ⟨w30, hat30⟩ := own_arD G30 hin30
    refine Goes.step (fun _ k => X29.daload hx (j := (0 : Int32)) (v := (.double w30)) (by rw [e29]; exact Ar30.1) (State.isArrayOf_alike hZ.alike Ar30.2.1) Ar30.2.2 hin30 hat30 (g := (mkF m 114 #[.val (.ref x0), .val (.int x1), .val (.double x2), .second, .val (.int (2 : Int32)), .val (.int (0 : Int32))] [(.int (0 : Int32)), (.ref f0_keys), (.int (2 : Int32)), (.ref f0_keys)])) rfl rfl (hb hby d3_114) _ k) ?_
    show Goes _ _ _ _ _ _ _ (T29.setTop (mkF m 115 #[.val (.ref x0), .val (.int x1), .val (.double x2), .second, .val (.int (2 : Int32)), .val (.int (0 : Int32))] [(.double w30), (.int (2 : Int32)), (.ref f0_keys)]))
    obtain ⟨cl31, Ar31, q31, S31, P31, G31⟩ := id f26
    have hin31 : ¬ ((2 : Int32) < 0 ∨ cl31.slots.size ≤ ((2 : Int32)).toNatClampNeg) := inb_of S31 ⟨by decide, by decide⟩
    obtain ⟨T32, h32, X32, e32, W32, st32⟩ := stD X29 hx hZ e29 Ar31 (j := (2 : Int32)) hin31 (g := (mkF m 115 #[.val (.ref x0), .val (.int x1), .val (.double x2), .second, .val (.int (2 : Int32)), .val (.int (0 : Int32))] [(.double w30), (.int (2 : Int32)), (.ref f0_keys)])) rfl rfl (hb hby d3_115)
    refine Goes.step st32 ?_
    have V32 := Arx.set Ar31 q31 S31 P31 G31 rfl W32
    have f33 := f21.other W32 (Or.inl ne_x0_f0_keys)
    have f34 := f22.other W32 (Or.inl ne_x0_f0_keys)
    have f35 := f23.other W32 (Or.inl ne_x0_f0_keys)
    have f36 := f24.wr W32
    have f37 := f25.other W32 ne_f0_nodes_f0_keys
    have f38 := V32
    have K39 : Keep h0 h32 [x0, f0_nodes, f0_keys] := K27.wr W32 (Or.inl (List.mem_of_getElem? (i := 2) rfl))
    have Z39 : n0 ≤ h32.size := by rw [Wr.size W32]; exact Z27
    have N39 := Fr.snoc X32 N27 g_f0_keys
    show Goes _ _ _ _ _ _ _ (T32.setTop (mkF m 116 #[.val (.ref x0), .val (.int x1), .val (.double x2), .second, .val (.int (2 : Int32)), .val (.int (0 : Int32))] []))
    refine Goes.step (fun _ k => XS.iload X32.here hx rfl (hb hby d3_116) rfl  k) ?_
    show Goes _ _ _ _ _ _ _ (T32.setTop (mkF m 118 #[.val (.ref x0), .val (.int x1), .val (.double x2), .second, .val (.int (2 : Int32)), .val (.int (0 : Int32))] [(.int (0 : Int32))]))
    refine Goes.step (fun _ k => XS.istore X32.here hx rfl (hb hby d3_118) rfl (l' := #[.val (.ref x0), .val (.int x1), .val (.double x2), .second, .val (.int (0 : Int32)), .val (.int (0 : Int32))]) rfl k) ?_
    show Goes _ _ _ _ _ _ _ (T32.setTop (mkF m 120 #[.val (.ref x0), .val (.int x1), .val (.double x2), .second, .val (.int (0 : Int32)), .val (.int (0 : Int32))] []))
    refine Goes.step (fun _ k => XS.goto X32.here hx rfl (pc0 := 120) (pc' := 59) rfl (hb hby d3_120) (by decide) (by decide) k) ?_
    show Goes _ _ _ _ _ _ _ (T32.setTop (mkF m 59 #[.val (.ref x0), .val (.int x1), .val (.double x2), .second, .val (.int (0 : Int32)), .val (.int (0 : Int32))] []))
    refine Goes.step (fun _ k => XS.iload X32.here hx rfl (hb hby d3_59) rfl  k) ?_
    show Goes _ _ _ _ _ _ _ (T32.setTop (mkF m 61 #[.val (.ref x0), .val (.int x1), .val (.double x2), .second, .val (.int (0 : Int32)), .val (.int (0 : Int32))] [(.int (0 : Int32))]))
    refine Goes.step (fun _ k => XS.ifYes X32.here hx rfl (pc0 := 61) (pc' := 123) rfl (hb hby d3_61) rfl ((if0 _ _).trans (flt (by decide : ¬ ((0 : Int32) < (0 : Int32)))).2.2.2) (by decide) (by decide) k) ?_
    show Goes _ _ _ _ _ _ _ (T32.setTop (mkF m 123 #[.val (.ref x0), .val (.int x1), .val (.double x2), .second, .val (.int (0 : Int32)), .val (.int (0 : Int32))] []))
    refine Goes.step (fun _ k => XS.aloadN X32.here hx rfl (hb hby d3_123) rfl rfl k) ?_
    show Goes _ _ _ _ _ _ _ (T32.setTop (mkF m 124 #[.val (.ref x0), .val (.int x1), .val (.double x2), .second, .val (.int (0 : Int32)), .val (.int (0 : Int32))] [(.ref x0)]))
    obtain ⟨T40, X40, e40, st40⟩ := getF X32 hx hZ hown (host := "") (Or.inl (hw _ (List.mem_of_getElem? (i := 10) rfl))) Via.refl e32 f33 (g := (mkF m 124 #[.val (.ref x0), .val (.int x1), .val (.double x2), .second, .val (.int (0 : Int32)), .val (.int (0 : Int32))] [(.ref x0)])) rfl rfl (hb hby d3_124)
    refine Goes.step st40 ?_
    show Goes _ _ _ _ _ _ _ (T40.setTop (mkF m 127 #[.val (.ref x0), .val (.int x1), .val (.double x2), .second, .val (.int (0 : Int32)), .val (.int (0 : Int32))] [(.ref f0_nodes)]))
    refine Goes.step (fun _ k => XS.iload X40.here hx rfl (hb hby d3_127) rfl  k) ?_
    show Goes _ _ _ _ _ _ _ (T40.setTop (mkF m 129 #[.val (.ref x0), .val (.int x1), .val (.double x2), .second, .val (.int (0 : Int32)), .val (.int (0 : Int32))] [(.int (0 : Int32)), (.ref f0_nodes)]))
    refine Goes.step (fun _ k => XS.iloadN X40.here hx rfl (hb hby d3_129) rfl  k) ?_
    show Goes _ _ _ _ _ _ _ (T40.setTop (mkF m 130 #[.val (.ref x0), .val (.int x1), .val (.double x2), .second, .val (.int (0 : Int32)), .val (.int (0 : Int32))] [(.int x1), (.int (0 : Int32)), (.ref f0_nodes)]))
    obtain ⟨cl41, Ar41, q41, S41, P41, G41⟩ := id f37
    have hin41 : ¬ ((0 : Int32) < 0 ∨ cl41.slots.size ≤ ((0 : Int32)).toNatClampNeg) := inb_of S41 ⟨by decide, by decide⟩
    obtain ⟨T42, h42, X42, e42, W42, st42⟩ := stI X40 hx hZ e40 Ar41 (j := (0 : Int32)) hin41 (g := (mkF m 130 #[.val (.ref x0), .val (.int x1), .val (.double x2), .second, .val (.int (0 : Int32)), .val (.int (0 : Int32))] [(.int x1), (.int (0 : Int32)), (.ref f0_nodes)])) rfl rfl (hb hby d3_130)
    refine Goes.step st42 ?_
    have V42 := Arx.set Ar41 q41 S41 P41 G41 rfl W42
    have f43 := f33.other W42 (Or.inl ne_x0_f0_nodes)
    have f44 := f34.other W42 (Or.inl ne_x0_f0_nodes)
    have f45 := f35.other W42 (Or.inl ne_x0_f0_nodes)
    have f46 := f36.wr W42
    have f47 := V42
    have f48 := f38.other W42 (Ne.symm ne_f0_nodes_f0_keys)
    have K49 : Keep h0 h42 [x0, f0_nodes, f0_keys] := K39.wr W42 (Or.inl (List.mem_of_getElem? (i := 1) rfl))
    have Z49 : n0 ≤ h42.size := by rw [Wr.size W42]; exact Z39
    have N49 := Fr.snoc X42 N39 g_f0_nodes
    show Goes _ _ _ _ _ _ _ (T42.setTop (mkF m 131 #[.val (.ref x0), .val (.int x1), .val (.double x2), .second, .val (.int (0 : Int32)), .val (.int (0 : Int32))] []))
    refine Goes.step (fun _ k => XS.aloadN X42.here hx rfl (hb hby d3_131) rfl rfl k) ?_
    show Goes _ _ _ _ _ _ _ (T42.setTop (mkF m 132 #[.val (.ref x0), .val (.int x1), .val (.double x2), .second, .val (.int (0 : Int32)), .val (.int (0 : Int32))] [(.ref x0)]))
    obtain ⟨T50, X50, e50, st50⟩ := getF X42 hx hZ hown (host := "") (Or.inl (hw _ (List.mem_of_getElem? (i := 13) rfl))) Via.refl e42 f44 (g := (mkF m 132 #[.val (.ref x0), .val (.int x1), .val (.double x2), .second, .val (.int (0 : Int32)), .val (.int (0 : Int32))] [(.ref x0)])) rfl rfl (hb hby d3_132)
    refine Goes.step st50 ?_
    show Goes _ _ _ _ _ _ _ (T50.setTop (mkF m 135 #[.val (.ref x0), .val (.int x1), .val (.double x2), .second, .val (.int (0 : Int32)), .val (.int (0 : Int32))] [(.ref f0_keys)]))
    refine Goes.step (fun _ k => XS.iload X50.here hx rfl (hb hby d3_135) rfl  k) ?_
    show Goes _ _ _ _ _ _ _ (T50.setTop (mkF m 137 #[.val (.ref x0), .val (.int x1), .val (.double x2), .second, .val (.int (0 : Int32)), .val (.int (0 : Int32))] [(.int (0 : Int32)), (.ref f0_keys)]))
    refine Goes.step (fun _ k => XS.dloadN X50.here hx rfl (hb hby d3_137) rfl k) ?_
    show Goes _ _ _ _ _ _ _ (T50.setTop (mkF m 138 #[.val (.ref x0), .val (.int x1), .val (.double x2), .second, .val (.int (0 : Int32)), .val (.int (0 : Int32))] [(.double x2), (.int (0 : Int32)), (.ref f0_keys)]))
    obtain ⟨cl51, Ar51, q51, S51, P51, G51⟩ := id f48
    have hin51 : ¬ ((0 : Int32) < 0 ∨ cl51.slots.size ≤ ((0 : Int32)).toNatClampNeg) := inb_of S51 ⟨by decide, by decide⟩
    obtain ⟨T52, h52, X52, e52, W52, st52⟩ := stD X50 hx hZ e50 Ar51 (j := (0 : Int32)) hin51 (g := (mkF m 138 #[.val (.ref x0), .val (.int x1), .val (.double x2), .second, .val (.int (0 : Int32)), .val (.int (0 : Int32))] [(.double x2), (.int (0 : Int32)), (.ref f0_keys)])) rfl rfl (hb hby d3_138)
    refine Goes.step st52 ?_
    have V52 := Arx.set Ar51 q51 S51 P51 G51 rfl W52
    have f53 := f43.other W52 (Or.inl ne_x0_f0_keys)
    have f54 := f44.other W52 (Or.inl ne_x0_f0_keys)
    have f55 := f45.other W52 (Or.inl ne_x0_f0_keys)
    have f56 := f46.wr W52
    have f57 := f47.other W52 ne_f0_nodes_f0_keys
    have f58 := V52
    have K59 : Keep h0 h52 [x0, f0_nodes, f0_keys] := K49.wr W52 (Or.inl (List.mem_of_getElem? (i := 2) rfl))
    have Z59 : n0 ≤ h52.size := by rw [Wr.size W52]; exact Z49
    have N59 := Fr.snoc X52 N49 g_f0_keys
    show Goes _ _ _ _ _ _ _ (T52.setTop (mkF m 139 #[.val (.ref x0), .val (.int x1), .val (.double x2), .second, .val (.int (0 : Int32)), .val (.int (0 : Int32))] []))
    exact Goes.retV X52 hx (BodyLoose.notSynchronized Bd) Bd.returns (hb hby d3_139) (by show Q3_2 Z x0 x1 x2 f0_nodes f0_keys ka_f0_nodes ka_f0_keys h0 n0 none T52.heap _; rw [e52]; exact ⟨N59, K59, ⟨rfl, f53, f54, f55, f56, f57, f58⟩⟩) (by decide) (by decide)
  · refine Goes.step (fun _ k => XS.ifYes X13.here hx rfl (pc0 := 77) (pc' := 123) rfl (hb hby d3_77) rfl ((if0 _ _).trans (flt c77_15).2.2.2) (by decide) (by decide) k) ?_
    show Goes _ _ _ _ _ _ _ (T13.setTop (mkF m 123 #[.val (.ref x0), .val (.int x1), .val (.double x2), .second, .val (.int (2 : Int32)), .unset] []))
    refine Goes.step (fun _ k => XS.aloadN X13.here hx rfl (hb hby d3_123) rfl rfl k) ?_
    show Goes _ _ _ _ _ _ _ (T13.setTop (mkF m 124 #[.val (.ref x0), .val (.int x1), .val (.double x2), .second, .val (.int (2 : Int32)), .unset] [(.ref x0)]))
    obtain ⟨T60, X60, e60, st60⟩ := getF X13 hx hZ hown (host := "") (Or.inl (hw _ (List.mem_of_getElem? (i := 10) rfl))) Via.refl e13 f6 (g := (mkF m 124 #[.val (.ref x0), .val (.int x1), .val (.double x2), .second, .val (.int (2 : Int32)), .unset] [(.ref x0)])) rfl rfl (hb hby d3_124)
    refine Goes.step st60 ?_
    show Goes _ _ _ _ _ _ _ (T60.setTop (mkF m 127 #[.val (.ref x0), .val (.int x1), .val (.double x2), .second, .val (.int (2 : Int32)), .unset] [(.ref f0_nodes)]))
    refine Goes.step (fun _ k => XS.iload X60.here hx rfl (hb hby d3_127) rfl  k) ?_
    show Goes _ _ _ _ _ _ _ (T60.setTop (mkF m 129 #[.val (.ref x0), .val (.int x1), .val (.double x2), .second, .val (.int (2 : Int32)), .unset] [(.int (2 : Int32)), (.ref f0_nodes)]))
    refine Goes.step (fun _ k => XS.iloadN X60.here hx rfl (hb hby d3_129) rfl  k) ?_
    show Goes _ _ _ _ _ _ _ (T60.setTop (mkF m 130 #[.val (.ref x0), .val (.int x1), .val (.double x2), .second, .val (.int (2 : Int32)), .unset] [(.int x1), (.int (2 : Int32)), (.ref f0_nodes)]))
    obtain ⟨cl61, Ar61, q61, S61, P61, G61⟩ := id f10
    have hin61 : ¬ ((2 : Int32) < 0 ∨ cl61.slots.size ≤ ((2 : Int32)).toNatClampNeg) := inb_of S61 ⟨by decide, by decide⟩
    obtain ⟨T62, h62, X62, e62, W62, st62⟩ := stI X60 hx hZ e60 Ar61 (j := (2 : Int32)) hin61 (g := (mkF m 130 #[.val (.ref x0), .val (.int x1), .val (.double x2), .second, .val (.int (2 : Int32)), .unset] [(.int x1), (.int (2 : Int32)), (.ref f0_nodes)])) rfl rfl (hb hby d3_130)
    refine Goes.step st62 ?_
    have V62 := Arx.set Ar61 q61 S61 P61 G61 rfl W62
    have f63 := f6.other W62 (Or.inl ne_x0_f0_nodes)
    have f64 := f7.other W62 (Or.inl ne_x0_f0_nodes)
    have f65 := f8.other W62 (Or.inl ne_x0_f0_nodes)
    have f66 := f9.wr W62
    have f67 := V62
    have f68 := f11.other W62 (Ne.symm ne_f0_nodes_f0_keys)
    have K69 : Keep h0 h62 [x0, f0_nodes, f0_keys] := K12.wr W62 (Or.inl (List.mem_of_getElem? (i := 1) rfl))
    have Z69 : n0 ≤ h62.size := by rw [Wr.size W62]; exact Z12
    have N69 := Fr.snoc X62 N12 g_f0_nodes
    show Goes _ _ _ _ _ _ _ (T62.setTop (mkF m 131 #[.val (.ref x0), .val (.int x1), .val (.double x2), .second, .val (.int (2 : Int32)), .unset] []))
    refine Goes.step (fun _ k => XS.aloadN X62.here hx rfl (hb hby d3_131) rfl rfl k) ?_
    show Goes _ _ _ _ _ _ _ (T62.setTop (mkF m 132 #[.val (.ref x0), .val (.int x1), .val (.double x2), .second, .val (.int (2 : Int32)), .unset] [(.ref x0)]))
    obtain ⟨T70, X70, e70, st70⟩ := getF X62 hx hZ hown (host := "") (Or.inl (hw _ (List.mem_of_getElem? (i := 13) rfl))) Via.refl e62 f64 (g := (mkF m 132 #[.val (.ref x0), .val (.int x1), .val (.double x2), .second, .val (.int (2 : Int32)), .unset] [(.ref x0)])) rfl rfl (hb hby d3_132)
    refine Goes.step st70 ?_
    show Goes _ _ _ _ _ _ _ (T70.setTop (mkF m 135 #[.val (.ref x0), .val (.int x1), .val (.double x2), .second, .val (.int (2 : Int32)), .unset] [(.ref f0_keys)]))
    refine Goes.step (fun _ k => XS.iload X70.here hx rfl (hb hby d3_135) rfl  k) ?_
    show Goes _ _ _ _ _ _ _ (T70.setTop (mkF m 137 #[.val (.ref x0), .val (.int x1), .val (.double x2), .second, .val (.int (2 : Int32)), .unset] [(.int (2 : Int32)), (.ref f0_keys)]))
    refine Goes.step (fun _ k => XS.dloadN X70.here hx rfl (hb hby d3_137) rfl k) ?_
    show Goes _ _ _ _ _ _ _ (T70.setTop (mkF m 138 #[.val (.ref x0), .val (.int x1), .val (.double x2), .second, .val (.int (2 : Int32)), .unset] [(.double x2), (.int (2 : Int32)), (.ref f0_keys)]))
    obtain ⟨cl71, Ar71, q71, S71, P71, G71⟩ := id f68
    have hin71 : ¬ ((2 : Int32) < 0 ∨ cl71.slots.size ≤ ((2 : Int32)).toNatClampNeg) := inb_of S71 ⟨by decide, by decide⟩
    obtain ⟨T72, h72, X72, e72, W72, st72⟩ := stD X70 hx hZ e70 Ar71 (j := (2 : Int32)) hin71 (g := (mkF m 138 #[.val (.ref x0), .val (.int x1), .val (.double x2), .second, .val (.int (2 : Int32)), .unset] [(.double x2), (.int (2 : Int32)), (.ref f0_keys)])) rfl rfl (hb hby d3_138)
    refine Goes.step st72 ?_
    have V72 := Arx.set Ar71 q71 S71 P71 G71 rfl W72
    have f73 := f63.other W72 (Or.inl ne_x0_f0_keys)
    have f74 := f64.other W72 (Or.inl ne_x0_f0_keys)
    have f75 := f65.other W72 (Or.inl ne_x0_f0_keys)
    have f76 := f66.wr W72
    have f77 := f67.other W72 ne_f0_nodes_f0_keys
    have f78 := V72
    have K79 : Keep h0 h72 [x0, f0_nodes, f0_keys] := K69.wr W72 (Or.inl (List.mem_of_getElem? (i := 2) rfl))
    have Z79 : n0 ≤ h72.size := by rw [Wr.size W72]; exact Z69
    have N79 := Fr.snoc X72 N69 g_f0_keys
    show Goes _ _ _ _ _ _ _ (T72.setTop (mkF m 139 #[.val (.ref x0), .val (.int x1), .val (.double x2), .second, .val (.int (2 : Int32)), .unset] []))
    exact Goes.retV X72 hx (BodyLoose.notSynchronized Bd) Bd.returns (hb hby d3_139) (by show Q3_2 Z x0 x1 x2 f0_nodes f0_keys ka_f0_nodes ka_f0_keys h0 n0 none T72.heap _; rw [e72]; exact ⟨N79, K79, ⟨rfl, f73, f74, f75, f76, f77, f78⟩⟩) (by decide) (by decide)
theorem d5_0 : decode prog_21_method_6_code 0 = .ok (.aload_n 0, 1) := by decide +kernel
theorem d5_1 : decode prog_21_method_6_code 1 = .ok (.getfield 7, 3) := by decide +kernel
theorem d5_4 : decode prog_21_method_6_code 4 = .ok (.iconst 0, 1) := by decide +kernel
theorem d5_5 : decode prog_21_method_6_code 5 = .ok (.iaload, 1) := by decide +kernel
theorem d5_6 : decode prog_21_method_6_code 6 = .ok (.istore_n 1, 1) := by decide +kernel
theorem d5_7 : decode prog_21_method_6_code 7 = .ok (.aload_n 0, 1) := by decide +kernel
theorem d5_8 : decode prog_21_method_6_code 8 = .ok (.dup, 1) := by decide +kernel
theorem d5_9 : decode prog_21_method_6_code 9 = .ok (.getfield 17, 3) := by decide +kernel
theorem d5_12 : decode prog_21_method_6_code 12 = .ok (.iconst 1, 1) := by decide +kernel
theorem d5_13 : decode prog_21_method_6_code 13 = .ok (.isub, 1) := by decide +kernel
theorem d5_14 : decode prog_21_method_6_code 14 = .ok (.putfield 17, 3) := by decide +kernel
theorem d5_17 : decode prog_21_method_6_code 17 = .ok (.aload_n 0, 1) := by decide +kernel
theorem d5_18 : decode prog_21_method_6_code 18 = .ok (.getfield 7, 3) := by decide +kernel
theorem d5_21 : decode prog_21_method_6_code 21 = .ok (.aload_n 0, 1) := by decide +kernel
theorem d5_22 : decode prog_21_method_6_code 22 = .ok (.getfield 17, 3) := by decide +kernel
theorem d5_25 : decode prog_21_method_6_code 25 = .ok (.iaload, 1) := by decide +kernel
theorem d5_26 : decode prog_21_method_6_code 26 = .ok (.istore_n 2, 1) := by decide +kernel
theorem d5_27 : decode prog_21_method_6_code 27 = .ok (.aload_n 0, 1) := by decide +kernel
theorem d5_28 : decode prog_21_method_6_code 28 = .ok (.getfield 13, 3) := by decide +kernel
theorem d5_31 : decode prog_21_method_6_code 31 = .ok (.aload_n 0, 1) := by decide +kernel
theorem d5_32 : decode prog_21_method_6_code 32 = .ok (.getfield 17, 3) := by decide +kernel
theorem d5_35 : decode prog_21_method_6_code 35 = .ok (.daload, 1) := by decide +kernel
theorem d5_36 : decode prog_21_method_6_code 36 = .ok (.dstore_n 3, 1) := by decide +kernel
theorem d5_37 : decode prog_21_method_6_code 37 = .ok (.iconst 0, 1) := by decide +kernel
theorem d5_38 : decode prog_21_method_6_code 38 = .ok (.istore 5, 2) := by decide +kernel
theorem d5_40 : decode prog_21_method_6_code 40 = .ok (.iconst 1, 1) := by decide +kernel
theorem d5_41 : decode prog_21_method_6_code 41 = .ok (.istore 6, 2) := by decide +kernel
theorem d5_43 : decode prog_21_method_6_code 43 = .ok (.iload 6, 2) := by decide +kernel
theorem d5_45 : decode prog_21_method_6_code 45 = .ok (.aload_n 0, 1) := by decide +kernel
theorem d5_46 : decode prog_21_method_6_code 46 = .ok (.getfield 17, 3) := by decide +kernel
theorem d5_49 : decode prog_21_method_6_code 49 = .ok (.if_icmp .ge 95, 3) := by decide +kernel
theorem d5_144 : decode prog_21_method_6_code 144 = .ok (.aload_n 0, 1) := by decide +kernel
theorem d5_145 : decode prog_21_method_6_code 145 = .ok (.getfield 7, 3) := by decide +kernel
theorem d5_148 : decode prog_21_method_6_code 148 = .ok (.iload 5, 2) := by decide +kernel
theorem d5_150 : decode prog_21_method_6_code 150 = .ok (.iload_n 2, 1) := by decide +kernel
theorem d5_151 : decode prog_21_method_6_code 151 = .ok (.iastore, 1) := by decide +kernel
theorem d5_152 : decode prog_21_method_6_code 152 = .ok (.aload_n 0, 1) := by decide +kernel
theorem d5_153 : decode prog_21_method_6_code 153 = .ok (.getfield 13, 3) := by decide +kernel
theorem d5_156 : decode prog_21_method_6_code 156 = .ok (.iload 5, 2) := by decide +kernel
theorem d5_158 : decode prog_21_method_6_code 158 = .ok (.dload_n 3, 1) := by decide +kernel
theorem d5_159 : decode prog_21_method_6_code 159 = .ok (.dastore, 1) := by decide +kernel
theorem d5_160 : decode prog_21_method_6_code 160 = .ok (.iload_n 1, 1) := by decide +kernel
theorem d5_161 : decode prog_21_method_6_code 161 = .ok (.ireturn, 1) := by decide +kernel
theorem pn_5 : plainName "com/example/hailwise/hailwise/NodeQueue" = true := by first | (simp [plainName, overriddenIn]; done) | decide +kernel
theorem ef_5_1 (m : MethodId) (x0 : Addr) (f0_nodes : Addr) (f0_keys : Addr) (ka_f0_nodes : ClassId) (ka_f0_keys : ClassId)  : entryFrame m #[(.ref x0)] 7 = mkF m 0 #[.val (.ref x0), .unset, .unset, .unset, .unset, .unset, .unset] [] := by first | (simp [entryFrame, mkF, argsToLocals, Value.category]; done) | rfl
def Q5_1 (Z : State) (x0 : Addr) (f0_nodes : Addr) (f0_keys : Addr) (ka_f0_nodes : ClassId) (ka_f0_keys : ClassId) (h0 : Heap) (n0 : Nat) (v : Option Value) (h : Heap) (L : List Loc) : Prop := Fr n0 L ∧ Keep h0 h [x0, f0_nodes, f0_keys] ∧ ((∃ (rv : Int32), v = some (.int rv) ∧ Fld Z h x0 "com/example/hailwise/hailwise/NodeQueue" "nodes" "[I" (.ref f0_nodes) ∧ Fld Z h x0 "com/example/hailwise/hailwise/NodeQueue" "keys" "[D" (.ref f0_keys) ∧ Fld Z h x0 "com/example/hailwise/hailwise/NodeQueue" "size" "I" (.int (0 : Int32)) ∧ Exa Z h x0 "com/example/hailwise/hailwise/NodeQueue" ∧ Arx Z h f0_nodes ka_f0_nodes .int (64 : Int32) ∧ Arx Z h f0_keys ka_f0_keys .double (64 : Int32)))
set_option maxRecDepth 65536 in
set_option maxHeartbeats 40000000 in
theorem rm5_1 (l : Launch) (Z : State) (a0 : Array Value) (hw : ∀ d ∈ tables_1, d.before a0 Z = true) (ws : List Jvm.Cond) (x0 : Addr) (f0_nodes : Addr) (f0_keys : Addr) (ka_f0_nodes : ClassId) (ka_f0_keys : ClassId) (h0 : Heap) (n0 : Nat) (Z0 : n0 ≤ h0.size) (F0_nodes : Fld Z h0 x0 "com/example/hailwise/hailwise/NodeQueue" "nodes" "[I" (.ref f0_nodes)) (F0_keys : Fld Z h0 x0 "com/example/hailwise/hailwise/NodeQueue" "keys" "[D" (.ref f0_keys)) (F0_size : Fld Z h0 x0 "com/example/hailwise/hailwise/NodeQueue" "size" "I" (.int (1 : Int32))) (E_x0 : Exa Z h0 x0 "com/example/hailwise/hailwise/NodeQueue") (V_f0_nodes : Arx Z h0 f0_nodes ka_f0_nodes .int (64 : Int32)) (V_f0_keys : Arx Z h0 f0_keys ka_f0_keys .double (64 : Int32)) (g_x0 : n0 ≤ x0) (g_f0_nodes : n0 ≤ f0_nodes) (g_f0_keys : n0 ≤ f0_keys) (ne_x0_f0_nodes : x0 ≠ f0_nodes) (ne_x0_f0_keys : x0 ≠ f0_keys) (ne_f0_nodes_f0_keys : f0_nodes ≠ f0_keys) :
    MetFree l (⟨"com/example/hailwise/hailwise/NodeQueue", "poll", "()I"⟩ : MethodName) (head1 (Jvm.Cond.code (⟨"com/example/hailwise/hailwise/NodeQueue", "poll", "()I"⟩ : MethodName) prog_21_method_6_code 7 (some .int) :: ws) ({ frames := 0, cells := 0, slots := 0, locals := 0 } : Room)) (fun a U => a = #[(.ref x0)] ∧ Z.Warmed39 U.vm ∧ U.heap = h0) (fun _ _ _ _ _ => True) (fun _ U o U' => ∃ v L, o = .returned v ∧ Q5_1 Z x0 f0_nodes f0_keys ka_f0_nodes ka_f0_keys h0 n0 v U'.heap L ∧ FrameEnd U o U' L ({ frames := 0, cells := 0, slots := 0, locals := 0 } : Room).cells ({ frames := 0, cells := 0, slots := 0, locals := 0 } : Room).slots) := by
  refine MetFree.of_bodySF (plainFor_of_name pn_5) hisR ?_
  intro p e s m args below meth c s₁ Bd hml0 hP hK
  obtain ⟨rfl, hZ, hh⟩ := hP
  have hx := Bd.exec
  have hby := Bd.bytes
  have hml : c.maxLocals = 7 := hml0
  have hown : s.vm.findClass "com/example/hailwise/hailwise/NodeQueue" = some m.cls := findClass_of_methodNamed Bd.named
  have hnm := (name_of_methodNamed Bd.named Bd.method).1
  have X0 : Stand p l e ({ frames := 0, cells := 0, slots := 0, locals := 0 } : Room) s m #[(.ref x0)] below meth c s₁ [] 0 0 := Stand.of_body Bd
  have e0 : s₁.heap = h0 := by rw [← hh, Bd.state]; rfl
  have N0 := Fr.nil n0
  have K0 : Keep h0 h0 [x0, f0_nodes, f0_keys] := Keep.refl h0 _
  refine (?_ : Goes p e below s ({ frames := 0, cells := 0, slots := 0, locals := 0 } : Room).cells ({ frames := 0, cells := 0, slots := 0, locals := 0 } : Room).slots (fun v h L => Q5_1 Z x0 f0_nodes f0_keys ka_f0_nodes ka_f0_keys h0 n0 v h L) (s₁.setTop (entryFrame m #[(.ref x0)] 7)))
  rw [ef_5_1 m x0 f0_nodes f0_keys ka_f0_nodes ka_f0_keys ]
  show Goes _ _ _ _ _ _ _ (s₁.setTop (mkF m 0 #[.val (.ref x0), .unset, .unset, .unset, .unset, .unset, .unset] []))
  refine Goes.step (fun _ k => XS.aloadN X0.here hx rfl (hb hby d5_0) rfl rfl k) ?_
  show Goes _ _ _ _ _ _ _ (s₁.setTop (mkF m 1 #[.val (.ref x0), .unset, .unset, .unset, .unset, .unset, .unset] [(.ref x0)]))
  obtain ⟨T1, X1, e1, st1⟩ := getF X0 hx hZ hown (host := "") (Or.inl (hw _ (List.mem_of_getElem? (i := 10) rfl))) Via.refl e0 F0_nodes (g := (mkF m 1 #[.val (.ref x0), .unset, .unset, .unset, .unset, .unset, .unset] [(.ref x0)])) rfl rfl (hb hby d5_1)
  refine Goes.step st1 ?_
  show Goes _ _ _ _ _ _ _ (T1.setTop (mkF m 4 #[.val (.ref x0), .unset, .unset, .unset, .unset, .unset, .unset] [(.ref f0_nodes)]))
  refine Goes.step (fun _ k => XS.iconst X1.here hx rfl (hb hby d5_4) k) ?_
  show Goes _ _ _ _ _ _ _ (T1.setTop (mkF m 5 #[.val (.ref x0), .unset, .unset, .unset, .unset, .unset, .unset] [(.int (0 : Int32)), (.ref f0_nodes)]))
  obtain ⟨cl2, Ar2, q2, S2, P2, G2⟩ := id V_f0_nodes
  have hin2 : ¬ ((0 : Int32) < 0 ∨ cl2.slots.size ≤ ((0 : Int32)).toNatClampNeg) := inb_of S2 ⟨by decide, by decide⟩
  obtain ⟨w2, hat2⟩ := own_arI G2 hin2
  refine Goes.step (fun _ k => X1.iaload hx (j := (0 : Int32)) (v := (.int w2)) (by rw [e1]; exact Ar2.1) (State.isArrayOf_alike hZ.alike Ar2.2.1) Ar2.2.2 hin2 hat2 (g := (mkF m 5 #[.val (.ref x0), .unset, .unset, .unset, .unset, .unset, .unset] [(.int (0 : Int32)), (.ref f0_nodes)])) rfl rfl (hb hby d5_5) _ k) ?_
  show Goes _ _ _ _ _ _ _ (T1.setTop (mkF m 6 #[.val (.ref x0), .unset, .unset, .unset, .unset, .unset, .unset] [(.int w2)]))
  refine Goes.step (fun _ k => XS.istoreN X1.here hx rfl (hb hby d5_6) rfl (l' := #[.val (.ref x0), .val (.int w2), .unset, .unset, .unset, .unset, .unset]) rfl k) ?_
  show Goes _ _ _ _ _ _ _ (T1.setTop (mkF m 7 #[.val (.ref x0), .val (.int w2), .unset, .unset, .unset, .unset, .unset] []))
  refine Goes.step (fun _ k => XS.aloadN X1.here hx rfl (hb hby d5_7) rfl rfl k) ?_
  show Goes _ _ _ _ _ _ _ (T1.setTop (mkF m 8 #[.val (.ref x0), .val (.int w2), .unset, .unset, .unset, .unset, .unset] [(.ref x0)]))
  refine Goes.step (fun _ k => XS.dup X1.here hx rfl (hb hby d5_8) rfl rfl k) ?_
  show Goes _ _ _ _ _ _ _ (T1.setTop (mkF m 9 #[.val (.ref x0), .val (.int w2), .unset, .unset, .unset, .unset, .unset] [(.ref x0), (.ref x0)]))
  obtain ⟨T3, X3, e3, st3⟩ := getF X1 hx hZ hown (host := "") (Or.inl (hw _ (List.mem_of_getElem? (i := 20) rfl))) Via.refl e1 F0_size (g := (mkF m 9 #[.val (.ref x0), .val (.int w2), .unset, .unset, .unset, .unset, .unset] [(.ref x0), (.ref x0)])) rfl rfl (hb hby d5_9)
  refine Goes.step st3 ?_
  show Goes _ _ _ _ _ _ _ (T3.setTop (mkF m 12 #[.val (.ref x0), .val (.int w2), .unset, .unset, .unset, .unset, .unset] [(.int (1 : Int32)), (.ref x0)]))
  refine Goes.step (fun _ k => XS.iconst X3.here hx rfl (hb hby d5_12) k) ?_
  show Goes _ _ _ _ _ _ _ (T3.setTop (mkF m 13 #[.val (.ref x0), .val (.int w2), .unset, .unset, .unset, .unset, .unset] [(.int (1 : Int32)), (.int (1 : Int32)), (.ref x0)]))
  refine Goes.step (fun _ k => XS.isub X3.here hx rfl (hb hby d5_13) rfl k) ?_
  show Goes _ _ _ _ _ _ _ (T3.setTop (mkF m 14 #[.val (.ref x0), .val (.int w2), .unset, .unset, .unset, .unset, .unset] [(.int (0 : Int32)), (.ref x0)]))
  obtain ⟨T4, h4, X4, e4, W4, st4⟩ := putF X3 hx hZ hown (host := "") (Or.inl (hw _ (List.mem_of_getElem? (i := 20) rfl))) Via.refl e3 F0_size E_x0 (Or.inl (hw _ (List.mem_of_getElem? (i := 21) rfl))) (hw _ (List.mem_of_getElem? (i := 1) rfl)) (ty := .int) (by decide) rfl rfl (g := (mkF m 14 #[.val (.ref x0), .val (.int w2), .unset, .unset, .unset, .unset, .unset] [(.int (0 : Int32)), (.ref x0)])) rfl rfl (hb hby d5_14)
  refine Goes.step st4 ?_
  have f5 := F0_nodes.other W4 (Or.inr (slot_ne (Or.inl (hw _ (List.mem_of_getElem? (i := 11) rfl))) (Or.inl (hw _ (List.mem_of_getElem? (i := 21) rfl))) (by decide) (t := (.array .int)) (t' := .int) (by decide) (by decide)))
  have f6 := F0_keys.other W4 (Or.inr (slot_ne (Or.inl (hw _ (List.mem_of_getElem? (i := 14) rfl))) (Or.inl (hw _ (List.mem_of_getElem? (i := 21) rfl))) (by decide) (t := (.array .double)) (t' := .int) (by decide) (by decide)))
  have f7 := F0_size.same W4
  have f8 := E_x0.wr W4
  have f9 := V_f0_nodes.other W4 (Ne.symm ne_x0_f0_nodes)
  have f10 := V_f0_keys.other W4 (Ne.symm ne_x0_f0_keys)
  have K11 : Keep h0 h4 [x0, f0_nodes, f0_keys] := K0.wr W4 (Or.inl (List.mem_of_getElem? (i := 0) rfl))
  have Z11 : n0 ≤ h4.size := by rw [Wr.size W4]; exact Z0
  have N11 := Fr.snoc X4 N0 g_x0
  show Goes _ _ _ _ _ _ _ (T4.setTop (mkF m 17 #[.val (.ref x0), .val (.int w2), .unset, .unset, .unset, .unset, .unset] []))
  refine Goes.step (fun _ k => XS.aloadN X4.here hx rfl (hb hby d5_17) rfl rfl k) ?_
  show Goes _ _ _ _ _ _ _ (T4.setTop (mkF m 18 #[.val (.ref x0), .val (.int w2), .unset, .unset, .unset, .unset, .unset] [(.ref x0)]))
  obtain ⟨T12, X12, e12, st12⟩ := getF X4 hx hZ hown (host := "") (Or.inl (hw _ (List.mem_of_getElem? (i := 10) rfl))) Via.refl e4 f5 (g := (mkF m 18 #[.val (.ref x0), .val (.int w2), .unset, .unset, .unset, .unset, .unset] [(.ref x0)])) rfl rfl (hb hby d5_18)
  refine Goes.step st12 ?_
  show Goes _ _ _ _ _ _ _ (T12.setTop (mkF m 21 #[.val (.ref x0), .val (.int w2), .unset, .unset, .unset, .unset, .unset] [(.ref f0_nodes)]))
  refine Goes.step (fun _ k => XS.aloadN X12.here hx rfl (hb hby d5_21) rfl rfl k) ?_
  show Goes _ _ _ _ _ _ _ (T12.setTop (mkF m 22 #[.val (.ref x0), .val (.int w2), .unset, .unset, .unset, .unset, .unset] [(.ref x0), (.ref f0_nodes)]))
  obtain ⟨T13, X13, e13, st13⟩ := getF X12 hx hZ hown (host := "") (Or.inl (hw _ (List.mem_of_getElem? (i := 20) rfl))) Via.refl e12 f7 (g := (mkF m 22 #[.val (.ref x0), .val (.int w2), .unset, .unset, .unset, .unset, .unset] [(.ref x0), (.ref f0_nodes)])) rfl rfl (hb hby d5_22)
  refine Goes.step st13 ?_
  show Goes _ _ _ _ _ _ _ (T13.setTop (mkF m 25 #[.val (.ref x0), .val (.int w2), .unset, .unset, .unset, .unset, .unset] [(.int (0 : Int32)), (.ref f0_nodes)]))
  obtain ⟨cl14, Ar14, q14, S14, P14, G14⟩ := id f9
  have hin14 : ¬ ((0 : Int32) < 0 ∨ cl14.slots.size ≤ ((0 : Int32)).toNatClampNeg) := inb_of S14 ⟨by decide, by decide⟩
  obtain ⟨w14, hat14⟩ := own_arI G14 hin14
  refine Goes.step (fun _ k => X13.iaload hx (j := (0 : Int32)) (v := (.int w14)) (by rw [e13]; exact Ar14.1) (State.isArrayOf_alike hZ.alike Ar14.2.1) Ar14.2.2 hin14 hat14 (g := (mkF m 25 #[.val (.ref x0), .val (.int w2), .unset, .unset, .unset, .unset, .unset] [(.int (0 : Int32)), (.ref f0_nodes)])) rfl rfl (hb hby d5_25) _ k) ?_
  show Goes _ _ _ _ _ _ _ (T13.setTop (mkF m 26 #[.val (.ref x0), .val (.int w2), .unset, .unset, .unset, .unset, .unset] [(.int w14)]))
  refine Goes.step (fun _ k => XS.istoreN X13.here hx rfl (hb hby d5_26) rfl (l' := #[.val (.ref x0), .val (.int w2), .val (.int w14), .unset, .unset, .unset, .unset]) rfl k) ?_
  show Goes _ _ _ _ _ _ _ (T13.setTop (mkF m 27 #[.val (.ref x0), .val (.int w2), .val (.int w14), .unset, .unset, .unset, .unset] []))
  refine Goes.step (fun _ k => XS.aloadN X13.here hx rfl (hb hby d5_27) rfl rfl k) ?_
  show Goes _ _ _ _ _ _ _ (T13.setTop (mkF m 28 #[.val (.ref x0), .val (.int w2), .val (.int w14), .unset, .unset, .unset, .unset] [(.ref x0)]))
  obtain ⟨T15, X15, e15, st15⟩ := getF X13 hx hZ hown (host := "") (Or.inl (hw _ (List.mem_of_getElem? (i := 13) rfl))) Via.refl e13 f6 (g := (mkF m 28 #[.val (.ref x0), .val (.int w2), .val (.int w14), .unset, .unset, .unset, .unset] [(.ref x0)])) rfl rfl (hb hby d5_28)
  refine Goes.step st15 ?_
  show Goes _ _ _ _ _ _ _ (T15.setTop (mkF m 31 #[.val (.ref x0), .val (.int w2), .val (.int w14), .unset, .unset, .unset, .unset] [(.ref f0_keys)]))
  refine Goes.step (fun _ k => XS.aloadN X15.here hx rfl (hb hby d5_31) rfl rfl k) ?_
  show Goes _ _ _ _ _ _ _ (T15.setTop (mkF m 32 #[.val (.ref x0), .val (.int w2), .val (.int w14), .unset, .unset, .unset, .unset] [(.ref x0), (.ref f0_keys)]))
  obtain ⟨T16, X16, e16, st16⟩ := getF X15 hx hZ hown (host := "") (Or.inl (hw _ (List.mem_of_getElem? (i := 20) rfl))) Via.refl e15 f7 (g := (mkF m 32 #[.val (.ref x0), .val (.int w2), .val (.int w14), .unset, .unset, .unset, .unset] [(.ref x0), (.ref f0_keys)])) rfl rfl (hb hby d5_32)
  refine Goes.step st16 ?_
  show Goes _ _ _ _ _ _ _ (T16.setTop (mkF m 35 #[.val (.ref x0), .val (.int w2), .val (.int w14), .unset, .unset, .unset, .unset] [(.int (0 : Int32)), (.ref f0_keys)]))
  obtain ⟨cl17, Ar17, q17, S17, P17, G17⟩ := id f10
  have hin17 : ¬ ((0 : Int32) < 0 ∨ cl17.slots.size ≤ ((0 : Int32)).toNatClampNeg) := inb_of S17 ⟨by decide, by decide⟩
  obtain ⟨w17, hat17⟩ := own_arD G17 hin17
  refine Goes.step (fun _ k => X16.daload hx (j := (0 : Int32)) (v := (.double w17)) (by rw [e16]; exact Ar17.1) (State.isArrayOf_alike hZ.alike Ar17.2.1) Ar17.2.2 hin17 hat17 (g := (mkF m 35 #[.val (.ref x0), .val (.int w2), .val (.int w14), .unset, .unset, .unset, .unset] [(.int (0 : Int32)), (.ref f0_keys)])) rfl rfl (hb hby d5_35) _ k) ?_
  show Goes _ _ _ _ _ _ _ (T16.setTop (mkF m 36 #[.val (.ref x0), .val (.int w2), .val (.int w14), .unset, .unset, .unset, .unset] [(.double w17)]))
  refine Goes.step (fun _ k => XS.dstoreN X16.here hx rfl (hb hby d5_36) rfl (l' := #[.val (.ref x0), .val (.int w2), .val (.int w14), .val (.double w17), .second, .unset, .unset]) rfl k) ?_
  show Goes _ _ _ _ _ _ _ (T16.setTop (mkF m 37 #[.val (.ref x0), .val (.int w2), .val (.int w14), .val (.double w17), .second, .unset, .unset] []))
  refine Goes.step (fun _ k => XS.iconst X16.here hx rfl (hb hby d5_37) k) ?_
  show Goes _ _ _ _ _ _ _ (T16.setTop (mkF m 38 #[.val (.ref x0), .val (.int w2), .val (.int w14), .val (.double w17), .second, .unset, .unset] [(.int (0 : Int32))]))
  refine Goes.step (fun _ k => XS.istore X16.here hx rfl (hb hby d5_38) rfl (l' := #[.val (.ref x0), .val (.int w2), .val (.int w14), .val (.double w17), .second, .val (.int (0 : Int32)), .unset]) rfl k) ?_
  show Goes _ _ _ _ _ _ _ (T16.setTop (mkF m 40 #[.val (.ref x0), .val (.int w2), .val (.int w14), .val (.double w17), .second, .val (.int (0 : Int32)), .unset] []))
  refine Goes.step (fun _ k => XS.iconst X16.here hx rfl (hb hby d5_40) k) ?_
  show Goes _ _ _ _ _ _ _ (T16.setTop (mkF m 41 #[.val (.ref x0), .val (.int w2), .val (.int w14), .val (.double w17), .second, .val (.int (0 : Int32)), .unset] [(.int (1 : Int32))]))
  refine Goes.step (fun _ k => XS.istore X16.here hx rfl (hb hby d5_41) rfl (l' := #[.val (.ref x0), .val (.int w2), .val (.int w14), .val (.double w17), .second, .val (.int (0 : Int32)), .val (.int (1 : Int32))]) rfl k) ?_
  show Goes _ _ _ _ _ _ _ (T16.setTop (mkF m 43 #[.val (.ref x0), .val (.int w2), .val (.int w14), .val (.double w17), .second, .val (.int (0 : Int32)), .val (.int (1 : Int32))] []))
  refine Goes.step (fun _ k => XS.iload X16.here hx rfl (hb hby d5_43) rfl  k) ?_
  show Goes _ _ _ _ _ _ _ (T16.setTop (mkF m 45 #[.val (.ref x0), .val (.int w2), .val (.int w14), .val (.double w17), .second, .val (.int (0 : Int32)), .val (.int (1 : Int32))] [(.int (1 : Int32))]))
  refine Goes.step (fun _ k => XS.aloadN X16.here hx rfl (hb hby d5_45) rfl rfl k) ?_
  show Goes _ _ _ _ _ _ _ (T16.setTop (mkF m 46 #[.val (.ref x0), .val (.int w2), .val (.int w14), .val (.double w17), .second, .val (.int (0 : Int32)), .val (.int (1 : Int32))] [(.ref x0), (.int (1 : Int32))]))
  obtain ⟨T18, X18, e18, st18⟩ := getF X16 hx hZ hown (host := "") (Or.inl (hw _ (List.mem_of_getElem? (i := 20) rfl))) Via.refl e16 f7 (g := (mkF m 46 #[.val (.ref x0), .val (.int w2), .val (.int w14), .val (.double w17), .second, .val (.int (0 : Int32)), .val (.int (1 : Int32))] [(.ref x0), (.int (1 : Int32))])) rfl rfl (hb hby d5_46)
  refine Goes.step st18 ?_
  show Goes _ _ _ _ _ _ _ (T18.setTop (mkF m 49 #[.val (.ref x0), .val (.int w2), .val (.int w14), .val (.double w17), .second, .val (.int (0 : Int32)), .val (.int (1 : Int32))] [(.int (0 : Int32)), (.int (1 : Int32))]))
  refine Goes.step (fun _ k => XS.icmpYes X18.here hx rfl (pc0 := 49) (pc' := 144) rfl (hb hby d5_49) rfl (flt (by decide : ¬ ((1 : Int32) < (0 : Int32)))).2.1 (by decide) (by decide) k) ?_
  show Goes _ _ _ _ _ _ _ (T18.setTop (mkF m 144 #[.val (.ref x0), .val (.int w2), .val (.int w14), .val (.double w17), .second, .val (.int (0 : Int32)), .val (.int (1 : Int32))] []))
  refine Goes.step (fun _ k => XS.aloadN X18.here hx rfl (hb hby d5_144) rfl rfl k) ?_
  show Goes _ _ _ _ _ _ _ (T18.setTop (mkF m 145 #[.val (.ref x0), .val (.int w2), .val (.int w14), .val (.double w17), .second, .val (.int (0 : Int32)), .val (.int (1 : Int32))] [(.ref x0)]))
  obtain ⟨T19, X19, e19, st19⟩ := getF X18 hx hZ hown (host := "") (Or.inl (hw _ (List.mem_of_getElem? (i := 10) rfl))) Via.refl e18 f5 (g := (mkF m 145 #[.val (.ref x0), .val (.int w2), .val (.int w14), .val (.double w17), .second, .val (.int (0 : Int32)), .val (.int (1 : Int32))] [(.ref x0)])) rfl rfl (hb hby d5_145)
  refine Goes.step st19 ?_
  show Goes _ _ _ _ _ _ _ (T19.setTop (mkF m 148 #[.val (.ref x0), .val (.int w2), .val (.int w14), .val (.double w17), .second, .val (.int (0 : Int32)), .val (.int (1 : Int32))] [(.ref f0_nodes)]))
  refine Goes.step (fun _ k => XS.iload X19.here hx rfl (hb hby d5_148) rfl  k) ?_
  show Goes _ _ _ _ _ _ _ (T19.setTop (mkF m 150 #[.val (.ref x0), .val (.int w2), .val (.int w14), .val (.double w17), .second, .val (.int (0 : Int32)), .val (.int (1 : Int32))] [(.int (0 : Int32)), (.ref f0_nodes)]))
  refine Goes.step (fun _ k => XS.iloadN X19.here hx rfl (hb hby d5_150) rfl  k) ?_
  show Goes _ _ _ _ _ _ _ (T19.setTop (mkF m 151 #[.val (.ref x0), .val (.int w2), .val (.int w14), .val (.double w17), .second, .val (.int (0 : Int32)), .val (.int (1 : Int32))] [(.int w14), (.int (0 : Int32)), (.ref f0_nodes)]))
  obtain ⟨cl20, Ar20, q20, S20, P20, G20⟩ := id f9
  have hin20 : ¬ ((0 : Int32) < 0 ∨ cl20.slots.size ≤ ((0 : Int32)).toNatClampNeg) := inb_of S20 ⟨by decide, by decide⟩
  obtain ⟨T21, h21, X21, e21, W21, st21⟩ := stI X19 hx hZ e19 Ar20 (j := (0 : Int32)) hin20 (g := (mkF m 151 #[.val (.ref x0), .val (.int w2), .val (.int w14), .val (.double w17), .second, .val (.int (0 : Int32)), .val (.int (1 : Int32))] [(.int w14), (.int (0 : Int32)), (.ref f0_nodes)])) rfl rfl (hb hby d5_151)
  refine Goes.step st21 ?_
  have V21 := Arx.set Ar20 q20 S20 P20 G20 rfl W21
  have f22 := f5.other W21 (Or.inl ne_x0_f0_nodes)
  have f23 := f6.other W21 (Or.inl ne_x0_f0_nodes)
  have f24 := f7.other W21 (Or.inl ne_x0_f0_nodes)
  have f25 := f8.wr W21
  have f26 := V21
  have f27 := f10.other W21 (Ne.symm ne_f0_nodes_f0_keys)
  have K28 : Keep h0 h21 [x0, f0_nodes, f0_keys] := K11.wr W21 (Or.inl (List.mem_of_getElem? (i := 1) rfl))
  have Z28 : n0 ≤ h21.size := by rw [Wr.size W21]; exact Z11
  have N28 := Fr.snoc X21 N11 g_f0_nodes
  show Goes _ _ _ _ _ _ _ (T21.setTop (mkF m 152 #[.val (.ref x0), .val (.int w2), .val (.int w14), .val (.double w17), .second, .val (.int (0 : Int32)), .val (.int (1 : Int32))] []))
  refine Goes.step (fun _ k => XS.aloadN X21.here hx rfl (hb hby d5_152) rfl rfl k) ?_
  show Goes _ _ _ _ _ _ _ (T21.setTop (mkF m 153 #[.val (.ref x0), .val (.int w2), .val (.int w14), .val (.double w17), .second, .val (.int (0 : Int32)), .val (.int (1 : Int32))] [(.ref x0)]))
  obtain ⟨T29, X29, e29, st29⟩ := getF X21 hx hZ hown (host := "") (Or.inl (hw _ (List.mem_of_getElem? (i := 13) rfl))) Via.refl e21 f23 (g := (mkF m 153 #[.val (.ref x0), .val (.int w2), .val (.int w14), .val (.double w17), .second, .val (.int (0 : Int32)), .val (.int (1 : Int32))] [(.ref x0)])) rfl rfl (hb hby d5_153)
  refine Goes.step st29 ?_
  show Goes _ _ _ _ _ _ _ (T29.setTop (mkF m 156 #[.val (.ref x0), .val (.int w2), .val (.int w14), .val (.double w17), .second, .val (.int (0 : Int32)), .val (.int (1 : Int32))] [(.ref f0_keys)]))
  refine Goes.step (fun _ k => XS.iload X29.here hx rfl (hb hby d5_156) rfl  k) ?_
  show Goes _ _ _ _ _ _ _ (T29.setTop (mkF m 158 #[.val (.ref x0), .val (.int w2), .val (.int w14), .val (.double w17), .second, .val (.int (0 : Int32)), .val (.int (1 : Int32))] [(.int (0 : Int32)), (.ref f0_keys)]))
  refine Goes.step (fun _ k => XS.dloadN X29.here hx rfl (hb hby d5_158) rfl k) ?_
  show Goes _ _ _ _ _ _ _ (T29.setTop (mkF m 159 #[.val (.ref x0), .val (.int w2), .val (.int w14), .val (.double w17), .second, .val (.int (0 : Int32)), .val (.int (1 : Int32))] [(.double w17), (.int (0 : Int32)), (.ref f0_keys)]))
  obtain ⟨cl30, Ar30, q30, S30, P30, G30⟩ := id f27
  have hin30 : ¬ ((0 : Int32) < 0 ∨ cl30.slots.size ≤ ((0 : Int32)).toNatClampNeg) := inb_of S30 ⟨by decide, by decide⟩
  obtain ⟨T31, h31, X31, e31, W31, st31⟩ := stD X29 hx hZ e29 Ar30 (j := (0 : Int32)) hin30 (g := (mkF m 159 #[.val (.ref x0), .val (.int w2), .val (.int w14), .val (.double w17), .second, .val (.int (0 : Int32)), .val (.int (1 : Int32))] [(.double w17), (.int (0 : Int32)), (.ref f0_keys)])) rfl rfl (hb hby d5_159)
  refine Goes.step st31 ?_
  have V31 := Arx.set Ar30 q30 S30 P30 G30 rfl W31
  have f32 := f22.other W31 (Or.inl ne_x0_f0_keys)
  have f33 := f23.other W31 (Or.inl ne_x0_f0_keys)
  have f34 := f24.other W31 (Or.inl ne_x0_f0_keys)
  have f35 := f25.wr W31
  have f36 := f26.other W31 ne_f0_nodes_f0_keys
  have f37 := V31
  have K38 : Keep h0 h31 [x0, f0_nodes, f0_keys] := K28.wr W31 (Or.inl (List.mem_of_getElem? (i := 2) rfl))
  have Z38 : n0 ≤ h31.size := by rw [Wr.size W31]; exact Z28
  have N38 := Fr.snoc X31 N28 g_f0_keys
  show Goes _ _ _ _ _ _ _ (T31.setTop (mkF m 160 #[.val (.ref x0), .val (.int w2), .val (.int w14), .val (.double w17), .second, .val (.int (0 : Int32)), .val (.int (1 : Int32))] []))
  refine Goes.step (fun _ k => XS.iloadN X31.here hx rfl (hb hby d5_160) rfl  k) ?_
  show Goes _ _ _ _ _ _ _ (T31.setTop (mkF m 161 #[.val (.ref x0), .val (.int w2), .val (.int w14), .val (.double w17), .second, .val (.int (0 : Int32)), .val (.int (1 : Int32))] [(.int w2)]))
  exact Goes.ret X31 hx (BodyLoose.notSynchronized Bd) Bd.returns rfl (Or.inl ⟨rfl, by simp, _, rfl⟩) (hb hby d5_161) (by show Q5_1 Z x0 f0_nodes f0_keys ka_f0_nodes ka_f0_keys h0 n0 (some (.int w2)) T31.heap _; rw [e31]; exact ⟨N38, K38, ⟨w2, rfl, f32, f33, f34, f35, f36, f37⟩⟩) (by decide) (by decide)
theorem ef_5_2 (m : MethodId) (x0 : Addr) (f0_nodes : Addr) (f0_keys : Addr) (ka_f0_nodes : ClassId) (ka_f0_keys : ClassId)  : entryFrame m #[(.ref x0)] 7 = mkF m 0 #[.val (.ref x0), .unset, .unset, .unset, .unset, .unset, .unset] [] := by first | (simp [entryFrame, mkF, argsToLocals, Value.category]; done) | rfl
def Q5_2 (Z : State) (x0 : Addr) (f0_nodes : Addr) (f0_keys : Addr) (ka_f0_nodes : ClassId) (ka_f0_keys : ClassId) (h0 : Heap) (n0 : Nat) (v : Option Value) (h : Heap) (L : List Loc) : Prop := Fr n0 L ∧ Keep h0 h [x0, f0_nodes, f0_keys] ∧ ((∃ (rv : Int32), v = some (.int rv) ∧ Fld Z h x0 "com/example/hailwise/hailwise/NodeQueue" "nodes" "[I" (.ref f0_nodes) ∧ Fld Z h x0 "com/example/hailwise/hailwise/NodeQueue" "keys" "[D" (.ref f0_keys) ∧ Fld Z h x0 "com/example/hailwise/hailwise/NodeQueue" "size" "I" (.int (1 : Int32)) ∧ Exa Z h x0 "com/example/hailwise/hailwise/NodeQueue" ∧ Arx Z h f0_nodes ka_f0_nodes .int (64 : Int32) ∧ Arx Z h f0_keys ka_f0_keys .double (64 : Int32)))
set_option maxRecDepth 65536 in
set_option maxHeartbeats 40000000 in
theorem rm5_2 (l : Launch) (Z : State) (a0 : Array Value) (hw : ∀ d ∈ tables_1, d.before a0 Z = true) (ws : List Jvm.Cond) (x0 : Addr) (f0_nodes : Addr) (f0_keys : Addr) (ka_f0_nodes : ClassId) (ka_f0_keys : ClassId) (h0 : Heap) (n0 : Nat) (Z0 : n0 ≤ h0.size) (F0_nodes : Fld Z h0 x0 "com/example/hailwise/hailwise/NodeQueue" "nodes" "[I" (.ref f0_nodes)) (F0_keys : Fld Z h0 x0 "com/example/hailwise/hailwise/NodeQueue" "keys" "[D" (.ref f0_keys)) (F0_size : Fld Z h0 x0 "com/example/hailwise/hailwise/NodeQueue" "size" "I" (.int (2 : Int32))) (E_x0 : Exa Z h0 x0 "com/example/hailwise/hailwise/NodeQueue") (V_f0_nodes : Arx Z h0 f0_nodes ka_f0_nodes .int (64 : Int32)) (V_f0_keys : Arx Z h0 f0_keys ka_f0_keys .double (64 : Int32)) (g_x0 : n0 ≤ x0) (g_f0_nodes : n0 ≤ f0_nodes) (g_f0_keys : n0 ≤ f0_keys) (ne_x0_f0_nodes : x0 ≠ f0_nodes) (ne_x0_f0_keys : x0 ≠ f0_keys) (ne_f0_nodes_f0_keys : f0_nodes ≠ f0_keys) :
    MetFree l (⟨"com/example/hailwise/hailwise/NodeQueue", "poll", "()I"⟩ : MethodName) (head1 (Jvm.Cond.code (⟨"com/example/hailwise/hailwise/NodeQueue", "poll", "()I"⟩ : MethodName) prog_21_method_6_code 7 (some .int) :: ws) ({ frames := 0, cells := 0, slots := 0, locals := 0 } : Room)) (fun a U => a = #[(.ref x0)] ∧ Z.Warmed39 U.vm ∧ U.heap = h0) (fun _ _ _ _ _ => True) (fun _ U o U' => ∃ v L, o = .returned v ∧ Q5_2 Z x0 f0_nodes f0_keys ka_f0_nodes ka_f0_keys h0 n0 v U'.heap L ∧ FrameEnd U o U' L ({ frames := 0, cells := 0, slots := 0, locals := 0 } : Room).cells ({ frames := 0, cells := 0, slots := 0, locals := 0 } : Room).slots) := by
  refine MetFree.of_bodySF (plainFor_of_name pn_5) hisR ?_
  intro p e s m args below meth c s₁ Bd hml0 hP hK
  obtain ⟨rfl, hZ, hh⟩ := hP
  have hx := Bd.exec
  have hby := Bd.bytes
  have hml : c.maxLocals = 7 := hml0
  have hown : s.vm.findClass "com/example/hailwise/hailwise/NodeQueue" = some m.cls := findClass_of_methodNamed Bd.named
  have hnm := (name_of_methodNamed Bd.named Bd.method).1
  have X0 : Stand p l e ({ frames := 0, cells := 0, slots := 0, locals := 0 } : Room) s m #[(.ref x0)] below meth c s₁ [] 0 0 := Stand.of_body Bd
  have e0 : s₁.heap = h0 := by rw [← hh, Bd.state]; rfl
  have N0 := Fr.nil n0
  have K0 : Keep h0 h0 [x0, f0_nodes, f0_keys] := Keep.refl h0 _
  refine (?_ : Goes p e below s ({ frames := 0, cells := 0, slots := 0, locals := 0 } : Room).cells ({ frames := 0, cells := 0, slots := 0, locals := 0 } : Room).slots (fun v h L => Q5_2 Z x0 f0_nodes f0_keys ka_f0_nodes ka_f0_keys h0 n0 v h L) (s₁.setTop (entryFrame m #[(.ref x0)] 7)))
  rw [ef_5_2 m x0 f0_nodes f0_keys ka_f0_nodes ka_f0_keys ]
  show Goes _ _ _ _ _ _ _ (s₁.setTop (mkF m 0 #[.val (.ref x0), .unset, .unset, .unset, .unset, .unset, .unset] []))
  refine Goes.step (fun _ k => XS.aloadN X0.here hx rfl (hb hby d5_0) rfl rfl k) ?_
  show Goes _ _ _ _ _ _ _ (s₁.setTop (mkF m 1 #[.val (.ref x0), .unset, .unset, .unset, .unset, .unset, .unset] [(.ref x0)]))
  obtain ⟨T1, X1, e1, st1⟩ := getF X0 hx hZ hown (host := "") (Or.inl (hw _ (List.mem_of_getElem? (i := 10) rfl))) Via.refl e0 F0_nodes (g := (mkF m 1 #[.val (.ref x0), .unset, .unset, .unset, .unset, .unset, .unset] [(.ref x0)])) rfl rfl (hb hby d5_1)
  refine Goes.step st1 ?_
  show Goes _ _ _ _ _ _ _ (T1.setTop (mkF m 4 #[.val (.ref x0), .unset, .unset, .unset, .unset, .unset, .unset] [(.ref f0_nodes)]))
  refine Goes.step (fun _ k => XS.iconst X1.here hx rfl (hb hby d5_4) k) ?_
  show Goes _ _ _ _ _ _ _ (T1.setTop (mkF m 5 #[.val (.ref x0), .unset, .unset, .unset, .unset, .unset, .unset] [(.int (0 : Int32)), (.ref f0_nodes)]))
  obtain ⟨cl2, Ar2, q2, S2, P2, G2⟩ := id V_f0_nodes
  have hin2 : ¬ ((0 : Int32) < 0 ∨ cl2.slots.size ≤ ((0 : Int32)).toNatClampNeg) := inb_of S2 ⟨by decide, by decide⟩
  obtain ⟨w2, hat2⟩ := own_arI G2 hin2
  refine Goes.step (fun _ k => X1.iaload hx (j := (0 : Int32)) (v := (.int w2)) (by rw [e1]; exact Ar2.1) (State.isArrayOf_alike hZ.alike Ar2.2.1) Ar2.2.2 hin2 hat2 (g := (mkF m 5 #[.val (.ref x0), .unset, .unset, .unset, .unset, .unset, .unset] [(.int (0 : Int32)), (.ref f0_nodes)])) rfl rfl (hb hby d5_5) _ k) ?_
  show Goes _ _ _ _ _ _ _ (T1.setTop (mkF m 6 #[.val (.ref x0), .unset, .unset, .unset, .unset, .unset, .unset] [(.int w2)]))
  refine Goes.step (fun _ k => XS.istoreN X1.here hx rfl (hb hby d5_6) rfl (l' := #[.val (.ref x0), .val (.int w2), .unset, .unset, .unset, .unset, .unset]) rfl k) ?_
  show Goes _ _ _ _ _ _ _ (T1.setTop (mkF m 7 #[.val (.ref x0), .val (.int w2), .unset, .unset, .unset, .unset, .unset] []))
  refine Goes.step (fun _ k => XS.aloadN X1.here hx rfl (hb hby d5_7) rfl rfl k) ?_
  show Goes _ _ _ _ _ _ _ (T1.setTop (mkF m 8 #[.val (.ref x0), .val (.int w2), .unset, .unset, .unset, .unset, .unset] [(.ref x0)]))
  refine Goes.step (fun _ k => XS.dup X1.here hx rfl (hb hby d5_8) rfl rfl k) ?_
  show Goes _ _ _ _ _ _ _ (T1.setTop (mkF m 9 #[.val (.ref x0), .val (.int w2), .unset, .unset, .unset, .unset, .unset] [(.ref x0), (.ref x0)]))
  obtain ⟨T3, X3, e3, st3⟩ := getF X1 hx hZ hown (host := "") (Or.inl (hw _ (List.mem_of_getElem? (i := 20) rfl))) Via.refl e1 F0_size (g := (mkF m 9 #[.val (.ref x0), .val (.int w2), .unset, .unset, .unset, .unset, .unset] [(.ref x0), (.ref x0)])) rfl rfl (hb hby d5_9)
  refine Goes.step st3 ?_
  show Goes _ _ _ _ _ _ _ (T3.setTop (mkF m 12 #[.val (.ref x0), .val (.int w2), .unset, .unset, .unset, .unset, .unset] [(.int (2 : Int32)), (.ref x0)]))
  refine Goes.step (fun _ k => XS.iconst X3.here hx rfl (hb hby d5_12) k) ?_
  show Goes _ _ _ _ _ _ _ (T3.setTop (mkF m 13 #[.val (.ref x0), .val (.int w2), .unset, .unset, .unset, .unset, .unset] [(.int (1 : Int32)), (.int (2 : Int32)), (.ref x0)]))
  refine Goes.step (fun _ k => XS.isub X3.here hx rfl (hb hby d5_13) rfl k) ?_
  show Goes _ _ _ _ _ _ _ (T3.setTop (mkF m 14 #[.val (.ref x0), .val (.int w2), .unset, .unset, .unset, .unset, .unset] [(.int (1 : Int32)), (.ref x0)]))
  obtain ⟨T4, h4, X4, e4, W4, st4⟩ := putF X3 hx hZ hown (host := "") (Or.inl (hw _ (List.mem_of_getElem? (i := 20) rfl))) Via.refl e3 F0_size E_x0 (Or.inl (hw _ (List.mem_of_getElem? (i := 21) rfl))) (hw _ (List.mem_of_getElem? (i := 1) rfl)) (ty := .int) (by decide) rfl rfl (g := (mkF m 14 #[.val (.ref x0), .val (.int w2), .unset, .unset, .unset, .unset, .unset] [(.int (1 : Int32)), (.ref x0)])) rfl rfl (hb hby d5_14)
  refine Goes.step st4 ?_
  have f5 := F0_nodes.other W4 (Or.inr (slot_ne (Or.inl (hw _ (List.mem_of_getElem? (i := 11) rfl))) (Or.inl (hw _ (List.mem_of_getElem? (i := 21) rfl))) (by decide) (t := (.array .int)) (t' := .int) (by decide) (by decide)))
  have f6 := F0_keys.other W4 (Or.inr (slot_ne (Or.inl (hw _ (List.mem_of_getElem? (i := 14) rfl))) (Or.inl (hw _ (List.mem_of_getElem? (i := 21) rfl))) (by decide) (t := (.array .double)) (t' := .int) (by decide) (by decide)))
  have f7 := F0_size.same W4
  have f8 := E_x0.wr W4
  have f9 := V_f0_nodes.other W4 (Ne.symm ne_x0_f0_nodes)
  have f10 := V_f0_keys.other W4 (Ne.symm ne_x0_f0_keys)
  have K11 : Keep h0 h4 [x0, f0_nodes, f0_keys] := K0.wr W4 (Or.inl (List.mem_of_getElem? (i := 0) rfl))
  have Z11 : n0 ≤ h4.size := by rw [Wr.size W4]; exact Z0
  have N11 := Fr.snoc X4 N0 g_x0
  show Goes _ _ _ _ _ _ _ (T4.setTop (mkF m 17 #[.val (.ref x0), .val (.int w2), .unset, .unset, .unset, .unset, .unset] []))
  refine Goes.step (fun _ k => XS.aloadN X4.here hx rfl (hb hby d5_17) rfl rfl k) ?_
  show Goes _ _ _ _ _ _ _ (T4.setTop (mkF m 18 #[.val (.ref x0), .val (.int w2), .unset, .unset, .unset, .unset, .unset] [(.ref x0)]))
  obtain ⟨T12, X12, e12, st12⟩ := getF X4 hx hZ hown (host := "") (Or.inl (hw _ (List.mem_of_getElem? (i := 10) rfl))) Via.refl e4 f5 (g := (mkF m 18 #[.val (.ref x0), .val (.int w2), .unset, .unset, .unset, .unset, .unset] [(.ref x0)])) rfl rfl (hb hby d5_18)
  refine Goes.step st12 ?_
  show Goes _ _ _ _ _ _ _ (T12.setTop (mkF m 21 #[.val (.ref x0), .val (.int w2), .unset, .unset, .unset, .unset, .unset] [(.ref f0_nodes)]))
  refine Goes.step (fun _ k => XS.aloadN X12.here hx rfl (hb hby d5_21) rfl rfl k) ?_
  show Goes _ _ _ _ _ _ _ (T12.setTop (mkF m 22 #[.val (.ref x0), .val (.int w2), .unset, .unset, .unset, .unset, .unset] [(.ref x0), (.ref f0_nodes)]))
  obtain ⟨T13, X13, e13, st13⟩ := getF X12 hx hZ hown (host := "") (Or.inl (hw _ (List.mem_of_getElem? (i := 20) rfl))) Via.refl e12 f7 (g := (mkF m 22 #[.val (.ref x0), .val (.int w2), .unset, .unset, .unset, .unset, .unset] [(.ref x0), (.ref f0_nodes)])) rfl rfl (hb hby d5_22)
  refine Goes.step st13 ?_
  show Goes _ _ _ _ _ _ _ (T13.setTop (mkF m 25 #[.val (.ref x0), .val (.int w2), .unset, .unset, .unset, .unset, .unset] [(.int (1 : Int32)), (.ref f0_nodes)]))
  obtain ⟨cl14, Ar14, q14, S14, P14, G14⟩ := id f9
  have hin14 : ¬ ((1 : Int32) < 0 ∨ cl14.slots.size ≤ ((1 : Int32)).toNatClampNeg) := inb_of S14 ⟨by decide, by decide⟩
  obtain ⟨w14, hat14⟩ := own_arI G14 hin14
  refine Goes.step (fun _ k => X13.iaload hx (j := (1 : Int32)) (v := (.int w14)) (by rw [e13]; exact Ar14.1) (State.isArrayOf_alike hZ.alike Ar14.2.1) Ar14.2.2 hin14 hat14 (g := (mkF m 25 #[.val (.ref x0), .val (.int w2), .unset, .unset, .unset, .unset, .unset] [(.int (1 : Int32)), (.ref f0_nodes)])) rfl rfl (hb hby d5_25) _ k) ?_
  show Goes _ _ _ _ _ _ _ (T13.setTop (mkF m 26 #[.val (.ref x0), .val (.int w2), .unset, .unset, .unset, .unset, .unset] [(.int w14)]))
  refine Goes.step (fun _ k => XS.istoreN X13.here hx rfl (hb hby d5_26) rfl (l' := #[.val (.ref x0), .val (.int w2), .val (.int w14), .unset, .unset, .unset, .unset]) rfl k) ?_
  show Goes _ _ _ _ _ _ _ (T13.setTop (mkF m 27 #[.val (.ref x0), .val (.int w2), .val (.int w14), .unset, .unset, .unset, .unset] []))
  refine Goes.step (fun _ k => XS.aloadN X13.here hx rfl (hb hby d5_27) rfl rfl k) ?_
  show Goes _ _ _ _ _ _ _ (T13.setTop (mkF m 28 #[.val (.ref x0), .val (.int w2), .val (.int w14), .unset, .unset, .unset, .unset] [(.ref x0)]))
  obtain ⟨T15, X15, e15, st15⟩ := getF X13 hx hZ hown (host := "") (Or.inl (hw _ (List.mem_of_getElem? (i := 13) rfl))) Via.refl e13 f6 (g := (mkF m 28 #[.val (.ref x0), .val (.int w2), .val (.int w14), .unset, .unset, .unset, .unset] [(.ref x0)])) rfl rfl (hb hby d5_28)
  refine Goes.step st15 ?_
  show Goes _ _ _ _ _ _ _ (T15.setTop (mkF m 31 #[.val (.ref x0), .val (.int w2), .val (.int w14), .unset, .unset, .unset, .unset] [(.ref f0_keys)]))
  refine Goes.step (fun _ k => XS.aloadN X15.here hx rfl (hb hby d5_31) rfl rfl k) ?_
  show Goes _ _ _ _ _ _ _ (T15.setTop (mkF m 32 #[.val (.ref x0), .val (.int w2), .val (.int w14), .unset, .unset, .unset, .unset] [(.ref x0), (.ref f0_keys)]))
  obtain ⟨T16, X16, e16, st16⟩ := getF X15 hx hZ hown (host := "") (Or.inl (hw _ (List.mem_of_getElem? (i := 20) rfl))) Via.refl e15 f7 (g := (mkF m 32 #[.val (.ref x0), .val (.int w2), .val (.int w14), .unset, .unset, .unset, .unset] [(.ref x0), (.ref f0_keys)])) rfl rfl (hb hby d5_32)
  refine Goes.step st16 ?_
  show Goes _ _ _ _ _ _ _ (T16.setTop (mkF m 35 #[.val (.ref x0), .val (.int w2), .val (.int w14), .unset, .unset, .unset, .unset] [(.int (1 : Int32)), (.ref f0_keys)]))
  obtain ⟨cl17, Ar17, q17, S17, P17, G17⟩ := id f10
  have hin17 : ¬ ((1 : Int32) < 0 ∨ cl17.slots.size ≤ ((1 : Int32)).toNatClampNeg) := inb_of S17 ⟨by decide, by decide⟩
  obtain ⟨w17, hat17⟩ := own_arD G17 hin17
  refine Goes.step (fun _ k => X16.daload hx (j := (1 : Int32)) (v := (.double w17)) (by rw [e16]; exact Ar17.1) (State.isArrayOf_alike hZ.alike Ar17.2.1) Ar17.2.2 hin17 hat17 (g := (mkF m 35 #[.val (.ref x0), .val (.int w2), .val (.int w14), .unset, .unset, .unset, .unset] [(.int (1 : Int32)), (.ref f0_keys)])) rfl rfl (hb hby d5_35) _ k) ?_
  show Goes _ _ _ _ _ _ _ (T16.setTop (mkF m 36 #[.val (.ref x0), .val (.int w2), .val (.int w14), .unset, .unset, .unset, .unset] [(.double w17)]))
  refine Goes.step (fun _ k => XS.dstoreN X16.here hx rfl (hb hby d5_36) rfl (l' := #[.val (.ref x0), .val (.int w2), .val (.int w14), .val (.double w17), .second, .unset, .unset]) rfl k) ?_
  show Goes _ _ _ _ _ _ _ (T16.setTop (mkF m 37 #[.val (.ref x0), .val (.int w2), .val (.int w14), .val (.double w17), .second, .unset, .unset] []))
  refine Goes.step (fun _ k => XS.iconst X16.here hx rfl (hb hby d5_37) k) ?_
  show Goes _ _ _ _ _ _ _ (T16.setTop (mkF m 38 #[.val (.ref x0), .val (.int w2), .val (.int w14), .val (.double w17), .second, .unset, .unset] [(.int (0 : Int32))]))
  refine Goes.step (fun _ k => XS.istore X16.here hx rfl (hb hby d5_38) rfl (l' := #[.val (.ref x0), .val (.int w2), .val (.int w14), .val (.double w17), .second, .val (.int (0 : Int32)), .unset]) rfl k) ?_
  show Goes _ _ _ _ _ _ _ (T16.setTop (mkF m 40 #[.val (.ref x0), .val (.int w2), .val (.int w14), .val (.double w17), .second, .val (.int (0 : Int32)), .unset] []))
  refine Goes.step (fun _ k => XS.iconst X16.here hx rfl (hb hby d5_40) k) ?_
  show Goes _ _ _ _ _ _ _ (T16.setTop (mkF m 41 #[.val (.ref x0), .val (.int w2), .val (.int w14), .val (.double w17), .second, .val (.int (0 : Int32)), .unset] [(.int (1 : Int32))]))
  refine Goes.step (fun _ k => XS.istore X16.here hx rfl (hb hby d5_41) rfl (l' := #[.val (.ref x0), .val (.int w2), .val (.int w14), .val (.double w17), .second, .val (.int (0 : Int32)), .val (.int (1 : Int32))]) rfl k) ?_
  show Goes _ _ _ _ _ _ _ (T16.setTop (mkF m 43 #[.val (.ref x0), .val (.int w2), .val (.int w14), .val (.double w17), .second, .val (.int (0 : Int32)), .val (.int (1 : Int32))] []))
  refine Goes.step (fun _ k => XS.iload X16.here hx rfl (hb hby d5_43) rfl  k) ?_
  show Goes _ _ _ _ _ _ _ (T16.setTop (mkF m 45 #[.val (.ref x0), .val (.int w2), .val (.int w14), .val (.double w17), .second, .val (.int (0 : Int32)), .val (.int (1 : Int32))] [(.int (1 : Int32))]))
  refine Goes.step (fun _ k => XS.aloadN X16.here hx rfl (hb hby d5_45) rfl rfl k) ?_
  show Goes _ _ _ _ _ _ _ (T16.setTop (mkF m 46 #[.val (.ref x0), .val (.int w2), .val (.int w14), .val (.double w17), .second, .val (.int (0 : Int32)), .val (.int (1 : Int32))] [(.ref x0), (.int (1 : Int32))]))
  obtain ⟨T18, X18, e18, st18⟩ := getF X16 hx hZ hown (host := "") (Or.inl (hw _ (List.mem_of_getElem? (i := 20) rfl))) Via.refl e16 f7 (g := (mkF m 46 #[.val (.ref x0), .val (.int w2), .val (.int w14), .val (.double w17), .second, .val (.int (0 : Int32)), .val (.int (1 : Int32))] [(.ref x0), (.int (1 : Int32))])) rfl rfl (hb hby d5_46)
  refine Goes.step st18 ?_
  show Goes _ _ _ _ _ _ _ (T18.setTop (mkF m 49 #[.val (.ref x0), .val (.int w2), .val (.int w14), .val (.double w17), .second, .val (.int (0 : Int32)), .val (.int (1 : Int32))] [(.int (1 : Int32)), (.int (1 : Int32))]))
  refine Goes.step (fun _ k => XS.icmpYes X18.here hx rfl (pc0 := 49) (pc' := 144) rfl (hb hby d5_49) rfl (flt (by decide : ¬ ((1 : Int32) < (1 : Int32)))).2.1 (by decide) (by decide) k) ?_
  show Goes _ _ _ _ _ _ _ (T18.setTop (mkF m 144 #[.val (.ref x0), .val (.int w2), .val (.int w14), .val (.double w17), .second, .val (.int (0 : Int32)), .val (.int (1 : Int32))] []))
  refine Goes.step (fun _ k => XS.aloadN X18.here hx rfl (hb hby d5_144) rfl rfl k) ?_
  show Goes _ _ _ _ _ _ _ (T18.setTop (mkF m 145 #[.val (.ref x0), .val (.int w2), .val (.int w14), .val (.double w17), .second, .val (.int (0 : Int32)), .val (.int (1 : Int32))] [(.ref x0)]))
  obtain ⟨T19, X19, e19, st19⟩ := getF X18 hx hZ hown (host := "") (Or.inl (hw _ (List.mem_of_getElem? (i := 10) rfl))) Via.refl e18 f5 (g := (mkF m 145 #[.val (.ref x0), .val (.int w2), .val (.int w14), .val (.double w17), .second, .val (.int (0 : Int32)), .val (.int (1 : Int32))] [(.ref x0)])) rfl rfl (hb hby d5_145)
  refine Goes.step st19 ?_
  show Goes _ _ _ _ _ _ _ (T19.setTop (mkF m 148 #[.val (.ref x0), .val (.int w2), .val (.int w14), .val (.double w17), .second, .val (.int (0 : Int32)), .val (.int (1 : Int32))] [(.ref f0_nodes)]))
  refine Goes.step (fun _ k => XS.iload X19.here hx rfl (hb hby d5_148) rfl  k) ?_
  show Goes _ _ _ _ _ _ _ (T19.setTop (mkF m 150 #[.val (.ref x0), .val (.int w2), .val (.int w14), .val (.double w17), .second, .val (.int (0 : Int32)), .val (.int (1 : Int32))] [(.int (0 : Int32)), (.ref f0_nodes)]))
  refine Goes.step (fun _ k => XS.iloadN X19.here hx rfl (hb hby d5_150) rfl  k) ?_
  show Goes _ _ _ _ _ _ _ (T19.setTop (mkF m 151 #[.val (.ref x0), .val (.int w2), .val (.int w14), .val (.double w17), .second, .val (.int (0 : Int32)), .val (.int (1 : Int32))] [(.int w14), (.int (0 : Int32)), (.ref f0_nodes)]))
  obtain ⟨cl20, Ar20, q20, S20, P20, G20⟩ := id f9
  have hin20 : ¬ ((0 : Int32) < 0 ∨ cl20.slots.size ≤ ((0 : Int32)).toNatClampNeg) := inb_of S20 ⟨by decide, by decide⟩
  obtain ⟨T21, h21, X21, e21, W21, st21⟩ := stI X19 hx hZ e19 Ar20 (j := (0 : Int32)) hin20 (g := (mkF m 151 #[.val (.ref x0), .val (.int w2), .val (.int w14), .val (.double w17), .second, .val (.int (0 : Int32)), .val (.int (1 : Int32))] [(.int w14), (.int (0 : Int32)), (.ref f0_nodes)])) rfl rfl (hb hby d5_151)
  refine Goes.step st21 ?_
  have V21 := Arx.set Ar20 q20 S20 P20 G20 rfl W21
  have f22 := f5.other W21 (Or.inl ne_x0_f0_nodes)
  have f23 := f6.other W21 (Or.inl ne_x0_f0_nodes)
  have f24 := f7.other W21 (Or.inl ne_x0_f0_nodes)
  have f25 := f8.wr W21
  have f26 := V21
  have f27 := f10.other W21 (Ne.symm ne_f0_nodes_f0_keys)
  have K28 : Keep h0 h21 [x0, f0_nodes, f0_keys] := K11.wr W21 (Or.inl (List.mem_of_getElem? (i := 1) rfl))
  have Z28 : n0 ≤ h21.size := by rw [Wr.size W21]; exact Z11
  have N28 := Fr.snoc X21 N11 g_f0_nodes
  show Goes _ _ _ _ _ _ _ (T21.setTop (mkF m 152 #[.val (.ref x0), .val (.int w2), .val (.int w14), .val (.double w17), .second, .val (.int (0 : Int32)), .val (.int (1 : Int32))] []))
  refine Goes.step (fun _ k => XS.aloadN X21.here hx rfl (hb hby d5_152) rfl rfl k) ?_
  show Goes _ _ _ _ _ _ _ (T21.setTop (mkF m 153 #[.val (.ref x0), .val (.int w2), .val (.int w14), .val (.double w17), .second, .val (.int (0 : Int32)), .val (.int (1 : Int32))] [(.ref x0)]))
  obtain ⟨T29, X29, e29, st29⟩ := getF X21 hx hZ hown (host := "") (Or.inl (hw _ (List.mem_of_getElem? (i := 13) rfl))) Via.refl e21 f23 (g := (mkF m 153 #[.val (.ref x0), .val (.int w2), .val (.int w14), .val (.double w17), .second, .val (.int (0 : Int32)), .val (.int (1 : Int32))] [(.ref x0)])) rfl rfl (hb hby d5_153)
  refine Goes.step st29 ?_
  show Goes _ _ _ _ _ _ _ (T29.setTop (mkF m 156 #[.val (.ref x0), .val (.int w2), .val (.int w14), .val (.double w17), .second, .val (.int (0 : Int32)), .val (.int (1 : Int32))] [(.ref f0_keys)]))
  refine Goes.step (fun _ k => XS.iload X29.here hx rfl (hb hby d5_156) rfl  k) ?_
  show Goes _ _ _ _ _ _ _ (T29.setTop (mkF m 158 #[.val (.ref x0), .val (.int w2), .val (.int w14), .val (.double w17), .second, .val (.int (0 : Int32)), .val (.int (1 : Int32))] [(.int (0 : Int32)), (.ref f0_keys)]))
  refine Goes.step (fun _ k => XS.dloadN X29.here hx rfl (hb hby d5_158) rfl k) ?_
  show Goes _ _ _ _ _ _ _ (T29.setTop (mkF m 159 #[.val (.ref x0), .val (.int w2), .val (.int w14), .val (.double w17), .second, .val (.int (0 : Int32)), .val (.int (1 : Int32))] [(.double w17), (.int (0 : Int32)), (.ref f0_keys)]))
  obtain ⟨cl30, Ar30, q30, S30, P30, G30⟩ := id f27
  have hin30 : ¬ ((0 : Int32) < 0 ∨ cl30.slots.size ≤ ((0 : Int32)).toNatClampNeg) := inb_of S30 ⟨by decide, by decide⟩
  obtain ⟨T31, h31, X31, e31, W31, st31⟩ := stD X29 hx hZ e29 Ar30 (j := (0 : Int32)) hin30 (g := (mkF m 159 #[.val (.ref x0), .val (.int w2), .val (.int w14), .val (.double w17), .second, .val (.int (0 : Int32)), .val (.int (1 : Int32))] [(.double w17), (.int (0 : Int32)), (.ref f0_keys)])) rfl rfl (hb hby d5_159)
  refine Goes.step st31 ?_
  have V31 := Arx.set Ar30 q30 S30 P30 G30 rfl W31
  have f32 := f22.other W31 (Or.inl ne_x0_f0_keys)
  have f33 := f23.other W31 (Or.inl ne_x0_f0_keys)
  have f34 := f24.other W31 (Or.inl ne_x0_f0_keys)
  have f35 := f25.wr W31
  have f36 := f26.other W31 ne_f0_nodes_f0_keys
  have f37 := V31
  have K38 : Keep h0 h31 [x0, f0_nodes, f0_keys] := K28.wr W31 (Or.inl (List.mem_of_getElem? (i := 2) rfl))
  have Z38 : n0 ≤ h31.size := by rw [Wr.size W31]; exact Z28
  have N38 := Fr.snoc X31 N28 g_f0_keys
  show Goes _ _ _ _ _ _ _ (T31.setTop (mkF m 160 #[.val (.ref x0), .val (.int w2), .val (.int w14), .val (.double w17), .second, .val (.int (0 : Int32)), .val (.int (1 : Int32))] []))
  refine Goes.step (fun _ k => XS.iloadN X31.here hx rfl (hb hby d5_160) rfl  k) ?_
  show Goes _ _ _ _ _ _ _ (T31.setTop (mkF m 161 #[.val (.ref x0), .val (.int w2), .val (.int w14), .val (.double w17), .second, .val (.int (0 : Int32)), .val (.int (1 : Int32))] [(.int w2)]))
  exact Goes.ret X31 hx (BodyLoose.notSynchronized Bd) Bd.returns rfl (Or.inl ⟨rfl, by simp, _, rfl⟩) (hb hby d5_161) (by show Q5_2 Z x0 f0_nodes f0_keys ka_f0_nodes ka_f0_keys h0 n0 (some (.int w2)) T31.heap _; rw [e31]; exact ⟨N38, K38, ⟨w2, rfl, f32, f33, f34, f35, f36, f37⟩⟩) (by decide) (by decide)
theorem d5_52 : decode prog_21_method_6_code 52 = .ok (.iload 6, 2) := by decide +kernel
theorem d5_54 : decode prog_21_method_6_code 54 = .ok (.iconst 1, 1) := by decide +kernel
theorem d5_55 : decode prog_21_method_6_code 55 = .ok (.iadd, 1) := by decide +kernel
theorem d5_56 : decode prog_21_method_6_code 56 = .ok (.aload_n 0, 1) := by decide +kernel
theorem d5_57 : decode prog_21_method_6_code 57 = .ok (.getfield 17, 3) := by decide +kernel
theorem d5_60 : decode prog_21_method_6_code 60 = .ok (.if_icmp .ge 26, 3) := by decide +kernel
theorem d5_86 : decode prog_21_method_6_code 86 = .ok (.aload_n 0, 1) := by decide +kernel
theorem d5_87 : decode prog_21_method_6_code 87 = .ok (.getfield 13, 3) := by decide +kernel
theorem d5_90 : decode prog_21_method_6_code 90 = .ok (.iload 6, 2) := by decide +kernel
theorem d5_92 : decode prog_21_method_6_code 92 = .ok (.daload, 1) := by decide +kernel
theorem d5_93 : decode prog_21_method_6_code 93 = .ok (.dload_n 3, 1) := by decide +kernel
theorem d5_94 : decode prog_21_method_6_code 94 = .ok (.dcmp .l, 1) := by decide +kernel
theorem d5_95 : decode prog_21_method_6_code 95 = .ok (.ifCond .lt 6, 3) := by decide +kernel
theorem d5_98 : decode prog_21_method_6_code 98 = .ok (.goto 46, 3) := by decide +kernel
theorem d5_101 : decode prog_21_method_6_code 101 = .ok (.aload_n 0, 1) := by decide +kernel
theorem d5_102 : decode prog_21_method_6_code 102 = .ok (.getfield 7, 3) := by decide +kernel
theorem d5_105 : decode prog_21_method_6_code 105 = .ok (.iload 5, 2) := by decide +kernel
theorem d5_107 : decode prog_21_method_6_code 107 = .ok (.aload_n 0, 1) := by decide +kernel
theorem d5_108 : decode prog_21_method_6_code 108 = .ok (.getfield 7, 3) := by decide +kernel
theorem d5_111 : decode prog_21_method_6_code 111 = .ok (.iload 6, 2) := by decide +kernel
theorem d5_113 : decode prog_21_method_6_code 113 = .ok (.iaload, 1) := by decide +kernel
theorem d5_114 : decode prog_21_method_6_code 114 = .ok (.iastore, 1) := by decide +kernel
theorem d5_115 : decode prog_21_method_6_code 115 = .ok (.aload_n 0, 1) := by decide +kernel
theorem d5_116 : decode prog_21_method_6_code 116 = .ok (.getfield 13, 3) := by decide +kernel
theorem d5_119 : decode prog_21_method_6_code 119 = .ok (.iload 5, 2) := by decide +kernel
theorem d5_121 : decode prog_21_method_6_code 121 = .ok (.aload_n 0, 1) := by decide +kernel
theorem d5_122 : decode prog_21_method_6_code 122 = .ok (.getfield 13, 3) := by decide +kernel
theorem d5_125 : decode prog_21_method_6_code 125 = .ok (.iload 6, 2) := by decide +kernel
theorem d5_127 : decode prog_21_method_6_code 127 = .ok (.daload, 1) := by decide +kernel
theorem d5_128 : decode prog_21_method_6_code 128 = .ok (.dastore, 1) := by decide +kernel
theorem d5_129 : decode prog_21_method_6_code 129 = .ok (.iload 6, 2) := by decide +kernel
theorem d5_131 : decode prog_21_method_6_code 131 = .ok (.istore 5, 2) := by decide +kernel
theorem d5_133 : decode prog_21_method_6_code 133 = .ok (.iconst 2, 1) := by decide +kernel
theorem d5_134 : decode prog_21_method_6_code 134 = .ok (.iload 5, 2) := by decide +kernel
theorem d5_136 : decode prog_21_method_6_code 136 = .ok (.imul, 1) := by decide +kernel
theorem d5_137 : decode prog_21_method_6_code 137 = .ok (.iconst 1, 1) := by decide +kernel
theorem d5_138 : decode prog_21_method_6_code 138 = .ok (.iadd, 1) := by decide +kernel
theorem d5_139 : decode prog_21_method_6_code 139 = .ok (.istore 6, 2) := by decide +kernel
theorem d5_141 : decode prog_21_method_6_code 141 = .ok (.goto (-98), 3) := by decide +kernel
theorem ef_5_3 (m : MethodId) (x0 : Addr) (f0_nodes : Addr) (f0_keys : Addr) (ka_f0_nodes : ClassId) (ka_f0_keys : ClassId)  : entryFrame m #[(.ref x0)] 7 = mkF m 0 #[.val (.ref x0), .unset, .unset, .unset, .unset, .unset, .unset] [] := by first | (simp [entryFrame, mkF, argsToLocals, Value.category]; done) | rfl
def Q5_3 (Z : State) (x0 : Addr) (f0_nodes : Addr) (f0_keys : Addr) (ka_f0_nodes : ClassId) (ka_f0_keys : ClassId) (h0 : Heap) (n0 : Nat) (v : Option Value) (h : Heap) (L : List Loc) : Prop := Fr n0 L ∧ Keep h0 h [x0, f0_nodes, f0_keys] ∧ ((∃ (rv : Int32), v = some (.int rv) ∧ Fld Z h x0 "com/example/hailwise/hailwise/NodeQueue" "nodes" "[I" (.ref f0_nodes) ∧ Fld Z h x0 "com/example/hailwise/hailwise/NodeQueue" "keys" "[D" (.ref f0_keys) ∧ Fld Z h x0 "com/example/hailwise/hailwise/NodeQueue" "size" "I" (.int (2 : Int32)) ∧ Exa Z h x0 "com/example/hailwise/hailwise/NodeQueue" ∧ Arx Z h f0_nodes ka_f0_nodes .int (64 : Int32) ∧ Arx Z h f0_keys ka_f0_keys .double (64 : Int32)))
set_option maxRecDepth 65536 in
set_option maxHeartbeats 40000000 in
theorem rm5_3 (l : Launch) (Z : State) (a0 : Array Value) (hw : ∀ d ∈ tables_1, d.before a0 Z = true) (ws : List Jvm.Cond) (x0 : Addr) (f0_nodes : Addr) (f0_keys : Addr) (ka_f0_nodes : ClassId) (ka_f0_keys : ClassId) (h0 : Heap) (n0 : Nat) (Z0 : n0 ≤ h0.size) (F0_nodes : Fld Z h0 x0 "com/example/hailwise/hailwise/NodeQueue" "nodes" "[I" (.ref f0_nodes)) (F0_keys : Fld Z h0 x0 "com/example/hailwise/hailwise/NodeQueue" "keys" "[D" (.ref f0_keys)) (F0_size : Fld Z h0 x0 "com/example/hailwise/hailwise/NodeQueue" "size" "I" (.int (3 : Int32))) (E_x0 : Exa Z h0 x0 "com/example/hailwise/hailwise/NodeQueue") (V_f0_nodes : Arx Z h0 f0_nodes ka_f0_nodes .int (64 : Int32)) (V_f0_keys : Arx Z h0 f0_keys ka_f0_keys .double (64 : Int32)) (g_x0 : n0 ≤ x0) (g_f0_nodes : n0 ≤ f0_nodes) (g_f0_keys : n0 ≤ f0_keys) (ne_x0_f0_nodes : x0 ≠ f0_nodes) (ne_x0_f0_keys : x0 ≠ f0_keys) (ne_f0_nodes_f0_keys : f0_nodes ≠ f0_keys) :
    MetFree l (⟨"com/example/hailwise/hailwise/NodeQueue", "poll", "()I"⟩ : MethodName) (head1 (Jvm.Cond.code (⟨"com/example/hailwise/hailwise/NodeQueue", "poll", "()I"⟩ : MethodName) prog_21_method_6_code 7 (some .int) :: ws) ({ frames := 0, cells := 0, slots := 0, locals := 0 } : Room)) (fun a U => a = #[(.ref x0)] ∧ Z.Warmed39 U.vm ∧ U.heap = h0) (fun _ _ _ _ _ => True) (fun _ U o U' => ∃ v L, o = .returned v ∧ Q5_3 Z x0 f0_nodes f0_keys ka_f0_nodes ka_f0_keys h0 n0 v U'.heap L ∧ FrameEnd U o U' L ({ frames := 0, cells := 0, slots := 0, locals := 0 } : Room).cells ({ frames := 0, cells := 0, slots := 0, locals := 0 } : Room).slots) := by
  refine MetFree.of_bodySF (plainFor_of_name pn_5) hisR ?_
  intro p e s m args below meth c s₁ Bd hml0 hP hK
  obtain ⟨rfl, hZ, hh⟩ := hP
  have hx := Bd.exec
  have hby := Bd.bytes
  have hml : c.maxLocals = 7 := hml0
  have hown : s.vm.findClass "com/example/hailwise/hailwise/NodeQueue" = some m.cls := findClass_of_methodNamed Bd.named
  have hnm := (name_of_methodNamed Bd.named Bd.method).1
  have X0 : Stand p l e ({ frames := 0, cells := 0, slots := 0, locals := 0 } : Room) s m #[(.ref x0)] below meth c s₁ [] 0 0 := Stand.of_body Bd
  have e0 : s₁.heap = h0 := by rw [← hh, Bd.state]; rfl
  have N0 := Fr.nil n0
  have K0 : Keep h0 h0 [x0, f0_nodes, f0_keys] := Keep.refl h0 _
  refine (?_ : Goes p e below s ({ frames := 0, cells := 0, slots := 0, locals := 0 } : Room).cells ({ frames := 0, cells := 0, slots := 0, locals := 0 } : Room).slots (fun v h L => Q5_3 Z x0 f0_nodes f0_keys ka_f0_nodes ka_f0_keys h0 n0 v h L) (s₁.setTop (entryFrame m #[(.ref x0)] 7)))
  rw [ef_5_3 m x0 f0_nodes f0_keys ka_f0_nodes ka_f0_keys ]
  show Goes _ _ _ _ _ _ _ (s₁.setTop (mkF m 0 #[.val (.ref x0), .unset, .unset, .unset, .unset, .unset, .unset] []))
  refine Goes.step (fun _ k => XS.aloadN X0.here hx rfl (hb hby d5_0) rfl rfl k) ?_
  show Goes _ _ _ _ _ _ _ (s₁.setTop (mkF m 1 #[.val (.ref x0), .unset, .unset, .unset, .unset, .unset, .unset] [(.ref x0)]))
  obtain ⟨T1, X1, e1, st1⟩ := getF X0 hx hZ hown (host := "") (Or.inl (hw _ (List.mem_of_getElem? (i := 10) rfl))) Via.refl e0 F0_nodes (g := (mkF m 1 #[.val (.ref x0), .unset, .unset, .unset, .unset, .unset, .unset] [(.ref x0)])) rfl rfl (hb hby d5_1)
  refine Goes.step st1 ?_
  show Goes _ _ _ _ _ _ _ (T1.setTop (mkF m 4 #[.val (.ref x0), .unset, .unset, .unset, .unset, .unset, .unset] [(.ref f0_nodes)]))
  refine Goes.step (fun _ k => XS.iconst X1.here hx rfl (hb hby d5_4) k) ?_
  show Goes _ _ _ _ _ _ _ (T1.setTop (mkF m 5 #[.val (.ref x0), .unset, .unset, .unset, .unset, .unset, .unset] [(.int (0 : Int32)), (.ref f0_nodes)]))
  obtain ⟨cl2, Ar2, q2, S2, P2, G2⟩ := id V_f0_nodes
  have hin2 : ¬ ((0 : Int32) < 0 ∨ cl2.slots.size ≤ ((0 : Int32)).toNatClampNeg) := inb_of S2 ⟨by decide, by decide⟩
  obtain ⟨w2, hat2⟩ := own_arI G2 hin2
  refine Goes.step (fun _ k => X1.iaload hx (j := (0 : Int32)) (v := (.int w2)) (by rw [e1]; exact Ar2.1) (State.isArrayOf_alike hZ.alike Ar2.2.1) Ar2.2.2 hin2 hat2 (g := (mkF m 5 #[.val (.ref x0), .unset, .unset, .unset, .unset, .unset, .unset] [(.int (0 : Int32)), (.ref f0_nodes)])) rfl rfl (hb hby d5_5) _ k) ?_
  show Goes _ _ _ _ _ _ _ (T1.setTop (mkF m 6 #[.val (.ref x0), .unset, .unset, .unset, .unset, .unset, .unset] [(.int w2)]))
  refine Goes.step (fun _ k => XS.istoreN X1.here hx rfl (hb hby d5_6) rfl (l' := #[.val (.ref x0), .val (.int w2), .unset, .unset, .unset, .unset, .unset]) rfl k) ?_
  show Goes _ _ _ _ _ _ _ (T1.setTop (mkF m 7 #[.val (.ref x0), .val (.int w2), .unset, .unset, .unset, .unset, .unset] []))
  refine Goes.step (fun _ k => XS.aloadN X1.here hx rfl (hb hby d5_7) rfl rfl k) ?_
  show Goes _ _ _ _ _ _ _ (T1.setTop (mkF m 8 #[.val (.ref x0), .val (.int w2), .unset, .unset, .unset, .unset, .unset] [(.ref x0)]))
  refine Goes.step (fun _ k => XS.dup X1.here hx rfl (hb hby d5_8) rfl rfl k) ?_
  show Goes _ _ _ _ _ _ _ (T1.setTop (mkF m 9 #[.val (.ref x0), .val (.int w2), .unset, .unset, .unset, .unset, .unset] [(.ref x0), (.ref x0)]))
  obtain ⟨T3, X3, e3, st3⟩ := getF X1 hx hZ hown (host := "") (Or.inl (hw _ (List.mem_of_getElem? (i := 20) rfl))) Via.refl e1 F0_size (g := (mkF m 9 #[.val (.ref x0), .val (.int w2), .unset, .unset, .unset, .unset, .unset] [(.ref x0), (.ref x0)])) rfl rfl (hb hby d5_9)
  refine Goes.step st3 ?_
  show Goes _ _ _ _ _ _ _ (T3.setTop (mkF m 12 #[.val (.ref x0), .val (.int w2), .unset, .unset, .unset, .unset, .unset] [(.int (3 : Int32)), (.ref x0)]))
  refine Goes.step (fun _ k => XS.iconst X3.here hx rfl (hb hby d5_12) k) ?_
  show Goes _ _ _ _ _ _ _ (T3.setTop (mkF m 13 #[.val (.ref x0), .val (.int w2), .unset, .unset, .unset, .unset, .unset] [(.int (1 : Int32)), (.int (3 : Int32)), (.ref x0)]))
  refine Goes.step (fun _ k => XS.isub X3.here hx rfl (hb hby d5_13) rfl k) ?_
  show Goes _ _ _ _ _ _ _ (T3.setTop (mkF m 14 #[.val (.ref x0), .val (.int w2), .unset, .unset, .unset, .unset, .unset] [(.int (2 : Int32)), (.ref x0)]))
  obtain ⟨T4, h4, X4, e4, W4, st4⟩ := putF X3 hx hZ hown (host := "") (Or.inl (hw _ (List.mem_of_getElem? (i := 20) rfl))) Via.refl e3 F0_size E_x0 (Or.inl (hw _ (List.mem_of_getElem? (i := 21) rfl))) (hw _ (List.mem_of_getElem? (i := 1) rfl)) (ty := .int) (by decide) rfl rfl (g := (mkF m 14 #[.val (.ref x0), .val (.int w2), .unset, .unset, .unset, .unset, .unset] [(.int (2 : Int32)), (.ref x0)])) rfl rfl (hb hby d5_14)
  refine Goes.step st4 ?_
  have f5 := F0_nodes.other W4 (Or.inr (slot_ne (Or.inl (hw _ (List.mem_of_getElem? (i := 11) rfl))) (Or.inl (hw _ (List.mem_of_getElem? (i := 21) rfl))) (by decide) (t := (.array .int)) (t' := .int) (by decide) (by decide)))
  have f6 := F0_keys.other W4 (Or.inr (slot_ne (Or.inl (hw _ (List.mem_of_getElem? (i := 14) rfl))) (Or.inl (hw _ (List.mem_of_getElem? (i := 21) rfl))) (by decide) (t := (.array .double)) (t' := .int) (by decide) (by decide)))
  have f7 := F0_size.same W4
  have f8 := E_x0.wr W4
  have f9 := V_f0_nodes.other W4 (Ne.symm ne_x0_f0_nodes)
  have f10 := V_f0_keys.other W4 (Ne.symm ne_x0_f0_keys)
  have K11 : Keep h0 h4 [x0, f0_nodes, f0_keys] := K0.wr W4 (Or.inl (List.mem_of_getElem? (i := 0) rfl))
  have Z11 : n0 ≤ h4.size := by rw [Wr.size W4]; exact Z0
  have N11 := Fr.snoc X4 N0 g_x0
  show Goes _ _ _ _ _ _ _ (T4.setTop (mkF m 17 #[.val (.ref x0), .val (.int w2), .unset, .unset, .unset, .unset, .unset] []))
  refine Goes.step (fun _ k => XS.aloadN X4.here hx rfl (hb hby d5_17) rfl rfl k) ?_
  show Goes _ _ _ _ _ _ _ (T4.setTop (mkF m 18 #[.val (.ref x0), .val (.int w2), .unset, .unset, .unset, .unset, .unset] [(.ref x0)]))
  obtain ⟨T12, X12, e12, st12⟩ := getF X4 hx hZ hown (host := "") (Or.inl (hw _ (List.mem_of_getElem? (i := 10) rfl))) Via.refl e4 f5 (g := (mkF m 18 #[.val (.ref x0), .val (.int w2), .unset, .unset, .unset, .unset, .unset] [(.ref x0)])) rfl rfl (hb hby d5_18)
  refine Goes.step st12 ?_
  show Goes _ _ _ _ _ _ _ (T12.setTop (mkF m 21 #[.val (.ref x0), .val (.int w2), .unset, .unset, .unset, .unset, .unset] [(.ref f0_nodes)]))
  refine Goes.step (fun _ k => XS.aloadN X12.here hx rfl (hb hby d5_21) rfl rfl k) ?_
  show Goes _ _ _ _ _ _ _ (T12.setTop (mkF m 22 #[.val (.ref x0), .val (.int w2), .unset, .unset, .unset, .unset, .unset] [(.ref x0), (.ref f0_nodes)]))
  obtain ⟨T13, X13, e13, st13⟩ := getF X12 hx hZ hown (host := "") (Or.inl (hw _ (List.mem_of_getElem? (i := 20) rfl))) Via.refl e12 f7 (g := (mkF m 22 #[.val (.ref x0), .val (.int w2), .unset, .unset, .unset, .unset, .unset] [(.ref x0), (.ref f0_nodes)])) rfl rfl (hb hby d5_22)
  refine Goes.step st13 ?_
  show Goes _ _ _ _ _ _ _ (T13.setTop (mkF m 25 #[.val (.ref x0), .val (.int w2), .unset, .unset, .unset, .unset, .unset] [(.int (2 : Int32)), (.ref f0_nodes)]))
  obtain ⟨cl14, Ar14, q14, S14, P14, G14⟩ := id f9
  have hin14 : ¬ ((2 : Int32) < 0 ∨ cl14.slots.size ≤ ((2 : Int32)).toNatClampNeg) := inb_of S14 ⟨by decide, by decide⟩
  obtain ⟨w14, hat14⟩ := own_arI G14 hin14
  refine Goes.step (fun _ k => X13.iaload hx (j := (2 : Int32)) (v := (.int w14)) (by rw [e13]; exact Ar14.1) (State.isArrayOf_alike hZ.alike Ar14.2.1) Ar14.2.2 hin14 hat14 (g := (mkF m 25 #[.val (.ref x0), .val (.int w2), .unset, .unset, .unset, .unset, .unset] [(.int (2 : Int32)), (.ref f0_nodes)])) rfl rfl (hb hby d5_25) _ k) ?_
  show Goes _ _ _ _ _ _ _ (T13.setTop (mkF m 26 #[.val (.ref x0), .val (.int w2), .unset, .unset, .unset, .unset, .unset] [(.int w14)]))
  refine Goes.step (fun _ k => XS.istoreN X13.here hx rfl (hb hby d5_26) rfl (l' := #[.val (.ref x0), .val (.int w2), .val (.int w14), .unset, .unset, .unset, .unset]) rfl k) ?_
  show Goes _ _ _ _ _ _ _ (T13.setTop (mkF m 27 #[.val (.ref x0), .val (.int w2), .val (.int w14), .unset, .unset, .unset, .unset] []))
  refine Goes.step (fun _ k => XS.aloadN X13.here hx rfl (hb hby d5_27) rfl rfl k) ?_
  show Goes _ _ _ _ _ _ _ (T13.setTop (mkF m 28 #[.val (.ref x0), .val (.int w2), .val (.int w14), .unset, .unset, .unset, .unset] [(.ref x0)]))
  obtain ⟨T15, X15, e15, st15⟩ := getF X13 hx hZ hown (host := "") (Or.inl (hw _ (List.mem_of_getElem? (i := 13) rfl))) Via.refl e13 f6 (g := (mkF m 28 #[.val (.ref x0), .val (.int w2), .val (.int w14), .unset, .unset, .unset, .unset] [(.ref x0)])) rfl rfl (hb hby d5_28)
  refine Goes.step st15 ?_
  show Goes _ _ _ _ _ _ _ (T15.setTop (mkF m 31 #[.val (.ref x0), .val (.int w2), .val (.int w14), .unset, .unset, .unset, .unset] [(.ref f0_keys)]))
  refine Goes.step (fun _ k => XS.aloadN X15.here hx rfl (hb hby d5_31) rfl rfl k) ?_
  show Goes _ _ _ _ _ _ _ (T15.setTop (mkF m 32 #[.val (.ref x0), .val (.int w2), .val (.int w14), .unset, .unset, .unset, .unset] [(.ref x0), (.ref f0_keys)]))
  obtain ⟨T16, X16, e16, st16⟩ := getF X15 hx hZ hown (host := "") (Or.inl (hw _ (List.mem_of_getElem? (i := 20) rfl))) Via.refl e15 f7 (g := (mkF m 32 #[.val (.ref x0), .val (.int w2), .val (.int w14), .unset, .unset, .unset, .unset] [(.ref x0), (.ref f0_keys)])) rfl rfl (hb hby d5_32)
  refine Goes.step st16 ?_
  show Goes _ _ _ _ _ _ _ (T16.setTop (mkF m 35 #[.val (.ref x0), .val (.int w2), .val (.int w14), .unset, .unset, .unset, .unset] [(.int (2 : Int32)), (.ref f0_keys)]))
  obtain ⟨cl17, Ar17, q17, S17, P17, G17⟩ := id f10
  have hin17 : ¬ ((2 : Int32) < 0 ∨ cl17.slots.size ≤ ((2 : Int32)).toNatClampNeg) := inb_of S17 ⟨by decide, by decide⟩
  obtain ⟨w17, hat17⟩ := own_arD G17 hin17
  refine Goes.step (fun _ k => X16.daload hx (j := (2 : Int32)) (v := (.double w17)) (by rw [e16]; exact Ar17.1) (State.isArrayOf_alike hZ.alike Ar17.2.1) Ar17.2.2 hin17 hat17 (g := (mkF m 35 #[.val (.ref x0), .val (.int w2), .val (.int w14), .unset, .unset, .unset, .unset] [(.int (2 : Int32)), (.ref f0_keys)])) rfl rfl (hb hby d5_35) _ k) ?_
  show Goes _ _ _ _ _ _ _ (T16.setTop (mkF m 36 #[.val (.ref x0), .val (.int w2), .val (.int w14), .unset, .unset, .unset, .unset] [(.double w17)]))
  refine Goes.step (fun _ k => XS.dstoreN X16.here hx rfl (hb hby d5_36) rfl (l' := #[.val (.ref x0), .val (.int w2), .val (.int w14), .val (.double w17), .second, .unset, .unset]) rfl k) ?_
  show Goes _ _ _ _ _ _ _ (T16.setTop (mkF m 37 #[.val (.ref x0), .val (.int w2), .val (.int w14), .val (.double w17), .second, .unset, .unset] []))
  refine Goes.step (fun _ k => XS.iconst X16.here hx rfl (hb hby d5_37) k) ?_
  show Goes _ _ _ _ _ _ _ (T16.setTop (mkF m 38 #[.val (.ref x0), .val (.int w2), .val (.int w14), .val (.double w17), .second, .unset, .unset] [(.int (0 : Int32))]))
  refine Goes.step (fun _ k => XS.istore X16.here hx rfl (hb hby d5_38) rfl (l' := #[.val (.ref x0), .val (.int w2), .val (.int w14), .val (.double w17), .second, .val (.int (0 : Int32)), .unset]) rfl k) ?_
  show Goes _ _ _ _ _ _ _ (T16.setTop (mkF m 40 #[.val (.ref x0), .val (.int w2), .val (.int w14), .val (.double w17), .second, .val (.int (0 : Int32)), .unset] []))
  refine Goes.step (fun _ k => XS.iconst X16.here hx rfl (hb hby d5_40) k) ?_
  show Goes _ _ _ _ _ _ _ (T16.setTop (mkF m 41 #[.val (.ref x0), .val (.int w2), .val (.int w14), .val (.double w17), .second, .val (.int (0 : Int32)), .unset] [(.int (1 : Int32))]))
  refine Goes.step (fun _ k => XS.istore X16.here hx rfl (hb hby d5_41) rfl (l' := #[.val (.ref x0), .val (.int w2), .val (.int w14), .val (.double w17), .second, .val (.int (0 : Int32)), .val (.int (1 : Int32))]) rfl k) ?_
  show Goes _ _ _ _ _ _ _ (T16.setTop (mkF m 43 #[.val (.ref x0), .val (.int w2), .val (.int w14), .val (.double w17), .second, .val (.int (0 : Int32)), .val (.int (1 : Int32))] []))
  refine Goes.step (fun _ k => XS.iload X16.here hx rfl (hb hby d5_43) rfl  k) ?_
  show Goes _ _ _ _ _ _ _ (T16.setTop (mkF m 45 #[.val (.ref x0), .val (.int w2), .val (.int w14), .val (.double w17), .second, .val (.int (0 : Int32)), .val (.int (1 : Int32))] [(.int (1 : Int32))]))
  refine Goes.step (fun _ k => XS.aloadN X16.here hx rfl (hb hby d5_45) rfl rfl k) ?_
  show Goes _ _ _ _ _ _ _ (T16.setTop (mkF m 46 #[.val (.ref x0), .val (.int w2), .val (.int w14), .val (.double w17), .second, .val (.int (0 : Int32)), .val (.int (1 : Int32))] [(.ref x0), (.int (1 : Int32))]))
  obtain ⟨T18, X18, e18, st18⟩ := getF X16 hx hZ hown (host := "") (Or.inl (hw _ (List.mem_of_getElem? (i := 20) rfl))) Via.refl e16 f7 (g := (mkF m 46 #[.val (.ref x0), .val (.int w2), .val (.int w14), .val (.double w17), .second, .val (.int (0 : Int32)), .val (.int (1 : Int32))] [(.ref x0), (.int (1 : Int32))])) rfl rfl (hb hby d5_46)
  refine Goes.step st18 ?_
  show Goes _ _ _ _ _ _ _ (T18.setTop (mkF m 49 #[.val (.ref x0), .val (.int w2), .val (.int w14), .val (.double w17), .second, .val (.int (0 : Int32)), .val (.int (1 : Int32))] [(.int (2 : Int32)), (.int (1 : Int32))]))
  refine Goes.step (fun _ k => XS.icmpNo X18.here hx rfl (hb hby d5_49) rfl (tlt (by decide : (1 : Int32) < (2 : Int32))).2.1 k) ?_
  show Goes _ _ _ _ _ _ _ (T18.setTop (mkF m 52 #[.val (.ref x0), .val (.int w2), .val (.int w14), .val (.double w17), .second, .val (.int (0 : Int32)), .val (.int (1 : Int32))] []))
  refine Goes.step (fun _ k => XS.iload X18.here hx rfl (hb hby d5_52) rfl  k) ?_
  show Goes _ _ _ _ _ _ _ (T18.setTop (mkF m 54 #[.val (.ref x0), .val (.int w2), .val (.int w14), .val (.double w17), .second, .val (.int (0 : Int32)), .val (.int (1 : Int32))] [(.int (1 : Int32))]))
  refine Goes.step (fun _ k => XS.iconst X18.here hx rfl (hb hby d5_54) k) ?_
  show Goes _ _ _ _ _ _ _ (T18.setTop (mkF m 55 #[.val (.ref x0), .val (.int w2), .val (.int w14), .val (.double w17), .second, .val (.int (0 : Int32)), .val (.int (1 : Int32))] [(.int (1 : Int32)), (.int (1 : Int32))]))
  refine Goes.step (fun _ k => XS.iadd X18.here hx rfl (hb hby d5_55) rfl k) ?_
  show Goes _ _ _ _ _ _ _ (T18.setTop (mkF m 56 #[.val (.ref x0), .val (.int w2), .val (.int w14), .val (.double w17), .second, .val (.int (0 : Int32)), .val (.int (1 : Int32))] [(.int (2 : Int32))]))
  refine Goes.step (fun _ k => XS.aloadN X18.here hx rfl (hb hby d5_56) rfl rfl k) ?_
  show Goes _ _ _ _ _ _ _ (T18.setTop (mkF m 57 #[.val (.ref x0), .val (.int w2), .val (.int w14), .val (.double w17), .second, .val (.int (0 : Int32)), .val (.int (1 : Int32))] [(.ref x0), (.int (2 : Int32))]))
  obtain ⟨T19, X19, e19, st19⟩ := getF X18 hx hZ hown (host := "") (Or.inl (hw _ (List.mem_of_getElem? (i := 20) rfl))) Via.refl e18 f7 (g := (mkF m 57 #[.val (.ref x0), .val (.int w2), .val (.int w14), .val (.double w17), .second, .val (.int (0 : Int32)), .val (.int (1 : Int32))] [(.ref x0), (.int (2 : Int32))])) rfl rfl (hb hby d5_57)
  refine Goes.step st19 ?_
  show Goes _ _ _ _ _ _ _ (T19.setTop (mkF m 60 #[.val (.ref x0), .val (.int w2), .val (.int w14), .val (.double w17), .second, .val (.int (0 : Int32)), .val (.int (1 : Int32))] [(.int (2 : Int32)), (.int (2 : Int32))]))
  refine Goes.step (fun _ k => XS.icmpYes X19.here hx rfl (pc0 := 60) (pc' := 86) rfl (hb hby d5_60) rfl (flt (by decide : ¬ ((2 : Int32) < (2 : Int32)))).2.1 (by decide) (by decide) k) ?_
  show Goes _ _ _ _ _ _ _ (T19.setTop (mkF m 86 #[.val (.ref x0), .val (.int w2), .val (.int w14), .val (.double w17), .second, .val (.int (0 : Int32)), .val (.int (1 : Int32))] []))
  refine Goes.step (fun _ k => XS.aloadN X19.here hx rfl (hb hby d5_86) rfl rfl k) ?_
  show Goes _ _ _ _ _ _ _ (T19.setTop (mkF m 87 #[.val (.ref x0), .val (.int w2), .val (.int w14), .val (.double w17), .second, .val (.int (0 : Int32)), .val (.int (1 : Int32))] [(.ref x0)]))
  obtain ⟨T20, X20, e20, st20⟩ := getF X19 hx hZ hown (host := "") (Or.inl (hw _ (List.mem_of_getElem? (i := 13) rfl))) Via.refl e19 f6 (g := (mkF m 87 #[.val (.ref x0), .val (.int w2), .val (.int w14), .val (.double w17), .second, .val (.int (0 : Int32)), .val (.int (1 : Int32))] [(.ref x0)])) rfl rfl (hb hby d5_87)
  refine Goes.step st20 ?_
  show Goes _ _ _ _ _ _ _ (T20.setTop (mkF m 90 #[.val (.ref x0), .val (.int w2), .val (.int w14), .val (.double w17), .second, .val (.int (0 : Int32)), .val (.int (1 : Int32))] [(.ref f0_keys)]))
  refine Goes.step (fun _ k => XS.iload X20.here hx rfl (hb hby d5_90) rfl  k) ?_
  show Goes _ _ _ _ _ _ _ (T20.setTop (mkF m 92 #[.val (.ref x0), .val (.int w2), .val (.int w14), .val (.double w17), .second, .val (.int (0 : Int32)), .val (.int (1 : Int32))] [(.int (1 : Int32)), (.ref f0_keys)]))
  obtain ⟨cl21, Ar21, q21, S21, P21, G21⟩ := id f10
  have hin21 : ¬ ((1 : Int32) < 0 ∨ cl21.slots.size ≤ ((1 : Int32)).toNatClampNeg) := inb_of S21 ⟨by decide, by decide⟩
  obtain ⟨w21, hat21⟩ := own_arD G21 hin21
  refine Goes.step (fun _ k => X20.daload hx (j := (1 : Int32)) (v := (.double w21)) (by rw [e20]; exact Ar21.1) (State.isArrayOf_alike hZ.alike Ar21.2.1) Ar21.2.2 hin21 hat21 (g := (mkF m 92 #[.val (.ref x0), .val (.int w2), .val (.int w14), .val (.double w17), .second, .val (.int (0 : Int32)), .val (.int (1 : Int32))] [(.int (1 : Int32)), (.ref f0_keys)])) rfl rfl (hb hby d5_92) _ k) ?_
  show Goes _ _ _ _ _ _ _ (T20.setTop (mkF m 93 #[.val (.ref x0), .val (.int w2), .val (.int w14), .val (.double w17), .second, .val (.int (0 : Int32)), .val (.int (1 : Int32))] [(.double w21)]))
  refine Goes.step (fun _ k => XS.dloadN X20.here hx rfl (hb hby d5_93) rfl k) ?_
  show Goes _ _ _ _ _ _ _ (T20.setTop (mkF m 94 #[.val (.ref x0), .val (.int w2), .val (.int w14), .val (.double w17), .second, .val (.int (0 : Int32)), .val (.int (1 : Int32))] [(.double w17), (.double w21)]))
  refine Goes.step (fun _ k => XS.dcmpS X20.here hx rfl (hb hby d5_94) rfl rfl k) ?_
  show Goes _ _ _ _ _ _ _ (T20.setTop (mkF m 95 #[.val (.ref x0), .val (.int w2), .val (.int w14), .val (.double w17), .second, .val (.int (0 : Int32)), .val (.int (1 : Int32))] [(.int (cmpValue (FP.dcmp w21 w17) .l))]))
  by_cases c95_22 : (cmpValue (FP.dcmp w21 w17) .l) < (0 : Int32)
  · refine Goes.step (fun _ k => XS.ifYes X20.here hx rfl (pc0 := 95) (pc' := 101) rfl (hb hby d5_95) rfl ((if0 _ _).trans (tlt c95_22).1) (by decide) (by decide) k) ?_
    show Goes _ _ _ _ _ _ _ (T20.setTop (mkF m 101 #[.val (.ref x0), .val (.int w2), .val (.int w14), .val (.double w17), .second, .val (.int (0 : Int32)), .val (.int (1 : Int32))] []))
    refine Goes.step (fun _ k => XS.aloadN X20.here hx rfl (hb hby d5_101) rfl rfl k) ?_
    show Goes _ _ _ _ _ _ _ (T20.setTop (mkF m 102 #[.val (.ref x0), .val (.int w2), .val (.int w14), .val (.double w17), .second, .val (.int (0 : Int32)), .val (.int (1 : Int32))] [(.ref x0)]))
    obtain ⟨T23, X23, e23, st23⟩ := getF X20 hx hZ hown (host := "") (Or.inl (hw _ (List.mem_of_getElem? (i := 10) rfl))) Via.refl e20 f5 (g := (mkF m 102 #[.val (.ref x0), .val (.int w2), .val (.int w14), .val (.double w17), .second, .val (.int (0 : Int32)), .val (.int (1 : Int32))] [(.ref x0)])) rfl rfl (hb hby d5_102)
    refine Goes.step st23 ?_
    show Goes _ _ _ _ _ _ _ (T23.setTop (mkF m 105 #[.val (.ref x0), .val (.int w2), .val (.int w14), .val (.double w17), .second, .val (.int (0 : Int32)), .val (.int (1 : Int32))] [(.ref f0_nodes)]))
    refine Goes.step (fun _ k => XS.iload X23.here hx rfl (hb hby d5_105) rfl  k) ?_
    show Goes _ _ _ _ _ _ _ (T23.setTop (mkF m 107 #[.val (.ref x0), .val (.int w2), .val (.int w14), .val (.double w17), .second, .val (.int (0 : Int32)), .val (.int (1 : Int32))] [(.int (0 : Int32)), (.ref f0_nodes)]))
    refine Goes.step (fun _ k => XS.aloadN X23.here hx rfl (hb hby d5_107) rfl rfl k) ?_
    show Goes _ _ _ _ _ _ _ (T23.setTop (mkF m 108 #[.val (.ref x0), .val (.int w2), .val (.int w14), .val (.double w17), .second, .val (.int (0 : Int32)), .val (.int (1 : Int32))] [(.ref x0), (.int (0 : Int32)), (.ref f0_nodes)]))
    obtain ⟨T24, X24, e24, st24⟩ := getF X23 hx hZ hown (host := "") (Or.inl (hw _ (List.mem_of_getElem? (i := 10) rfl))) Via.refl e23 f5 (g := (mkF m 108 #[.val (.ref x0), .val (.int w2), .val (.int w14), .val (.double w17), .second, .val (.int (0 : Int32)), .val (.int (1 : Int32))] [(.ref x0), (.int (0 : Int32)), (.ref f0_nodes)])) rfl rfl (hb hby d5_108)
    refine Goes.step st24 ?_
    show Goes _ _ _ _ _ _ _ (T24.setTop (mkF m 111 #[.val (.ref x0), .val (.int w2), .val (.int w14), .val (.double w17), .second, .val (.int (0 : Int32)), .val (.int (1 : Int32))] [(.ref f0_nodes), (.int (0 : Int32)), (.ref f0_nodes)]))
    refine Goes.step (fun _ k => XS.iload X24.here hx rfl (hb hby d5_111) rfl  k) ?_
    show Goes _ _ _ _ _ _ _ (T24.setTop (mkF m 113 #[.val (.ref x0), .val (.int w2), .val (.int w14), .val (.double w17), .second, .val (.int (0 : Int32)), .val (.int (1 : Int32))] [(.int (1 : Int32)), (.ref f0_nodes), (.int (0 : Int32)), (.ref f0_nodes)]))
    obtain ⟨cl25, Ar25, q25, S25, P25, G25⟩ := id f9
    have hin25 : ¬ ((1 : Int32) < 0 ∨ cl25.slots.size ≤ ((1 : Int32)).toNatClampNeg) := inb_of S25 ⟨by decide, by decide⟩
    obtain ⟨w25, hat25⟩ := own_arI G25 hin25
    refine Goes.step (fun _ k => X24.iaload hx (j := (1 : Int32)) (v := (.int w25)) (by rw [e24]; exact Ar25.1) (State.isArrayOf_alike hZ.alike Ar25.2.1) Ar25.2.2 hin25 hat25 (g := (mkF m 113 #[.val (.ref x0), .val (.int w2), .val (.int w14), .val (.double w17), .second, .val (.int (0 : Int32)), .val (.int (1 : Int32))] [(.int (1 : Int32)), (.ref f0_nodes), (.int (0 : Int32)), (.ref f0_nodes)])) rfl rfl (hb hby d5_113) _ k) ?_
    show Goes _ _ _ _ _ _ _ (T24.setTop (mkF m 114 #[.val (.ref x0), .val (.int w2), .val (.int w14), .val (.double w17), .second, .val (.int (0 : Int32)), .val (.int (1 : Int32))] [(.int w25), (.int (0 : Int32)), (.ref f0_nodes)]))
    obtain ⟨cl26, Ar26, q26, S26, P26, G26⟩ := id f9
    have hin26 : ¬ ((0 : Int32) < 0 ∨ cl26.slots.size ≤ ((0 : Int32)).toNatClampNeg) := inb_of S26 ⟨by decide, by decide⟩
    obtain ⟨T27, h27, X27, e27, W27, st27⟩ := stI X24 hx hZ e24 Ar26 (j := (0 : Int32)) hin26 (g := (mkF m 114 #[.val (.ref x0), .val (.int w2), .val (.int w14), .val (.double w17), .second, .val (.int (0 : Int32)), .val (.int (1 : Int32))] [(.int w25), (.int (0 : Int32)), (.ref f0_nodes)])) rfl rfl (hb hby d5_114)
    refine Goes.step st27 ?_
    have V27 := Arx.set Ar26 q26 S26 P26 G26 rfl W27
    have f28 := f5.other W27 (Or.inl ne_x0_f0_nodes)
    have f29 := f6.other W27 (Or.inl ne_x0_f0_nodes)
    have f30 := f7.other W27 (Or.inl ne_x0_f0_nodes)
    have f31 := f8.wr W27
    have f32 := V27
    have f33 := f10.other W27 (Ne.symm ne_f0_nodes_f0_keys)
    have K34 : Keep h0 h27 [x0, f0_nodes, f0_keys] := K11.wr W27 (Or.inl (List.mem_of_getElem? (i := 1) rfl))
    have Z34 : n0 ≤ h27.size := by rw [Wr.size W27]; exact Z11
    have N34 := Fr.snoc X27 N11 g_f0_nodes
    show Goes _ _ _ _ _ _ _ (T27.setTop (mkF m 115 #[.val (.ref x0), .val (.int w2), .val (.int w14), .val (.double w17), .second, .val (.int (0 : Int32)), .val (.int (1 : Int32))] []))
    refine Goes.step (fun _ k => XS.aloadN X27.here hx rfl (hb hby d5_115) rfl rfl k) ?_
    show Goes _ _ _ _ _ _ _ (T27.setTop (mkF m 116 #[.val (.ref x0), .val (.int w2), .val (.int w14), .val (.double w17), .second, .val (.int (0 : Int32)), .val (.int (1 : Int32))] [(.ref x0)]))
    obtain ⟨T35, X35, e35, st35⟩ := getF X27 hx hZ hown (host := "") (Or.inl (hw _ (List.mem_of_getElem? (i := 13) rfl))) Via.refl e27 f29 (g := (mkF m 116 #[.val (.ref x0), .val (.int w2), .val (.int w14), .val (.double w17), .second, .val (.int (0 : Int32)), .val (.int (1 : Int32))] [(.ref x0)])) rfl rfl (hb hby d5_116)
    refine Goes.step st35 ?_
    show Goes _ _ _ _ _ _ _ (T35.setTop (mkF m 119 #[.val (.ref x0), .val (.int w2), .val (.int w14), .val (.double w17), .second, .val (.int (0 : Int32)), .val (.int (1 : Int32))] [(.ref f0_keys)]))
    refine Goes.step (fun _ k => XS.iload X35.here hx rfl (hb hby d5_119) rfl  k) ?_
    show Goes _ _ _ _ _ _ _ (T35.setTop (mkF m 121 #[.val (.ref x0), .val (.int w2), .val (.int w14), .val (.double w17), .second, .val (.int (0 : Int32)), .val (.int (1 : Int32))] [(.int (0 : Int32)), (.ref f0_keys)]))
    refine Goes.step (fun _ k => XS.aloadN X35.here hx rfl (hb hby d5_121) rfl rfl k) ?_
    show Goes _ _ _ _ _ _ _ (T35.setTop (mkF m 122 #[.val (.ref x0), .val (.int w2), .val (.int w14), .val (.double w17), .second, .val (.int (0 : Int32)), .val (.int (1 : Int32))] [(.ref x0), (.int (0 : Int32)), (.ref f0_keys)]))
    obtain ⟨T36, X36, e36, st36⟩ := getF X35 hx hZ hown (host := "") (Or.inl (hw _ (List.mem_of_getElem? (i := 13) rfl))) Via.refl e35 f29 (g := (mkF m 122 #[.val (.ref x0), .val (.int w2), .val (.int w14), .val (.double w17), .second, .val (.int (0 : Int32)), .val (.int (1 : Int32))] [(.ref x0), (.int (0 : Int32)), (.ref f0_keys)])) rfl rfl (hb hby d5_122)
    refine Goes.step st36 ?_
    show Goes _ _ _ _ _ _ _ (T36.setTop (mkF m 125 #[.val (.ref x0), .val (.int w2), .val (.int w14), .val (.double w17), .second, .val (.int (0 : Int32)), .val (.int (1 : Int32))] [(.ref f0_keys), (.int (0 : Int32)), (.ref f0_keys)]))
    refine Goes.step (fun _ k => XS.iload X36.here hx rfl (hb hby d5_125) rfl  k) ?_
    show Goes _ _ _ _ _ _ _ (T36.setTop (mkF m 127 #[.val (.ref x0), .val (.int w2), .val (.int w14), .val (.double w17), .second, .val (.int (0 : Int32)), .val (.int (1 : Int32))] [(.int (1 : Int32)), (.ref f0_keys), (.int (0 : Int32)), (.ref f0_keys)]))
    obtain ⟨cl37, Ar37, q37, S37, P37, G37⟩ := id f33
    have hin37 : ¬ ((1 : Int32) < 0 ∨ cl37.slots.size ≤ ((1 : Int32)).toNatClampNeg) := inb_of S37 ⟨by decide, by decide⟩
    obtain ⟨w37, hat37⟩ := own_arD G37 hin37
    refine Goes.step (fun _ k => X36.daload hx (j := (1 : Int32)) (v := (.double w37)) (by rw [e36]; exact Ar37.1) (State.isArrayOf_alike hZ.alike Ar37.2.1) Ar37.2.2 hin37 hat37 (g := (mkF m 127 #[.val (.ref x0), .val (.int w2), .val (.int w14), .val (.double w17), .second, .val (.int (0 : Int32)), .val (.int (1 : Int32))] [(.int (1 : Int32)), (.ref f0_keys), (.int (0 : Int32)), (.ref f0_keys)])) rfl rfl (hb hby d5_127) _ k) ?_
    show Goes _ _ _ _ _ _ _ (T36.setTop (mkF m 128 #[.val (.ref x0), .val (.int w2), .val (.int w14), .val (.double w17), .second, .val (.int (0 : Int32)), .val (.int (1 : Int32))] [(.double w37), (.int (0 : Int32)), (.ref f0_keys)]))
    obtain ⟨cl38, Ar38, q38, S38, P38, G38⟩ := id f33
    have hin38 : ¬ ((0 : Int32) < 0 ∨ cl38.slots.size ≤ ((0 : Int32)).toNatClampNeg) := inb_of S38 ⟨by decide, by decide⟩
    obtain ⟨T39, h39, X39, e39, W39, st39⟩ := stD X36 hx hZ e36 Ar38 (j := (0 : Int32)) hin38 (g := (mkF m 128 #[.val (.ref x0), .val (.int w2), .val (.int w14), .val (.double w17), .second, .val (.int (0 : Int32)), .val (.int (1 : Int32))] [(.double w37), (.int (0 : Int32)), (.ref f0_keys)])) rfl rfl (hb hby d5_128)
    refine Goes.step st39 ?_
    have V39 := Arx.set Ar38 q38 S38 P38 G38 rfl W39
    have f40 := f28.other W39 (Or.inl ne_x0_f0_keys)
    have f41 := f29.other W39 (Or.inl ne_x0_f0_keys)
    have f42 := f30.other W39 (Or.inl ne_x0_f0_keys)
    have f43 := f31.wr W39
    have f44 := f32.other W39 ne_f0_nodes_f0_keys
    have f45 := V39
    have K46 : Keep h0 h39 [x0, f0_nodes, f0_keys] := K34.wr W39 (Or.inl (List.mem_of_getElem? (i := 2) rfl))
    have Z46 : n0 ≤ h39.size := by rw [Wr.size W39]; exact Z34
    have N46 := Fr.snoc X39 N34 g_f0_keys
    show Goes _ _ _ _ _ _ _ (T39.setTop (mkF m 129 #[.val (.ref x0), .val (.int w2), .val (.int w14), .val (.double w17), .second, .val (.int (0 : Int32)), .val (.int (1 : Int32))] []))
    refine Goes.step (fun _ k => XS.iload X39.here hx rfl (hb hby d5_129) rfl  k) ?_
    show Goes _ _ _ _ _ _ _ (T39.setTop (mkF m 131 #[.val (.ref x0), .val (.int w2), .val (.int w14), .val (.double w17), .second, .val (.int (0 : Int32)), .val (.int (1 : Int32))] [(.int (1 : Int32))]))
    refine Goes.step (fun _ k => XS.istore X39.here hx rfl (hb hby d5_131) rfl (l' := #[.val (.ref x0), .val (.int w2), .val (.int w14), .val (.double w17), .second, .val (.int (1 : Int32)), .val (.int (1 : Int32))]) rfl k) ?_
    show Goes _ _ _ _ _ _ _ (T39.setTop (mkF m 133 #[.val (.ref x0), .val (.int w2), .val (.int w14), .val (.double w17), .second, .val (.int (1 : Int32)), .val (.int (1 : Int32))] []))
    refine Goes.step (fun _ k => XS.iconst X39.here hx rfl (hb hby d5_133) k) ?_
    show Goes _ _ _ _ _ _ _ (T39.setTop (mkF m 134 #[.val (.ref x0), .val (.int w2), .val (.int w14), .val (.double w17), .second, .val (.int (1 : Int32)), .val (.int (1 : Int32))] [(.int (2 : Int32))]))
    refine Goes.step (fun _ k => XS.iload X39.here hx rfl (hb hby d5_134) rfl  k) ?_
    show Goes _ _ _ _ _ _ _ (T39.setTop (mkF m 136 #[.val (.ref x0), .val (.int w2), .val (.int w14), .val (.double w17), .second, .val (.int (1 : Int32)), .val (.int (1 : Int32))] [(.int (1 : Int32)), (.int (2 : Int32))]))
    refine Goes.step (fun _ k => XS.imul X39.here hx rfl (hb hby d5_136) rfl k) ?_
    show Goes _ _ _ _ _ _ _ (T39.setTop (mkF m 137 #[.val (.ref x0), .val (.int w2), .val (.int w14), .val (.double w17), .second, .val (.int (1 : Int32)), .val (.int (1 : Int32))] [(.int (2 : Int32))]))
    refine Goes.step (fun _ k => XS.iconst X39.here hx rfl (hb hby d5_137) k) ?_
    show Goes _ _ _ _ _ _ _ (T39.setTop (mkF m 138 #[.val (.ref x0), .val (.int w2), .val (.int w14), .val (.double w17), .second, .val (.int (1 : Int32)), .val (.int (1 : Int32))] [(.int (1 : Int32)), (.int (2 : Int32))]))
    refine Goes.step (fun _ k => XS.iadd X39.here hx rfl (hb hby d5_138) rfl k) ?_
    show Goes _ _ _ _ _ _ _ (T39.setTop (mkF m 139 #[.val (.ref x0), .val (.int w2), .val (.int w14), .val (.double w17), .second, .val (.int (1 : Int32)), .val (.int (1 : Int32))] [(.int (3 : Int32))]))
    refine Goes.step (fun _ k => XS.istore X39.here hx rfl (hb hby d5_139) rfl (l' := #[.val (.ref x0), .val (.int w2), .val (.int w14), .val (.double w17), .second, .val (.int (1 : Int32)), .val (.int (3 : Int32))]) rfl k) ?_
    show Goes _ _ _ _ _ _ _ (T39.setTop (mkF m 141 #[.val (.ref x0), .val (.int w2), .val (.int w14), .val (.double w17), .second, .val (.int (1 : Int32)), .val (.int (3 : Int32))] []))
    refine Goes.step (fun _ k => XS.goto X39.here hx rfl (pc0 := 141) (pc' := 43) rfl (hb hby d5_141) (by decide) (by decide) k) ?_
    show Goes _ _ _ _ _ _ _ (T39.setTop (mkF m 43 #[.val (.ref x0), .val (.int w2), .val (.int w14), .val (.double w17), .second, .val (.int (1 : Int32)), .val (.int (3 : Int32))] []))
    refine Goes.step (fun _ k => XS.iload X39.here hx rfl (hb hby d5_43) rfl  k) ?_
    show Goes _ _ _ _ _ _ _ (T39.setTop (mkF m 45 #[.val (.ref x0), .val (.int w2), .val (.int w14), .val (.double w17), .second, .val (.int (1 : Int32)), .val (.int (3 : Int32))] [(.int (3 : Int32))]))
    refine Goes.step (fun _ k => XS.aloadN X39.here hx rfl (hb hby d5_45) rfl rfl k) ?_
    show Goes _ _ _ _ _ _ _ (T39.setTop (mkF m 46 #[.val (.ref x0), .val (.int w2), .val (.int w14), .val (.double w17), .second, .val (.int (1 : Int32)), .val (.int (3 : Int32))] [(.ref x0), (.int (3 : Int32))]))
    obtain ⟨T47, X47, e47, st47⟩ := getF X39 hx hZ hown (host := "") (Or.inl (hw _ (List.mem_of_getElem? (i := 20) rfl))) Via.refl e39 f42 (g := (mkF m 46 #[.val (.ref x0), .val (.int w2), .val (.int w14), .val (.double w17), .second, .val (.int (1 : Int32)), .val (.int (3 : Int32))] [(.ref x0), (.int (3 : Int32))])) rfl rfl (hb hby d5_46)
    refine Goes.step st47 ?_
    show Goes _ _ _ _ _ _ _ (T47.setTop (mkF m 49 #[.val (.ref x0), .val (.int w2), .val (.int w14), .val (.double w17), .second, .val (.int (1 : Int32)), .val (.int (3 : Int32))] [(.int (2 : Int32)), (.int (3 : Int32))]))
    refine Goes.step (fun _ k => XS.icmpYes X47.here hx rfl (pc0 := 49) (pc' := 144) rfl (hb hby d5_49) rfl (flt (by decide : ¬ ((3 : Int32) < (2 : Int32)))).2.1 (by decide) (by decide) k) ?_
    show Goes _ _ _ _ _ _ _ (T47.setTop (mkF m 144 #[.val (.ref x0), .val (.int w2), .val (.int w14), .val (.double w17), .second, .val (.int (1 : Int32)), .val (.int (3 : Int32))] []))
    refine Goes.step (fun _ k => XS.aloadN X47.here hx rfl (hb hby d5_144) rfl rfl k) ?_
    show Goes _ _ _ _ _ _ _ (T47.setTop (mkF m 145 #[.val (.ref x0), .val (.int w2), .val (.int w14), .val (.double w17), .second, .val (.int (1 : Int32)), .val (.int (3 : Int32))] [(.ref x0)]))
    obtain ⟨T48, X48, e48, st48⟩ := getF X47 hx hZ hown (host := "") (Or.inl (hw _ (List.mem_of_getElem? (i := 10) rfl))) Via.refl e47 f40 (g := (mkF m 145 #[.val (.ref x0), .val (.int w2), .val (.int w14), .val (.double w17), .second, .val (.int (1 : Int32)), .val (.int (3 : Int32))] [(.ref x0)])) rfl rfl (hb hby d5_145)
    refine Goes.step st48 ?_
    show Goes _ _ _ _ _ _ _ (T48.setTop (mkF m 148 #[.val (.ref x0), .val (.int w2), .val (.int w14), .val (.double w17), .second, .val (.int (1 : Int32)), .val (.int (3 : Int32))] [(.ref f0_nodes)]))
    refine Goes.step (fun _ k => XS.iload X48.here hx rfl (hb hby d5_148) rfl  k) ?_
    show Goes _ _ _ _ _ _ _ (T48.setTop (mkF m 150 #[.val (.ref x0), .val (.int w2), .val (.int w14), .val (.double w17), .second, .val (.int (1 : Int32)), .val (.int (3 : Int32))] [(.int (1 : Int32)), (.ref f0_nodes)]))
    refine Goes.step (fun _ k => XS.iloadN X48.here hx rfl (hb hby d5_150) rfl  k) ?_
    show Goes _ _ _ _ _ _ _ (T48.setTop (mkF m 151 #[.val (.ref x0), .val (.int w2), .val (.int w14), .val (.double w17), .second, .val (.int (1 : Int32)), .val (.int (3 : Int32))] [(.int w14), (.int (1 : Int32)), (.ref f0_nodes)]))
    obtain ⟨cl49, Ar49, q49, S49, P49, G49⟩ := id f44
    have hin49 : ¬ ((1 : Int32) < 0 ∨ cl49.slots.size ≤ ((1 : Int32)).toNatClampNeg) := inb_of S49 ⟨by decide, by decide⟩
    obtain ⟨T50, h50, X50, e50, W50, st50⟩ := stI X48 hx hZ e48 Ar49 (j := (1 : Int32)) hin49 (g := (mkF m 151 #[.val (.ref x0), .val (.int w2), .val (.int w14), .val (.double w17), .second, .val (.int (1 : Int32)), .val (.int (3 : Int32))] [(.int w14), (.int (1 : Int32)), (.ref f0_nodes)])) rfl rfl (hb hby d5_151)
    refine Goes.step st50 ?_
    have V50 := Arx.set Ar49 q49 S49 P49 G49 rfl W50
    have f51 := f40.other W50 (Or.inl ne_x0_f0_nodes)
    have f52 := f41.other W50 (Or.inl ne_x0_f0_nodes)
    have f53 := f42.other W50 (Or.inl ne_x0_f0_nodes)
    have f54 := f43.wr W50
    have f55 := V50
    have f56 := f45.other W50 (Ne.symm ne_f0_nodes_f0_keys)
    have K57 : Keep h0 h50 [x0, f0_nodes, f0_keys] := K46.wr W50 (Or.inl (List.mem_of_getElem? (i := 1) rfl))
    have Z57 : n0 ≤ h50.size := by rw [Wr.size W50]; exact Z46
    have N57 := Fr.snoc X50 N46 g_f0_nodes
    show Goes _ _ _ _ _ _ _ (T50.setTop (mkF m 152 #[.val (.ref x0), .val (.int w2), .val (.int w14), .val (.double w17), .second, .val (.int (1 : Int32)), .val (.int (3 : Int32))] []))
    refine Goes.step (fun _ k => XS.aloadN X50.here hx rfl (hb hby d5_152) rfl rfl k) ?_
    show Goes _ _ _ _ _ _ _ (T50.setTop (mkF m 153 #[.val (.ref x0), .val (.int w2), .val (.int w14), .val (.double w17), .second, .val (.int (1 : Int32)), .val (.int (3 : Int32))] [(.ref x0)]))
    obtain ⟨T58, X58, e58, st58⟩ := getF X50 hx hZ hown (host := "") (Or.inl (hw _ (List.mem_of_getElem? (i := 13) rfl))) Via.refl e50 f52 (g := (mkF m 153 #[.val (.ref x0), .val (.int w2), .val (.int w14), .val (.double w17), .second, .val (.int (1 : Int32)), .val (.int (3 : Int32))] [(.ref x0)])) rfl rfl (hb hby d5_153)
    refine Goes.step st58 ?_
    show Goes _ _ _ _ _ _ _ (T58.setTop (mkF m 156 #[.val (.ref x0), .val (.int w2), .val (.int w14), .val (.double w17), .second, .val (.int (1 : Int32)), .val (.int (3 : Int32))] [(.ref f0_keys)]))
    refine Goes.step (fun _ k => XS.iload X58.here hx rfl (hb hby d5_156) rfl  k) ?_
    show Goes _ _ _ _ _ _ _ (T58.setTop (mkF m 158 #[.val (.ref x0), .val (.int w2), .val (.int w14), .val (.double w17), .second, .val (.int (1 : Int32)), .val (.int (3 : Int32))] [(.int (1 : Int32)), (.ref f0_keys)]))
    refine Goes.step (fun _ k => XS.dloadN X58.here hx rfl (hb hby d5_158) rfl k) ?_
    show Goes _ _ _ _ _ _ _ (T58.setTop (mkF m 159 #[.val (.ref x0), .val (.int w2), .val (.int w14), .val (.double w17), .second, .val (.int (1 : Int32)), .val (.int (3 : Int32))] [(.double w17), (.int (1 : Int32)), (.ref f0_keys)]))
    obtain ⟨cl59, Ar59, q59, S59, P59, G59⟩ := id f56
    have hin59 : ¬ ((1 : Int32) < 0 ∨ cl59.slots.size ≤ ((1 : Int32)).toNatClampNeg) := inb_of S59 ⟨by decide, by decide⟩
    obtain ⟨T60, h60, X60, e60, W60, st60⟩ := stD X58 hx hZ e58 Ar59 (j := (1 : Int32)) hin59 (g := (mkF m 159 #[.val (.ref x0), .val (.int w2), .val (.int w14), .val (.double w17), .second, .val (.int (1 : Int32)), .val (.int (3 : Int32))] [(.double w17), (.int (1 : Int32)), (.ref f0_keys)])) rfl rfl (hb hby d5_159)
    refine Goes.step st60 ?_
    have V60 := Arx.set Ar59 q59 S59 P59 G59 rfl W60
    have f61 := f51.other W60 (Or.inl ne_x0_f0_keys)
    have f62 := f52.other W60 (Or.inl ne_x0_f0_keys)
    have f63 := f53.other W60 (Or.inl ne_x0_f0_keys)
    have f64 := f54.wr W60
    have f65 := f55.other W60 ne_f0_nodes_f0_keys
    have f66 := V60
    have K67 : Keep h0 h60 [x0, f0_nodes, f0_keys] := K57.wr W60 (Or.inl (List.mem_of_getElem? (i := 2) rfl))
    have Z67 : n0 ≤ h60.size := by rw [Wr.size W60]; exact Z57
    have N67 := Fr.snoc X60 N57 g_f0_keys
    show Goes _ _ _ _ _ _ _ (T60.setTop (mkF m 160 #[.val (.ref x0), .val (.int w2), .val (.int w14), .val (.double w17), .second, .val (.int (1 : Int32)), .val (.int (3 : Int32))] []))
    refine Goes.step (fun _ k => XS.iloadN X60.here hx rfl (hb hby d5_160) rfl  k) ?_
    show Goes _ _ _ _ _ _ _ (T60.setTop (mkF m 161 #[.val (.ref x0), .val (.int w2), .val (.int w14), .val (.double w17), .second, .val (.int (1 : Int32)), .val (.int (3 : Int32))] [(.int w2)]))
    exact Goes.ret X60 hx (BodyLoose.notSynchronized Bd) Bd.returns rfl (Or.inl ⟨rfl, by simp, _, rfl⟩) (hb hby d5_161) (by show Q5_3 Z x0 f0_nodes f0_keys ka_f0_nodes ka_f0_keys h0 n0 (some (.int w2)) T60.heap _; rw [e60]; exact ⟨N67, K67, ⟨w2, rfl, f61, f62, f63, f64, f65, f66⟩⟩) (by decide) (by decide)
  · refine Goes.step (fun _ k => XS.ifNo X20.here hx rfl (hb hby d5_95) rfl ((if0 _ _).trans (flt c95_22).1) k) ?_
    show Goes _ _ _ _ _ _ _ (T20.setTop (mkF m 98 #[.val (.ref x0), .val (.int w2), .val (.int w14), .val (.double w17), .second, .val (.int (0 : Int32)), .val (.int (1 : Int32))] []))
    refine Goes.step (fun _ k => XS.goto X20.here hx rfl (pc0 := 98) (pc' := 144) rfl (hb hby d5_98) (by decide) (by decide) k) ?_
    show Goes _ _ _ _ _ _ _ (T20.setTop (mkF m 144 #[.val (.ref x0), .val (.int w2), .val (.int w14), .val (.double w17), .second, .val (.int (0 : Int32)), .val (.int (1 : Int32))] []))
    refine Goes.step (fun _ k => XS.aloadN X20.here hx rfl (hb hby d5_144) rfl rfl k) ?_
    show Goes _ _ _ _ _ _ _ (T20.setTop (mkF m 145 #[.val (.ref x0), .val (.int w2), .val (.int w14), .val (.double w17), .second, .val (.int (0 : Int32)), .val (.int (1 : Int32))] [(.ref x0)]))
    obtain ⟨T68, X68, e68, st68⟩ := getF X20 hx hZ hown (host := "") (Or.inl (hw _ (List.mem_of_getElem? (i := 10) rfl))) Via.refl e20 f5 (g := (mkF m 145 #[.val (.ref x0), .val (.int w2), .val (.int w14), .val (.double w17), .second, .val (.int (0 : Int32)), .val (.int (1 : Int32))] [(.ref x0)])) rfl rfl (hb hby d5_145)
    refine Goes.step st68 ?_
    show Goes _ _ _ _ _ _ _ (T68.setTop (mkF m 148 #[.val (.ref x0), .val (.int w2), .val (.int w14), .val (.double w17), .second, .val (.int (0 : Int32)), .val (.int (1 : Int32))] [(.ref f0_nodes)]))
    refine Goes.step (fun _ k => XS.iload X68.here hx rfl (hb hby d5_148) rfl  k) ?_
    show Goes _ _ _ _ _ _ _ (T68.setTop (mkF m 150 #[.val (.ref x0), .val (.int w2), .val (.int w14), .val (.double w17), .second, .val (.int (0 : Int32)), .val (.int (1 : Int32))] [(.int (0 : Int32)), (.ref f0_nodes)]))
    refine Goes.step (fun _ k => XS.iloadN X68.here hx rfl (hb hby d5_150) rfl  k) ?_
    show Goes _ _ _ _ _ _ _ (T68.setTop (mkF m 151 #[.val (.ref x0), .val (.int w2), .val (.int w14), .val (.double w17), .second, .val (.int (0 : Int32)), .val (.int (1 : Int32))] [(.int w14), (.int (0 : Int32)), (.ref f0_nodes)]))
    obtain ⟨cl69, Ar69, q69, S69, P69, G69⟩ := id f9
    have hin69 : ¬ ((0 : Int32) < 0 ∨ cl69.slots.size ≤ ((0 : Int32)).toNatClampNeg) := inb_of S69 ⟨by decide, by decide⟩
    obtain ⟨T70, h70, X70, e70, W70, st70⟩ := stI X68 hx hZ e68 Ar69 (j := (0 : Int32)) hin69 (g := (mkF m 151 #[.val (.ref x0), .val (.int w2), .val (.int w14), .val (.double w17), .second, .val (.int (0 : Int32)), .val (.int (1 : Int32))] [(.int w14), (.int (0 : Int32)), (.ref f0_nodes)])) rfl rfl (hb hby d5_151)
    refine Goes.step st70 ?_
    have V70 := Arx.set Ar69 q69 S69 P69 G69 rfl W70
    have f71 := f5.other W70 (Or.inl ne_x0_f0_nodes)
    have f72 := f6.other W70 (Or.inl ne_x0_f0_nodes)
    have f73 := f7.other W70 (Or.inl ne_x0_f0_nodes)
    have f74 := f8.wr W70
    have f75 := V70
    have f76 := f10.other W70 (Ne.symm ne_f0_nodes_f0_keys)
    have K77 : Keep h0 h70 [x0, f0_nodes, f0_keys] := K11.wr W70 (Or.inl (List.mem_of_getElem? (i := 1) rfl))
    have Z77 : n0 ≤ h70.size := by rw [Wr.size W70]; exact Z11
    have N77 := Fr.snoc X70 N11 g_f0_nodes
    show Goes _ _ _ _ _ _ _ (T70.setTop (mkF m 152 #[.val (.ref x0), .val (.int w2), .val (.int w14), .val (.double w17), .second, .val (.int (0 : Int32)), .val (.int (1 : Int32))] []))
    refine Goes.step (fun _ k => XS.aloadN X70.here hx rfl (hb hby d5_152) rfl rfl k) ?_
    show Goes _ _ _ _ _ _ _ (T70.setTop (mkF m 153 #[.val (.ref x0), .val (.int w2), .val (.int w14), .val (.double w17), .second, .val (.int (0 : Int32)), .val (.int (1 : Int32))] [(.ref x0)]))
    obtain ⟨T78, X78, e78, st78⟩ := getF X70 hx hZ hown (host := "") (Or.inl (hw _ (List.mem_of_getElem? (i := 13) rfl))) Via.refl e70 f72 (g := (mkF m 153 #[.val (.ref x0), .val (.int w2), .val (.int w14), .val (.double w17), .second, .val (.int (0 : Int32)), .val (.int (1 : Int32))] [(.ref x0)])) rfl rfl (hb hby d5_153)
    refine Goes.step st78 ?_
    show Goes _ _ _ _ _ _ _ (T78.setTop (mkF m 156 #[.val (.ref x0), .val (.int w2), .val (.int w14), .val (.double w17), .second, .val (.int (0 : Int32)), .val (.int (1 : Int32))] [(.ref f0_keys)]))
    refine Goes.step (fun _ k => XS.iload X78.here hx rfl (hb hby d5_156) rfl  k) ?_
    show Goes _ _ _ _ _ _ _ (T78.setTop (mkF m 158 #[.val (.ref x0), .val (.int w2), .val (.int w14), .val (.double w17), .second, .val (.int (0 : Int32)), .val (.int (1 : Int32))] [(.int (0 : Int32)), (.ref f0_keys)]))
    refine Goes.step (fun _ k => XS.dloadN X78.here hx rfl (hb hby d5_158) rfl k) ?_
    show Goes _ _ _ _ _ _ _ (T78.setTop (mkF m 159 #[.val (.ref x0), .val (.int w2), .val (.int w14), .val (.double w17), .second, .val (.int (0 : Int32)), .val (.int (1 : Int32))] [(.double w17), (.int (0 : Int32)), (.ref f0_keys)]))
    obtain ⟨cl79, Ar79, q79, S79, P79, G79⟩ := id f76
    have hin79 : ¬ ((0 : Int32) < 0 ∨ cl79.slots.size ≤ ((0 : Int32)).toNatClampNeg) := inb_of S79 ⟨by decide, by decide⟩
    obtain ⟨T80, h80, X80, e80, W80, st80⟩ := stD X78 hx hZ e78 Ar79 (j := (0 : Int32)) hin79 (g := (mkF m 159 #[.val (.ref x0), .val (.int w2), .val (.int w14), .val (.double w17), .second, .val (.int (0 : Int32)), .val (.int (1 : Int32))] [(.double w17), (.int (0 : Int32)), (.ref f0_keys)])) rfl rfl (hb hby d5_159)
    refine Goes.step st80 ?_
    have V80 := Arx.set Ar79 q79 S79 P79 G79 rfl W80
    have f81 := f71.other W80 (Or.inl ne_x0_f0_keys)
    have f82 := f72.other W80 (Or.inl ne_x0_f0_keys)
    have f83 := f73.other W80 (Or.inl ne_x0_f0_keys)
    have f84 := f74.wr W80
    have f85 := f75.other W80 ne_f0_nodes_f0_keys
    have f86 := V80
    have K87 : Keep h0 h80 [x0, f0_nodes, f0_keys] := K77.wr W80 (Or.inl (List.mem_of_getElem? (i := 2) rfl))
    have Z87 : n0 ≤ h80.size := by rw [Wr.size W80]; exact Z77
    have N87 := Fr.snoc X80 N77 g_f0_keys
    show Goes _ _ _ _ _ _ _ (T80.setTop (mkF m 160 #[.val (.ref x0), .val (.int w2), .val (.int w14), .val (.double w17), .second, .val (.int (0 : Int32)), .val (.int (1 : Int32))] []))
    refine Goes.step (fun _ k => XS.iloadN X80.here hx rfl (hb hby d5_160) rfl  k) ?_
    show Goes _ _ _ _ _ _ _ (T80.setTop (mkF m 161 #[.val (.ref x0), .val (.int w2), .val (.int w14), .val (.double w17), .second, .val (.int (0 : Int32)), .val (.int (1 : Int32))] [(.int w2)]))
    exact Goes.ret X80 hx (BodyLoose.notSynchronized Bd) Bd.returns rfl (Or.inl ⟨rfl, by simp, _, rfl⟩) (hb hby d5_161) (by show Q5_3 Z x0 f0_nodes f0_keys ka_f0_nodes ka_f0_keys h0 n0 (some (.int w2)) T80.heap _; rw [e80]; exact ⟨N87, K87, ⟨w2, rfl, f81, f82, f83, f84, f85, f86⟩⟩) (by decide) (by decide)
theorem d4_0 : decode prog_21_method_3_code 0 = .ok (.aload_n 0, 1) := by decide +kernel
theorem d4_1 : decode prog_21_method_3_code 1 = .ok (.getfield 17, 3) := by decide +kernel
theorem d4_4 : decode prog_21_method_3_code 4 = .ok (.ifCond .ne 7, 3) := by decide +kernel
theorem d4_7 : decode prog_21_method_3_code 7 = .ok (.iconst 1, 1) := by decide +kernel
theorem d4_8 : decode prog_21_method_3_code 8 = .ok (.goto 4, 3) := by decide +kernel
theorem d4_11 : decode prog_21_method_3_code 11 = .ok (.iconst 0, 1) := by decide +kernel
theorem d4_12 : decode prog_21_method_3_code 12 = .ok (.ireturn, 1) := by decide +kernel
theorem pn_4 : plainName "com/example/hailwise/hailwise/NodeQueue" = true := by first | (simp [plainName, overriddenIn]; done) | decide +kernel
theorem ef_4 (m : MethodId) (x0 : Addr) (f0_size : Int32)  : entryFrame m #[(.ref x0)] 1 = mkF m 0 #[.val (.ref x0)] [] := by first | (simp [entryFrame, mkF, argsToLocals, Value.category]; done) | rfl
def Q4 (Z : State) (x0 : Addr) (f0_size : Int32) (h0 : Heap) (n0 : Nat) (v : Option Value) (h : Heap) (L : List Loc) : Prop := Fr n0 L ∧ h = h0 ∧ ((v = some (.int (1 : Int32)) ∧ f0_size = (0 : Int32)) ∨ (v = some (.int (0 : Int32)) ∧ ¬ (f0_size = (0 : Int32))))
set_option maxRecDepth 65536 in
set_option maxHeartbeats 40000000 in
theorem rm4 (l : Launch) (Z : State) (a0 : Array Value) (hw : ∀ d ∈ tables_1, d.before a0 Z = true) (ws : List Jvm.Cond) (x0 : Addr) (f0_size : Int32) (h0 : Heap) (n0 : Nat) (Z0 : n0 ≤ h0.size) (F0_size : Fld Z h0 x0 "com/example/hailwise/hailwise/NodeQueue" "size" "I" (.int f0_size)) :
    MetFree l (⟨"com/example/hailwise/hailwise/NodeQueue", "isEmpty", "()Z"⟩ : MethodName) (head1 (Jvm.Cond.code (⟨"com/example/hailwise/hailwise/NodeQueue", "isEmpty", "()Z"⟩ : MethodName) prog_21_method_3_code 1 (some .boolean) :: ws) ({ frames := 0, cells := 0, slots := 0, locals := 0 } : Room)) (fun a U => a = #[(.ref x0)] ∧ Z.Warmed39 U.vm ∧ U.heap = h0) (fun _ _ _ _ _ => True) (fun _ U o U' => ∃ v L, o = .returned v ∧ Q4 Z x0 f0_size h0 n0 v U'.heap L ∧ FrameEnd U o U' L ({ frames := 0, cells := 0, slots := 0, locals := 0 } : Room).cells ({ frames := 0, cells := 0, slots := 0, locals := 0 } : Room).slots) := by
  refine MetFree.of_bodySF (plainFor_of_name pn_4) hisR ?_
  intro p e s m args below meth c s₁ Bd hml0 hP hK
  obtain ⟨rfl, hZ, hh⟩ := hP
  have hx := Bd.exec
  have hby := Bd.bytes
  have hml : c.maxLocals = 1 := hml0
  have hown : s.vm.findClass "com/example/hailwise/hailwise/NodeQueue" = some m.cls := findClass_of_methodNamed Bd.named
  have hnm := (name_of_methodNamed Bd.named Bd.method).1
  have X0 : Stand p l e ({ frames := 0, cells := 0, slots := 0, locals := 0 } : Room) s m #[(.ref x0)] below meth c s₁ [] 0 0 := Stand.of_body Bd
  have e0 : s₁.heap = h0 := by rw [← hh, Bd.state]; rfl
  have N0 := Fr.nil n0
  have K0 : Keep h0 h0 [] := Keep.refl h0 _
  refine (?_ : Goes p e below s ({ frames := 0, cells := 0, slots := 0, locals := 0 } : Room).cells ({ frames := 0, cells := 0, slots := 0, locals := 0 } : Room).slots (fun v h L => Q4 Z x0 f0_size h0 n0 v h L) (s₁.setTop (entryFrame m #[(.ref x0)] 1)))
  rw [ef_4 m x0 f0_size ]
  show Goes _ _ _ _ _ _ _ (s₁.setTop (mkF m 0 #[.val (.ref x0)] []))
  refine Goes.step (fun _ k => XS.aloadN X0.here hx rfl (hb hby d4_0) rfl rfl k) ?_
  show Goes _ _ _ _ _ _ _ (s₁.setTop (mkF m 1 #[.val (.ref x0)] [(.ref x0)]))
  obtain ⟨T1, X1, e1, st1⟩ := getF X0 hx hZ hown (host := "") (Or.inl (hw _ (List.mem_of_getElem? (i := 20) rfl))) Via.refl e0 F0_size (g := (mkF m 1 #[.val (.ref x0)] [(.ref x0)])) rfl rfl (hb hby d4_1)
  refine Goes.step st1 ?_
  show Goes _ _ _ _ _ _ _ (T1.setTop (mkF m 4 #[.val (.ref x0)] [(.int f0_size)]))
  by_cases c4_2 : f0_size = (0 : Int32)
  · refine Goes.step (fun _ k => XS.ifNo X1.here hx rfl (hb hby d4_4) rfl ((if0 _ _).trans (teq c4_2).2) k) ?_
    show Goes _ _ _ _ _ _ _ (T1.setTop (mkF m 7 #[.val (.ref x0)] []))
    refine Goes.step (fun _ k => XS.iconst X1.here hx rfl (hb hby d4_7) k) ?_
    show Goes _ _ _ _ _ _ _ (T1.setTop (mkF m 8 #[.val (.ref x0)] [(.int (1 : Int32))]))
    refine Goes.step (fun _ k => XS.goto X1.here hx rfl (pc0 := 8) (pc' := 12) rfl (hb hby d4_8) (by decide) (by decide) k) ?_
    show Goes _ _ _ _ _ _ _ (T1.setTop (mkF m 12 #[.val (.ref x0)] [(.int (1 : Int32))]))
    exact Goes.ret X1 hx (BodyLoose.notSynchronized Bd) Bd.returns rfl (Or.inl ⟨rfl, by simp, _, rfl⟩) (hb hby d4_12) (by show Q4 Z x0 f0_size h0 n0 (some (.int (1 : Int32))) T1.heap _; rw [e1]; exact ⟨N0, rfl, Or.inl (⟨rfl, c4_2⟩)⟩) (by decide) (by decide)
  · refine Goes.step (fun _ k => XS.ifYes X1.here hx rfl (pc0 := 4) (pc' := 11) rfl (hb hby d4_4) rfl ((if0 _ _).trans (feq c4_2).2) (by decide) (by decide) k) ?_
    show Goes _ _ _ _ _ _ _ (T1.setTop (mkF m 11 #[.val (.ref x0)] []))
    refine Goes.step (fun _ k => XS.iconst X1.here hx rfl (hb hby d4_11) k) ?_
    show Goes _ _ _ _ _ _ _ (T1.setTop (mkF m 12 #[.val (.ref x0)] [(.int (0 : Int32))]))
    exact Goes.ret X1 hx (BodyLoose.notSynchronized Bd) Bd.returns rfl (Or.inl ⟨rfl, by simp, _, rfl⟩) (hb hby d4_12) (by show Q4 Z x0 f0_size h0 n0 (some (.int (0 : Int32))) T1.heap _; rw [e1]; exact ⟨N0, rfl, Or.inr (⟨rfl, c4_2⟩)⟩) (by decide) (by decide)
theorem d6_0 : decode prog_21_method_2_code 0 = .ok (.aload_n 0, 1) := by decide +kernel
theorem d6_1 : decode prog_21_method_2_code 1 = .ok (.iconst 0, 1) := by decide +kernel
theorem d6_2 : decode prog_21_method_2_code 2 = .ok (.putfield 17, 3) := by decide +kernel
theorem d6_5 : decode prog_21_method_2_code 5 = .ok (.return_, 1) := by decide +kernel
theorem pn_6 : plainName "com/example/hailwise/hailwise/NodeQueue" = true := by first | (simp [plainName, overriddenIn]; done) | decide +kernel
theorem ef_6 (m : MethodId) (x0 : Addr) (f0_nodes : Addr) (f0_keys : Addr) (f0_size : Int32)  : entryFrame m #[(.ref x0)] 1 = mkF m 0 #[.val (.ref x0)] [] := by first | (simp [entryFrame, mkF, argsToLocals, Value.category]; done) | rfl
def Q6 (Z : State) (x0 : Addr) (f0_nodes : Addr) (f0_keys : Addr) (f0_size : Int32) (h0 : Heap) (n0 : Nat) (v : Option Value) (h : Heap) (L : List Loc) : Prop := Fr n0 L ∧ Keep h0 h [x0] ∧ ((v = none ∧ Fld Z h x0 "com/example/hailwise/hailwise/NodeQueue" "nodes" "[I" (.ref f0_nodes) ∧ Fld Z h x0 "com/example/hailwise/hailwise/NodeQueue" "keys" "[D" (.ref f0_keys) ∧ Fld Z h x0 "com/example/hailwise/hailwise/NodeQueue" "size" "I" (.int (0 : Int32)) ∧ Exa Z h x0 "com/example/hailwise/hailwise/NodeQueue"))
set_option maxRecDepth 65536 in
set_option maxHeartbeats 40000000 in
theorem rm6 (l : Launch) (Z : State) (a0 : Array Value) (hw : ∀ d ∈ tables_1, d.before a0 Z = true) (ws : List Jvm.Cond) (x0 : Addr) (f0_nodes : Addr) (f0_keys : Addr) (f0_size : Int32) (h0 : Heap) (n0 : Nat) (Z0 : n0 ≤ h0.size) (F0_nodes : Fld Z h0 x0 "com/example/hailwise/hailwise/NodeQueue" "nodes" "[I" (.ref f0_nodes)) (F0_keys : Fld Z h0 x0 "com/example/hailwise/hailwise/NodeQueue" "keys" "[D" (.ref f0_keys)) (F0_size : Fld Z h0 x0 "com/example/hailwise/hailwise/NodeQueue" "size" "I" (.int f0_size)) (E_x0 : Exa Z h0 x0 "com/example/hailwise/hailwise/NodeQueue") (g_x0 : n0 ≤ x0) :
    MetFree l (⟨"com/example/hailwise/hailwise/NodeQueue", "clear", "()V"⟩ : MethodName) (head1 (Jvm.Cond.code (⟨"com/example/hailwise/hailwise/NodeQueue", "clear", "()V"⟩ : MethodName) prog_21_method_2_code 1 none :: ws) ({ frames := 0, cells := 0, slots := 0, locals := 0 } : Room)) (fun a U => a = #[(.ref x0)] ∧ Z.Warmed39 U.vm ∧ U.heap = h0) (fun _ _ _ _ _ => True) (fun _ U o U' => ∃ v L, o = .returned v ∧ Q6 Z x0 f0_nodes f0_keys f0_size h0 n0 v U'.heap L ∧ FrameEnd U o U' L ({ frames := 0, cells := 0, slots := 0, locals := 0 } : Room).cells ({ frames := 0, cells := 0, slots := 0, locals := 0 } : Room).slots) := by
  refine MetFree.of_bodySF (plainFor_of_name pn_6) hisR ?_
  intro p e s m args below meth c s₁ Bd hml0 hP hK
  obtain ⟨rfl, hZ, hh⟩ := hP
  have hx := Bd.exec
  have hby := Bd.bytes
  have hml : c.maxLocals = 1 := hml0
  have hown : s.vm.findClass "com/example/hailwise/hailwise/NodeQueue" = some m.cls := findClass_of_methodNamed Bd.named
  have hnm := (name_of_methodNamed Bd.named Bd.method).1
  have X0 : Stand p l e ({ frames := 0, cells := 0, slots := 0, locals := 0 } : Room) s m #[(.ref x0)] below meth c s₁ [] 0 0 := Stand.of_body Bd
  have e0 : s₁.heap = h0 := by rw [← hh, Bd.state]; rfl
  have N0 := Fr.nil n0
  have K0 : Keep h0 h0 [x0] := Keep.refl h0 _
  refine (?_ : Goes p e below s ({ frames := 0, cells := 0, slots := 0, locals := 0 } : Room).cells ({ frames := 0, cells := 0, slots := 0, locals := 0 } : Room).slots (fun v h L => Q6 Z x0 f0_nodes f0_keys f0_size h0 n0 v h L) (s₁.setTop (entryFrame m #[(.ref x0)] 1)))
  rw [ef_6 m x0 f0_nodes f0_keys f0_size ]
  show Goes _ _ _ _ _ _ _ (s₁.setTop (mkF m 0 #[.val (.ref x0)] []))
  refine Goes.step (fun _ k => XS.aloadN X0.here hx rfl (hb hby d6_0) rfl rfl k) ?_
  show Goes _ _ _ _ _ _ _ (s₁.setTop (mkF m 1 #[.val (.ref x0)] [(.ref x0)]))
  refine Goes.step (fun _ k => XS.iconst X0.here hx rfl (hb hby d6_1) k) ?_
  show Goes _ _ _ _ _ _ _ (s₁.setTop (mkF m 2 #[.val (.ref x0)] [(.int (0 : Int32)), (.ref x0)]))
  obtain ⟨T1, h1, X1, e1, W1, st1⟩ := putF X0 hx hZ hown (host := "") (Or.inl (hw _ (List.mem_of_getElem? (i := 20) rfl))) Via.refl e0 F0_size E_x0 (Or.inl (hw _ (List.mem_of_getElem? (i := 21) rfl))) (hw _ (List.mem_of_getElem? (i := 1) rfl)) (ty := .int) (by decide) rfl rfl (g := (mkF m 2 #[.val (.ref x0)] [(.int (0 : Int32)), (.ref x0)])) rfl rfl (hb hby d6_2)
  refine Goes.step st1 ?_
  have f2 := F0_nodes.other W1 (Or.inr (slot_ne (Or.inl (hw _ (List.mem_of_getElem? (i := 11) rfl))) (Or.inl (hw _ (List.mem_of_getElem? (i := 21) rfl))) (by decide) (t := (.array .int)) (t' := .int) (by decide) (by decide)))
  have f3 := F0_keys.other W1 (Or.inr (slot_ne (Or.inl (hw _ (List.mem_of_getElem? (i := 14) rfl))) (Or.inl (hw _ (List.mem_of_getElem? (i := 21) rfl))) (by decide) (t := (.array .double)) (t' := .int) (by decide) (by decide)))
  have f4 := F0_size.same W1
  have f5 := E_x0.wr W1
  have K6 : Keep h0 h1 [x0] := K0.wr W1 (Or.inl (List.mem_of_getElem? (i := 0) rfl))
  have Z6 : n0 ≤ h1.size := by rw [Wr.size W1]; exact Z0
  have N6 := Fr.snoc X1 N0 g_x0
  show Goes _ _ _ _ _ _ _ (T1.setTop (mkF m 5 #[.val (.ref x0)] []))
  exact Goes.retV X1 hx (BodyLoose.notSynchronized Bd) Bd.returns (hb hby d6_5) (by show Q6 Z x0 f0_nodes f0_keys f0_size h0 n0 none T1.heap _; rw [e1]; exact ⟨N6, K6, ⟨rfl, f2, f3, f4, f5⟩⟩) (by decide) (by decide)
theorem pn_0 : plainName "com/example/hailwise/hailwise/NodeQueueIsEmptyPinLaw" = true := by first | (simp [plainName, overriddenIn]; done) | decide +kernel
theorem ef_0 (m : MethodId) (p0 : Int32) (p1 : Int32) (p2 : Int32) (p3 : Int32) (p4 : Int32) (p5 : Int32)  : entryFrame m #[(.int p0), (.int p1), (.int p2), (.int p3), (.int p4), (.int p5)] maxLocals = mkF m 0 #[.val (.int p0), .val (.int p1), .val (.int p2), .val (.int p3), .val (.int p4), .val (.int p5), .unset, .unset, .unset, .unset, .unset, .unset] [] := by first | (simp [entryFrame, mkF, argsToLocals, Value.category, maxLocals]; done) | rfl
theorem pd_0 : parseMethodDescriptor "()V" = some ⟨[], none⟩ := by decide +kernel
theorem pd_2 : parseMethodDescriptor "()Z" = some ⟨[], some .boolean⟩ := by decide +kernel
theorem pd_1 : parseMethodDescriptor "(ID)V" = some ⟨[.int, .double], none⟩ := by decide +kernel
theorem pd_3 : parseMethodDescriptor "()I" = some ⟨[], some .int⟩ := by decide +kernel
def Q0 (Z : State) (p0 : Int32) (p1 : Int32) (p2 : Int32) (p3 : Int32) (p4 : Int32) (p5 : Int32) (h0 : Heap) (n0 : Nat) (v : Option Value) (h : Heap) (L : List Loc) : Prop := v = some (.int 1) ∧ Fr n0 L
set_option maxRecDepth 65536 in
set_option maxHeartbeats 40000000 in
theorem rm0 (l : Launch) (Z : State) (a0 : Array Value) (hw : ∀ d ∈ tables_1, d.before a0 Z = true) (ws : List Jvm.Cond) (p0 : Int32) (p1 : Int32) (p2 : Int32) (p3 : Int32) (p4 : Int32) (p5 : Int32) (h0 : Heap) (n0 : Nat) (Z0 : n0 ≤ h0.size) :
    MetFree l x (head1 (Jvm.Cond.code x code maxLocals ret :: ws) room_1) (fun a U => a = #[(.int p0), (.int p1), (.int p2), (.int p3), (.int p4), (.int p5)] ∧ Z.Warmed39 U.vm ∧ U.heap = h0) (fun _ _ _ _ _ => True) (fun _ U o U' => ∃ v L, o = .returned v ∧ Q0 Z p0 p1 p2 p3 p4 p5 h0 n0 v U'.heap L ∧ FrameEnd U o U' L room_1.cells room_1.slots) := by
  refine MetFree.of_bodySF (plainFor_of_name pn_0) hisR ?_
  intro p e s m args below meth c s₁ Bd hml0 hP hK
  obtain ⟨rfl, hZ, hh⟩ := hP
  have hx := Bd.exec
  have hby := Bd.bytes
  have hml : c.maxLocals = 12 := hml0
  have hown : s.vm.findClass "com/example/hailwise/hailwise/NodeQueueIsEmptyPinLaw" = some m.cls := findClass_of_methodNamed Bd.named
  have hnm := (name_of_methodNamed Bd.named Bd.method).1
  have X0 : Stand p l e room_1 s m #[(.int p0), (.int p1), (.int p2), (.int p3), (.int p4), (.int p5)] below meth c s₁ [] 0 0 := Stand.of_body Bd
  have e0 : s₁.heap = h0 := by rw [← hh, Bd.state]; rfl
  have N0 := Fr.nil n0
  have K0 : Keep h0 h0 [] := Keep.refl h0 _
  refine (?_ : Goes p e below s room_1.cells room_1.slots (fun v h L => Q0 Z p0 p1 p2 p3 p4 p5 h0 n0 v h L) (s₁.setTop (entryFrame m #[(.int p0), (.int p1), (.int p2), (.int p3), (.int p4), (.int p5)] maxLocals)))
  rw [ef_0 m p0 p1 p2 p3 p4 p5 ]
  show Goes _ _ _ _ _ _ _ (s₁.setTop (mkF m 0 #[.val (.int p0), .val (.int p1), .val (.int p2), .val (.int p3), .val (.int p4), .val (.int p5), .unset, .unset, .unset, .unset, .unset, .unset] []))
  refine Goes.step (fun _ k => XS.iload X0.here hx rfl (hb hby at_0) rfl  k) ?_
  show Goes _ _ _ _ _ _ _ (s₁.setTop (mkF m 2 #[.val (.int p0), .val (.int p1), .val (.int p2), .val (.int p3), .val (.int p4), .val (.int p5), .unset, .unset, .unset, .unset, .unset, .unset] [(.int p5)]))
  refine Goes.step (fun _ k => XS.iconst X0.here hx rfl (hb hby at_2) k) ?_
  show Goes _ _ _ _ _ _ _ (s₁.setTop (mkF m 3 #[.val (.int p0), .val (.int p1), .val (.int p2), .val (.int p3), .val (.int p4), .val (.int p5), .unset, .unset, .unset, .unset, .unset, .unset] [(.int (3 : Int32)), (.int p5)]))
  refine Goes.step (fun _ k => XS.iand X0.here hx rfl (hb hby at_3) rfl k) ?_
  show Goes _ _ _ _ _ _ _ (s₁.setTop (mkF m 4 #[.val (.int p0), .val (.int p1), .val (.int p2), .val (.int p3), .val (.int p4), .val (.int p5), .unset, .unset, .unset, .unset, .unset, .unset] [(.int (p5 &&& (3 : Int32)))]))
  refine Goes.step (fun _ k => XS.istore X0.here hx rfl (hb hby at_4) rfl (l' := #[.val (.int p0), .val (.int p1), .val (.int p2), .val (.int p3), .val (.int p4), .val (.int p5), .val (.int (p5 &&& (3 : Int32))), .unset, .unset, .unset, .unset, .unset]) rfl k) ?_
  show Goes _ _ _ _ _ _ _ (s₁.setTop (mkF m 6 #[.val (.int p0), .val (.int p1), .val (.int p2), .val (.int p3), .val (.int p4), .val (.int p5), .val (.int (p5 &&& (3 : Int32))), .unset, .unset, .unset, .unset, .unset] []))
  generalize hg_n6 : (p5 &&& (3 : Int32)) = n6
  show Goes _ _ _ _ _ _ _ (s₁.setTop (mkF m 6 #[.val (.int p0), .val (.int p1), .val (.int p2), .val (.int p3), .val (.int p4), .val (.int p5), .val (.int n6), .unset, .unset, .unset, .unset, .unset] []))
  rcases own_and3 hg_n6 with rfl | rfl | rfl | rfl
  · show Goes _ _ _ _ _ _ _ (s₁.setTop (mkF m 6 #[.val (.int p0), .val (.int p1), .val (.int p2), .val (.int p3), .val (.int p4), .val (.int p5), .val (.int (0 : Int32)), .unset, .unset, .unset, .unset, .unset] []))
    refine Goes.step (fun _ k => XS.iload X0.here hx rfl (hb hby at_6) rfl  k) ?_
    show Goes _ _ _ _ _ _ _ (s₁.setTop (mkF m 8 #[.val (.int p0), .val (.int p1), .val (.int p2), .val (.int p3), .val (.int p4), .val (.int p5), .val (.int (0 : Int32)), .unset, .unset, .unset, .unset, .unset] [(.int p5)]))
    refine Goes.step (fun _ k => XS.iconst X0.here hx rfl (hb hby at_8) k) ?_
    show Goes _ _ _ _ _ _ _ (s₁.setTop (mkF m 9 #[.val (.int p0), .val (.int p1), .val (.int p2), .val (.int p3), .val (.int p4), .val (.int p5), .val (.int (0 : Int32)), .unset, .unset, .unset, .unset, .unset] [(.int (2 : Int32)), (.int p5)]))
    refine Goes.step (fun _ k => XS.iushr X0.here hx rfl (hb hby at_9) rfl k) ?_
    show Goes _ _ _ _ _ _ _ (s₁.setTop (mkF m 10 #[.val (.int p0), .val (.int p1), .val (.int p2), .val (.int p3), .val (.int p4), .val (.int p5), .val (.int (0 : Int32)), .unset, .unset, .unset, .unset, .unset] [(.int ((p5.toUInt32 >>> ((2 : Int32) &&& 31).toUInt32).toInt32))]))
    refine Goes.step (fun _ k => XS.iconst X0.here hx rfl (hb hby at_10) k) ?_
    show Goes _ _ _ _ _ _ _ (s₁.setTop (mkF m 11 #[.val (.int p0), .val (.int p1), .val (.int p2), .val (.int p3), .val (.int p4), .val (.int p5), .val (.int (0 : Int32)), .unset, .unset, .unset, .unset, .unset] [(.int (3 : Int32)), (.int ((p5.toUInt32 >>> ((2 : Int32) &&& 31).toUInt32).toInt32))]))
    refine Goes.step (fun _ k => XS.iand X0.here hx rfl (hb hby at_11) rfl k) ?_
    show Goes _ _ _ _ _ _ _ (s₁.setTop (mkF m 12 #[.val (.int p0), .val (.int p1), .val (.int p2), .val (.int p3), .val (.int p4), .val (.int p5), .val (.int (0 : Int32)), .unset, .unset, .unset, .unset, .unset] [(.int (((p5.toUInt32 >>> ((2 : Int32) &&& 31).toUInt32).toInt32) &&& (3 : Int32)))]))
    refine Goes.step (fun _ k => XS.iload X0.here hx rfl (hb hby at_12) rfl  k) ?_
    show Goes _ _ _ _ _ _ _ (s₁.setTop (mkF m 14 #[.val (.int p0), .val (.int p1), .val (.int p2), .val (.int p3), .val (.int p4), .val (.int p5), .val (.int (0 : Int32)), .unset, .unset, .unset, .unset, .unset] [(.int (0 : Int32)), (.int (((p5.toUInt32 >>> ((2 : Int32) &&& 31).toUInt32).toInt32) &&& (3 : Int32)))]))
    refine Goes.step (fun _ k => XS.iconst X0.here hx rfl (hb hby at_14) k) ?_
    show Goes _ _ _ _ _ _ _ (s₁.setTop (mkF m 15 #[.val (.int p0), .val (.int p1), .val (.int p2), .val (.int p3), .val (.int p4), .val (.int p5), .val (.int (0 : Int32)), .unset, .unset, .unset, .unset, .unset] [(.int (1 : Int32)), (.int (0 : Int32)), (.int (((p5.toUInt32 >>> ((2 : Int32) &&& 31).toUInt32).toInt32) &&& (3 : Int32)))]))
    refine Goes.step (fun _ k => XS.iadd X0.here hx rfl (hb hby at_15) rfl k) ?_
    show Goes _ _ _ _ _ _ _ (s₁.setTop (mkF m 16 #[.val (.int p0), .val (.int p1), .val (.int p2), .val (.int p3), .val (.int p4), .val (.int p5), .val (.int (0 : Int32)), .unset, .unset, .unset, .unset, .unset] [(.int (1 : Int32)), (.int (((p5.toUInt32 >>> ((2 : Int32) &&& 31).toUInt32).toInt32) &&& (3 : Int32)))]))
    refine Goes.step (fun _ k => iremM X0 hx rfl (hb hby at_16) rfl (by decide) k) ?_
    show Goes _ _ _ _ _ _ _ (s₁.setTop (mkF m 17 #[.val (.int p0), .val (.int p1), .val (.int p2), .val (.int p3), .val (.int p4), .val (.int p5), .val (.int (0 : Int32)), .unset, .unset, .unset, .unset, .unset] [(.int ((((p5.toUInt32 >>> ((2 : Int32) &&& 31).toUInt32).toInt32) &&& (3 : Int32)) % (1 : Int32)))]))
    refine Goes.step (fun _ k => XS.istore X0.here hx rfl (hb hby at_17) rfl (l' := #[.val (.int p0), .val (.int p1), .val (.int p2), .val (.int p3), .val (.int p4), .val (.int p5), .val (.int (0 : Int32)), .val (.int ((((p5.toUInt32 >>> ((2 : Int32) &&& 31).toUInt32).toInt32) &&& (3 : Int32)) % (1 : Int32))), .unset, .unset, .unset, .unset]) rfl k) ?_
    show Goes _ _ _ _ _ _ _ (s₁.setTop (mkF m 19 #[.val (.int p0), .val (.int p1), .val (.int p2), .val (.int p3), .val (.int p4), .val (.int p5), .val (.int (0 : Int32)), .val (.int ((((p5.toUInt32 >>> ((2 : Int32) &&& 31).toUInt32).toInt32) &&& (3 : Int32)) % (1 : Int32))), .unset, .unset, .unset, .unset] []))
    refine Goes.step (fun _ k => XS.iload X0.here hx rfl (hb hby at_19) rfl  k) ?_
    show Goes _ _ _ _ _ _ _ (s₁.setTop (mkF m 21 #[.val (.int p0), .val (.int p1), .val (.int p2), .val (.int p3), .val (.int p4), .val (.int p5), .val (.int (0 : Int32)), .val (.int ((((p5.toUInt32 >>> ((2 : Int32) &&& 31).toUInt32).toInt32) &&& (3 : Int32)) % (1 : Int32))), .unset, .unset, .unset, .unset] [(.int p5)]))
    refine Goes.step (fun _ k => XS.iconst X0.here hx rfl (hb hby at_21) k) ?_
    show Goes _ _ _ _ _ _ _ (s₁.setTop (mkF m 22 #[.val (.int p0), .val (.int p1), .val (.int p2), .val (.int p3), .val (.int p4), .val (.int p5), .val (.int (0 : Int32)), .val (.int ((((p5.toUInt32 >>> ((2 : Int32) &&& 31).toUInt32).toInt32) &&& (3 : Int32)) % (1 : Int32))), .unset, .unset, .unset, .unset] [(.int (4 : Int32)), (.int p5)]))
    refine Goes.step (fun _ k => XS.iushr X0.here hx rfl (hb hby at_22) rfl k) ?_
    show Goes _ _ _ _ _ _ _ (s₁.setTop (mkF m 23 #[.val (.int p0), .val (.int p1), .val (.int p2), .val (.int p3), .val (.int p4), .val (.int p5), .val (.int (0 : Int32)), .val (.int ((((p5.toUInt32 >>> ((2 : Int32) &&& 31).toUInt32).toInt32) &&& (3 : Int32)) % (1 : Int32))), .unset, .unset, .unset, .unset] [(.int ((p5.toUInt32 >>> ((4 : Int32) &&& 31).toUInt32).toInt32))]))
    refine Goes.step (fun _ k => XS.iconst X0.here hx rfl (hb hby at_23) k) ?_
    show Goes _ _ _ _ _ _ _ (s₁.setTop (mkF m 24 #[.val (.int p0), .val (.int p1), .val (.int p2), .val (.int p3), .val (.int p4), .val (.int p5), .val (.int (0 : Int32)), .val (.int ((((p5.toUInt32 >>> ((2 : Int32) &&& 31).toUInt32).toInt32) &&& (3 : Int32)) % (1 : Int32))), .unset, .unset, .unset, .unset] [(.int (1 : Int32)), (.int ((p5.toUInt32 >>> ((4 : Int32) &&& 31).toUInt32).toInt32))]))
    refine Goes.step (fun _ k => XS.iand X0.here hx rfl (hb hby at_24) rfl k) ?_
    show Goes _ _ _ _ _ _ _ (s₁.setTop (mkF m 25 #[.val (.int p0), .val (.int p1), .val (.int p2), .val (.int p3), .val (.int p4), .val (.int p5), .val (.int (0 : Int32)), .val (.int ((((p5.toUInt32 >>> ((2 : Int32) &&& 31).toUInt32).toInt32) &&& (3 : Int32)) % (1 : Int32))), .unset, .unset, .unset, .unset] [(.int (((p5.toUInt32 >>> ((4 : Int32) &&& 31).toUInt32).toInt32) &&& (1 : Int32)))]))
    by_cases c25_1 : (((p5.toUInt32 >>> ((4 : Int32) &&& 31).toUInt32).toInt32) &&& (1 : Int32)) = (0 : Int32)
    · refine Goes.step (fun _ k => XS.ifYes X0.here hx rfl (pc0 := 25) (pc' := 32) rfl (hb hby at_25) rfl ((if0 _ _).trans (teq c25_1).1) (by decide) (by decide) k) ?_
      show Goes _ _ _ _ _ _ _ (s₁.setTop (mkF m 32 #[.val (.int p0), .val (.int p1), .val (.int p2), .val (.int p3), .val (.int p4), .val (.int p5), .val (.int (0 : Int32)), .val (.int ((((p5.toUInt32 >>> ((2 : Int32) &&& 31).toUInt32).toInt32) &&& (3 : Int32)) % (1 : Int32))), .unset, .unset, .unset, .unset] []))
      refine Goes.step (fun _ k => XS.iconst X0.here hx rfl (hb hby at_32) k) ?_
      show Goes _ _ _ _ _ _ _ (s₁.setTop (mkF m 33 #[.val (.int p0), .val (.int p1), .val (.int p2), .val (.int p3), .val (.int p4), .val (.int p5), .val (.int (0 : Int32)), .val (.int ((((p5.toUInt32 >>> ((2 : Int32) &&& 31).toUInt32).toInt32) &&& (3 : Int32)) % (1 : Int32))), .unset, .unset, .unset, .unset] [(.int (0 : Int32))]))
      refine Goes.step (fun _ k => XS.istore X0.here hx rfl (hb hby at_33) rfl (l' := #[.val (.int p0), .val (.int p1), .val (.int p2), .val (.int p3), .val (.int p4), .val (.int p5), .val (.int (0 : Int32)), .val (.int ((((p5.toUInt32 >>> ((2 : Int32) &&& 31).toUInt32).toInt32) &&& (3 : Int32)) % (1 : Int32))), .val (.int (0 : Int32)), .unset, .unset, .unset]) rfl k) ?_
      show Goes _ _ _ _ _ _ _ (s₁.setTop (mkF m 35 #[.val (.int p0), .val (.int p1), .val (.int p2), .val (.int p3), .val (.int p4), .val (.int p5), .val (.int (0 : Int32)), .val (.int ((((p5.toUInt32 >>> ((2 : Int32) &&& 31).toUInt32).toInt32) &&& (3 : Int32)) % (1 : Int32))), .val (.int (0 : Int32)), .unset, .unset, .unset] []))
      obtain ⟨T2, h2, X2, e2, E2, A2, D2, -, st2⟩ := newO X0 hx hZ hown (hw _ (List.mem_of_getElem? (i := 0) rfl)) (hw _ (List.mem_of_getElem? (i := 1) rfl)) (hw _ (List.mem_of_getElem? (i := 2) rfl)) e0 (g := (mkF m 35 #[.val (.int p0), .val (.int p1), .val (.int p2), .val (.int p3), .val (.int p4), .val (.int p5), .val (.int (0 : Int32)), .val (.int ((((p5.toUInt32 >>> ((2 : Int32) &&& 31).toUInt32).toInt32) &&& (3 : Int32)) % (1 : Int32))), .val (.int (0 : Int32)), .unset, .unset, .unset] [])) rfl (hb hby at_35) (by decide) (by decide)
      obtain ⟨b2, g2⟩ : ∃ z, z = h0.size := ⟨_, rfl⟩
      rw [← g2] at A2 D2 st2
      refine Goes.step st2 ?_
      have g_b2 : n0 ≤ b2 := Nat.le_trans Z0 (Nat.le_of_eq g2.symm)
      have sz_b2 : h0.size ≤ b2 := Nat.le_trans K0.1 (Nat.le_of_eq g2.symm)
      have K3 : Keep h0 h2 [] := K0.ext E2
      have Z3 : n0 ≤ h2.size := Nat.le_trans Z0 E2.1
      have E_b2 := A2
      have F_nodes_b2 : Fld Z h2 b2 "com/example/hailwise/hailwise/NodeQueue" "nodes" "[I" .null := D2 (Or.inl (hw _ (List.mem_of_getElem? (i := 11) rfl))) (ty := (.array .int)) (by decide)
      have F_keys_b2 : Fld Z h2 b2 "com/example/hailwise/hailwise/NodeQueue" "keys" "[D" .null := D2 (Or.inl (hw _ (List.mem_of_getElem? (i := 14) rfl))) (ty := (.array .double)) (by decide)
      have F_size_b2 : Fld Z h2 b2 "com/example/hailwise/hailwise/NodeQueue" "size" "I" (.int (0 : Int32)) := D2 (Or.inl (hw _ (List.mem_of_getElem? (i := 21) rfl))) (ty := .int) (by decide)
      show Goes _ _ _ _ _ _ _ (T2.setTop (mkF m 38 #[.val (.int p0), .val (.int p1), .val (.int p2), .val (.int p3), .val (.int p4), .val (.int p5), .val (.int (0 : Int32)), .val (.int ((((p5.toUInt32 >>> ((2 : Int32) &&& 31).toUInt32).toInt32) &&& (3 : Int32)) % (1 : Int32))), .val (.int (0 : Int32)), .unset, .unset, .unset] [(.ref b2)]))
      refine Goes.step (fun _ k => XS.dup X2.here hx rfl (hb hby at_38) rfl rfl k) ?_
      show Goes _ _ _ _ _ _ _ (T2.setTop (mkF m 39 #[.val (.int p0), .val (.int p1), .val (.int p2), .val (.int p3), .val (.int p4), .val (.int p5), .val (.int (0 : Int32)), .val (.int ((((p5.toUInt32 >>> ((2 : Int32) &&& 31).toUInt32).toInt32) &&& (3 : Int32)) % (1 : Int32))), .val (.int (0 : Int32)), .unset, .unset, .unset] [(.ref b2), (.ref b2)]))
      obtain ⟨_, _, ⟨T4, L4, k4, n4⟩, -, X4, ⟨Lc4, hQ4, l4, y4, z4⟩, st4⟩ := X2.specialBack hx (y := (⟨"com/example/hailwise/hailwise/NodeQueue", "<init>", "()V"⟩ : MethodName)) rfl hown (mvT hZ (hw _ (List.mem_of_getElem? (i := 3) rfl))) (mvT hZ (hw _ (List.mem_of_getElem? (i := 4) rfl))) (mvT hZ (hw _ (List.mem_of_getElem? (i := 5) rfl))) (by decide) (backOf (W := 1) (rm1 l Z a0 hw [] b2 h2 n0 Z3 F_nodes_b2 F_keys_b2 F_size_b2 E_b2 g_b2) hZ (hw _ (List.mem_of_getElem? (i := 5) rfl)) (hw _ (List.mem_of_getElem? (i := 2) rfl)) (by decide) (by decide)) (g := (mkF m 39 #[.val (.int p0), .val (.int p1), .val (.int p2), .val (.int p3), .val (.int p4), .val (.int p5), .val (.int (0 : Int32)), .val (.int ((((p5.toUInt32 >>> ((2 : Int32) &&& 31).toUInt32).toInt32) &&& (3 : Int32)) % (1 : Int32))), .val (.int (0 : Int32)), .unset, .unset, .unset] [(.ref b2), (.ref b2)])) rfl (by rw [hml]; rfl) (Steps.refl _) (a := b2) (argsL := []) (rest := [(.ref b2)]) (lenOf pd_0 rfl) rfl (by show 2 * 0 + _ ≤ _; exact Nat.le_of_eq rfl) (hb hby at_39) (fun _ _ => ⟨rfl, e2, (by decide : 1 + 2 ≤ _), (by decide : 3 + 128 ≤ _)⟩)
      dsimp only [Pt.U, Pt.locs, Pt.cells, Pt.slots] at X4 l4 y4 z4 st4 hQ4
      subst l4 y4 z4
      obtain ⟨N4, KK4, hR4⟩ := hQ4
      have NA4 := Fr.app N0 N4
      have f5 := E_b2.keep KK4
      have K9 : Keep h0 T4.heap [] := K3.trans KK4 (allS (Or.inr sz_b2) all0)
      have Z9 : n0 ≤ T4.heap.size := Nat.le_trans Z3 KK4.1
      obtain ⟨r4_0_0, r4_0_1, kk4_0_0, kk4_0_1, rfl, g_r4_0_0, le_r4_0_0, g_r4_0_1, le_r4_0_1, nn4_0_0, v4_0_0, v4_0_1, v4_0_2, v4_0_3, v4_0_4, v4_0_5⟩ := hR4
      have ne10 : b2 ≠ r4_0_0 := Nat.ne_of_lt (Nat.lt_of_lt_of_le E_b2.lt le_r4_0_0)
      have sz_r4_0_0 : h0.size ≤ r4_0_0 := Nat.le_trans K3.1 le_r4_0_0
      have ne11 : b2 ≠ r4_0_1 := Nat.ne_of_lt (Nat.lt_of_lt_of_le E_b2.lt le_r4_0_1)
      have sz_r4_0_1 : h0.size ≤ r4_0_1 := Nat.le_trans K3.1 le_r4_0_1
      refine Goes.back st4 ?_
      show Goes _ _ _ _ _ _ _ (T4.setTop (mkF m 42 #[.val (.int p0), .val (.int p1), .val (.int p2), .val (.int p3), .val (.int p4), .val (.int p5), .val (.int (0 : Int32)), .val (.int ((((p5.toUInt32 >>> ((2 : Int32) &&& 31).toUInt32).toInt32) &&& (3 : Int32)) % (1 : Int32))), .val (.int (0 : Int32)), .unset, .unset, .unset] [(.ref b2)]))
      refine Goes.step (fun _ k => XS.astore X4.here hx rfl (hb hby at_42) rfl rfl (l' := #[.val (.int p0), .val (.int p1), .val (.int p2), .val (.int p3), .val (.int p4), .val (.int p5), .val (.int (0 : Int32)), .val (.int ((((p5.toUInt32 >>> ((2 : Int32) &&& 31).toUInt32).toInt32) &&& (3 : Int32)) % (1 : Int32))), .val (.int (0 : Int32)), .val (.ref b2), .unset, .unset]) rfl k) ?_
      show Goes _ _ _ _ _ _ _ (T4.setTop (mkF m 44 #[.val (.int p0), .val (.int p1), .val (.int p2), .val (.int p3), .val (.int p4), .val (.int p5), .val (.int (0 : Int32)), .val (.int ((((p5.toUInt32 >>> ((2 : Int32) &&& 31).toUInt32).toInt32) &&& (3 : Int32)) % (1 : Int32))), .val (.int (0 : Int32)), .val (.ref b2), .unset, .unset] []))
      refine Goes.step (fun _ k => XS.iload X4.here hx rfl (hb hby at_44) rfl  k) ?_
      show Goes _ _ _ _ _ _ _ (T4.setTop (mkF m 46 #[.val (.int p0), .val (.int p1), .val (.int p2), .val (.int p3), .val (.int p4), .val (.int p5), .val (.int (0 : Int32)), .val (.int ((((p5.toUInt32 >>> ((2 : Int32) &&& 31).toUInt32).toInt32) &&& (3 : Int32)) % (1 : Int32))), .val (.int (0 : Int32)), .val (.ref b2), .unset, .unset] [(.int (0 : Int32))]))
      refine Goes.step (fun _ k => XS.iconst X4.here hx rfl (hb hby at_46) k) ?_
      show Goes _ _ _ _ _ _ _ (T4.setTop (mkF m 47 #[.val (.int p0), .val (.int p1), .val (.int p2), .val (.int p3), .val (.int p4), .val (.int p5), .val (.int (0 : Int32)), .val (.int ((((p5.toUInt32 >>> ((2 : Int32) &&& 31).toUInt32).toInt32) &&& (3 : Int32)) % (1 : Int32))), .val (.int (0 : Int32)), .val (.ref b2), .unset, .unset] [(.int (1 : Int32)), (.int (0 : Int32))]))
      refine Goes.step (fun _ k => XS.icmpYes X4.here hx rfl (pc0 := 47) (pc' := 62) rfl (hb hby at_47) rfl (tlt (by decide : (0 : Int32) < (1 : Int32))).1 (by decide) (by decide) k) ?_
      show Goes _ _ _ _ _ _ _ (T4.setTop (mkF m 62 #[.val (.int p0), .val (.int p1), .val (.int p2), .val (.int p3), .val (.int p4), .val (.int p5), .val (.int (0 : Int32)), .val (.int ((((p5.toUInt32 >>> ((2 : Int32) &&& 31).toUInt32).toInt32) &&& (3 : Int32)) % (1 : Int32))), .val (.int (0 : Int32)), .val (.ref b2), .unset, .unset] []))
      refine Goes.step (fun _ k => XS.iload X4.here hx rfl (hb hby at_62) rfl  k) ?_
      show Goes _ _ _ _ _ _ _ (T4.setTop (mkF m 64 #[.val (.int p0), .val (.int p1), .val (.int p2), .val (.int p3), .val (.int p4), .val (.int p5), .val (.int (0 : Int32)), .val (.int ((((p5.toUInt32 >>> ((2 : Int32) &&& 31).toUInt32).toInt32) &&& (3 : Int32)) % (1 : Int32))), .val (.int (0 : Int32)), .val (.ref b2), .unset, .unset] [(.int (0 : Int32))]))
      refine Goes.step (fun _ k => XS.iconst X4.here hx rfl (hb hby at_64) k) ?_
      show Goes _ _ _ _ _ _ _ (T4.setTop (mkF m 65 #[.val (.int p0), .val (.int p1), .val (.int p2), .val (.int p3), .val (.int p4), .val (.int p5), .val (.int (0 : Int32)), .val (.int ((((p5.toUInt32 >>> ((2 : Int32) &&& 31).toUInt32).toInt32) &&& (3 : Int32)) % (1 : Int32))), .val (.int (0 : Int32)), .val (.ref b2), .unset, .unset] [(.int (2 : Int32)), (.int (0 : Int32))]))
      refine Goes.step (fun _ k => XS.icmpYes X4.here hx rfl (pc0 := 65) (pc' := 81) rfl (hb hby at_65) rfl (tlt (by decide : (0 : Int32) < (2 : Int32))).1 (by decide) (by decide) k) ?_
      show Goes _ _ _ _ _ _ _ (T4.setTop (mkF m 81 #[.val (.int p0), .val (.int p1), .val (.int p2), .val (.int p3), .val (.int p4), .val (.int p5), .val (.int (0 : Int32)), .val (.int ((((p5.toUInt32 >>> ((2 : Int32) &&& 31).toUInt32).toInt32) &&& (3 : Int32)) % (1 : Int32))), .val (.int (0 : Int32)), .val (.ref b2), .unset, .unset] []))
      refine Goes.step (fun _ k => XS.iload X4.here hx rfl (hb hby at_81) rfl  k) ?_
      show Goes _ _ _ _ _ _ _ (T4.setTop (mkF m 83 #[.val (.int p0), .val (.int p1), .val (.int p2), .val (.int p3), .val (.int p4), .val (.int p5), .val (.int (0 : Int32)), .val (.int ((((p5.toUInt32 >>> ((2 : Int32) &&& 31).toUInt32).toInt32) &&& (3 : Int32)) % (1 : Int32))), .val (.int (0 : Int32)), .val (.ref b2), .unset, .unset] [(.int (0 : Int32))]))
      refine Goes.step (fun _ k => XS.iconst X4.here hx rfl (hb hby at_83) k) ?_
      show Goes _ _ _ _ _ _ _ (T4.setTop (mkF m 84 #[.val (.int p0), .val (.int p1), .val (.int p2), .val (.int p3), .val (.int p4), .val (.int p5), .val (.int (0 : Int32)), .val (.int ((((p5.toUInt32 >>> ((2 : Int32) &&& 31).toUInt32).toInt32) &&& (3 : Int32)) % (1 : Int32))), .val (.int (0 : Int32)), .val (.ref b2), .unset, .unset] [(.int (3 : Int32)), (.int (0 : Int32))]))
      refine Goes.step (fun _ k => XS.icmpYes X4.here hx rfl (pc0 := 84) (pc' := 102) rfl (hb hby at_84) rfl (tlt (by decide : (0 : Int32) < (3 : Int32))).1 (by decide) (by decide) k) ?_
      show Goes _ _ _ _ _ _ _ (T4.setTop (mkF m 102 #[.val (.int p0), .val (.int p1), .val (.int p2), .val (.int p3), .val (.int p4), .val (.int p5), .val (.int (0 : Int32)), .val (.int ((((p5.toUInt32 >>> ((2 : Int32) &&& 31).toUInt32).toInt32) &&& (3 : Int32)) % (1 : Int32))), .val (.int (0 : Int32)), .val (.ref b2), .unset, .unset] []))
      refine Goes.step (fun _ k => XS.aload X4.here hx rfl (hb hby at_102) rfl rfl k) ?_
      show Goes _ _ _ _ _ _ _ (T4.setTop (mkF m 104 #[.val (.int p0), .val (.int p1), .val (.int p2), .val (.int p3), .val (.int p4), .val (.int p5), .val (.int (0 : Int32)), .val (.int ((((p5.toUInt32 >>> ((2 : Int32) &&& 31).toUInt32).toInt32) &&& (3 : Int32)) % (1 : Int32))), .val (.int (0 : Int32)), .val (.ref b2), .unset, .unset] [(.ref b2)]))
      obtain ⟨cq12, kq12, q12a, q12b, q12c⟩ := isOf hZ rfl v4_0_3
      obtain ⟨_, _, ⟨T12, L12, k12, n12⟩, -, X12, ⟨Lc12, hQ12, l12, y12, z12⟩, st12⟩ := X4.virtualBack hx (y := (⟨"com/example/hailwise/hailwise/NodeQueue", "isEmpty", "()Z"⟩ : MethodName)) (z := (⟨"com/example/hailwise/hailwise/NodeQueue", "isEmpty", "()Z"⟩ : MethodName)) hown (mvT hZ (hw _ (List.mem_of_getElem? (i := 22) rfl))) (mvT hZ (hw _ (List.mem_of_getElem? (i := 23) rfl))) (notFace_of_selects (args := #[]) (mvT hZ (hw _ (List.mem_of_getElem? (i := 25) rfl)))) (mvT hZ (hw _ (List.mem_of_getElem? (i := 25) rfl))) (mvT hZ (hw _ (List.mem_of_getElem? (i := 24) rfl))) (by decide) (backOf (W := 0) (rm4 l Z a0 hw [] b2 (0 : Int32) T4.heap n0 Z9 v4_0_2) hZ (hw _ (List.mem_of_getElem? (i := 26) rfl)) (hw _ (List.mem_of_getElem? (i := 2) rfl)) (by decide) (by decide)) q12a q12c (g := (mkF m 104 #[.val (.int p0), .val (.int p1), .val (.int p2), .val (.int p3), .val (.int p4), .val (.int p5), .val (.int (0 : Int32)), .val (.int ((((p5.toUInt32 >>> ((2 : Int32) &&& 31).toUInt32).toInt32) &&& (3 : Int32)) % (1 : Int32))), .val (.int (0 : Int32)), .val (.ref b2), .unset, .unset] [(.ref b2)])) rfl (by rw [hml]; rfl) (Steps.refl _) (argsL := []) (rest := []) (lenOf pd_2 rfl) rfl (by show 2 * 0 + _ ≤ _; exact Nat.le_of_eq rfl) (hb hby at_104) (fun _ _ => ⟨rfl, rfl, (by decide : 3 + 0 ≤ _), (by decide : 131 + 0 ≤ _)⟩)
      dsimp only [Pt.U, Pt.locs, Pt.cells, Pt.slots] at X12 l12 y12 z12 st12 hQ12
      subst l12 y12 z12
      obtain ⟨N12, eh12, hR12⟩ := hQ12
      have NA12 := Fr.app NA4 N12
      rcases hR12 with ⟨rfl, u12_0_0⟩ | ⟨rfl, u12_1_0⟩
      · refine Goes.back st12 ?_
        show Goes _ _ _ _ _ _ _ (T12.setTop (mkF m 107 #[.val (.int p0), .val (.int p1), .val (.int p2), .val (.int p3), .val (.int p4), .val (.int p5), .val (.int (0 : Int32)), .val (.int ((((p5.toUInt32 >>> ((2 : Int32) &&& 31).toUInt32).toInt32) &&& (3 : Int32)) % (1 : Int32))), .val (.int (0 : Int32)), .val (.ref b2), .unset, .unset] [(.int (1 : Int32))]))
        refine Goes.step (fun _ k => XS.iload X12.here hx rfl (hb hby at_107) rfl  k) ?_
        show Goes _ _ _ _ _ _ _ (T12.setTop (mkF m 109 #[.val (.int p0), .val (.int p1), .val (.int p2), .val (.int p3), .val (.int p4), .val (.int p5), .val (.int (0 : Int32)), .val (.int ((((p5.toUInt32 >>> ((2 : Int32) &&& 31).toUInt32).toInt32) &&& (3 : Int32)) % (1 : Int32))), .val (.int (0 : Int32)), .val (.ref b2), .unset, .unset] [(.int (0 : Int32)), (.int (1 : Int32))]))
        refine Goes.step (fun _ k => XS.ifNo X12.here hx rfl (hb hby at_109) rfl ((if0 _ _).trans (teq (by decide : (0 : Int32) = (0 : Int32))).2) k) ?_
        show Goes _ _ _ _ _ _ _ (T12.setTop (mkF m 112 #[.val (.int p0), .val (.int p1), .val (.int p2), .val (.int p3), .val (.int p4), .val (.int p5), .val (.int (0 : Int32)), .val (.int ((((p5.toUInt32 >>> ((2 : Int32) &&& 31).toUInt32).toInt32) &&& (3 : Int32)) % (1 : Int32))), .val (.int (0 : Int32)), .val (.ref b2), .unset, .unset] [(.int (1 : Int32))]))
        refine Goes.step (fun _ k => XS.iconst X12.here hx rfl (hb hby at_112) k) ?_
        show Goes _ _ _ _ _ _ _ (T12.setTop (mkF m 113 #[.val (.int p0), .val (.int p1), .val (.int p2), .val (.int p3), .val (.int p4), .val (.int p5), .val (.int (0 : Int32)), .val (.int ((((p5.toUInt32 >>> ((2 : Int32) &&& 31).toUInt32).toInt32) &&& (3 : Int32)) % (1 : Int32))), .val (.int (0 : Int32)), .val (.ref b2), .unset, .unset] [(.int (1 : Int32)), (.int (1 : Int32))]))
        refine Goes.step (fun _ k => XS.goto X12.here hx rfl (pc0 := 113) (pc' := 117) rfl (hb hby at_113) (by decide) (by decide) k) ?_
        show Goes _ _ _ _ _ _ _ (T12.setTop (mkF m 117 #[.val (.int p0), .val (.int p1), .val (.int p2), .val (.int p3), .val (.int p4), .val (.int p5), .val (.int (0 : Int32)), .val (.int ((((p5.toUInt32 >>> ((2 : Int32) &&& 31).toUInt32).toInt32) &&& (3 : Int32)) % (1 : Int32))), .val (.int (0 : Int32)), .val (.ref b2), .unset, .unset] [(.int (1 : Int32)), (.int (1 : Int32))]))
        refine Goes.step (fun _ k => XS.icmpNo X12.here hx rfl (hb hby at_117) rfl (teq (by decide : (1 : Int32) = (1 : Int32))).2 k) ?_
        show Goes _ _ _ _ _ _ _ (T12.setTop (mkF m 120 #[.val (.int p0), .val (.int p1), .val (.int p2), .val (.int p3), .val (.int p4), .val (.int p5), .val (.int (0 : Int32)), .val (.int ((((p5.toUInt32 >>> ((2 : Int32) &&& 31).toUInt32).toInt32) &&& (3 : Int32)) % (1 : Int32))), .val (.int (0 : Int32)), .val (.ref b2), .unset, .unset] []))
        refine Goes.step (fun _ k => XS.iconst X12.here hx rfl (hb hby at_120) k) ?_
        show Goes _ _ _ _ _ _ _ (T12.setTop (mkF m 121 #[.val (.int p0), .val (.int p1), .val (.int p2), .val (.int p3), .val (.int p4), .val (.int p5), .val (.int (0 : Int32)), .val (.int ((((p5.toUInt32 >>> ((2 : Int32) &&& 31).toUInt32).toInt32) &&& (3 : Int32)) % (1 : Int32))), .val (.int (0 : Int32)), .val (.ref b2), .unset, .unset] [(.int (1 : Int32))]))
        refine Goes.step (fun _ k => XS.goto X12.here hx rfl (pc0 := 121) (pc' := 125) rfl (hb hby at_121) (by decide) (by decide) k) ?_
        show Goes _ _ _ _ _ _ _ (T12.setTop (mkF m 125 #[.val (.int p0), .val (.int p1), .val (.int p2), .val (.int p3), .val (.int p4), .val (.int p5), .val (.int (0 : Int32)), .val (.int ((((p5.toUInt32 >>> ((2 : Int32) &&& 31).toUInt32).toInt32) &&& (3 : Int32)) % (1 : Int32))), .val (.int (0 : Int32)), .val (.ref b2), .unset, .unset] [(.int (1 : Int32))]))
        refine Goes.step (fun _ k => XS.istore X12.here hx rfl (hb hby at_125) rfl (l' := #[.val (.int p0), .val (.int p1), .val (.int p2), .val (.int p3), .val (.int p4), .val (.int p5), .val (.int (0 : Int32)), .val (.int ((((p5.toUInt32 >>> ((2 : Int32) &&& 31).toUInt32).toInt32) &&& (3 : Int32)) % (1 : Int32))), .val (.int (0 : Int32)), .val (.ref b2), .val (.int (1 : Int32)), .unset]) rfl k) ?_
        show Goes _ _ _ _ _ _ _ (T12.setTop (mkF m 127 #[.val (.int p0), .val (.int p1), .val (.int p2), .val (.int p3), .val (.int p4), .val (.int p5), .val (.int (0 : Int32)), .val (.int ((((p5.toUInt32 >>> ((2 : Int32) &&& 31).toUInt32).toInt32) &&& (3 : Int32)) % (1 : Int32))), .val (.int (0 : Int32)), .val (.ref b2), .val (.int (1 : Int32)), .unset] []))
        generalize hg_m7 : ((((p5.toUInt32 >>> ((2 : Int32) &&& 31).toUInt32).toInt32) &&& (3 : Int32)) % (1 : Int32)) = m7
        show Goes _ _ _ _ _ _ _ (T12.setTop (mkF m 127 #[.val (.int p0), .val (.int p1), .val (.int p2), .val (.int p3), .val (.int p4), .val (.int p5), .val (.int (0 : Int32)), .val (.int m7), .val (.int (0 : Int32)), .val (.ref b2), .val (.int (1 : Int32)), .unset] []))
        rcases own_m1 hg_m7 with rfl
        · show Goes _ _ _ _ _ _ _ (T12.setTop (mkF m 127 #[.val (.int p0), .val (.int p1), .val (.int p2), .val (.int p3), .val (.int p4), .val (.int p5), .val (.int (0 : Int32)), .val (.int (0 : Int32)), .val (.int (0 : Int32)), .val (.ref b2), .val (.int (1 : Int32)), .unset] []))
          refine Goes.step (fun _ k => XS.iload X12.here hx rfl (hb hby at_127) rfl  k) ?_
          show Goes _ _ _ _ _ _ _ (T12.setTop (mkF m 129 #[.val (.int p0), .val (.int p1), .val (.int p2), .val (.int p3), .val (.int p4), .val (.int p5), .val (.int (0 : Int32)), .val (.int (0 : Int32)), .val (.int (0 : Int32)), .val (.ref b2), .val (.int (1 : Int32)), .unset] [(.int (0 : Int32))]))
          refine Goes.step (fun _ k => XS.iconst X12.here hx rfl (hb hby at_129) k) ?_
          show Goes _ _ _ _ _ _ _ (T12.setTop (mkF m 130 #[.val (.int p0), .val (.int p1), .val (.int p2), .val (.int p3), .val (.int p4), .val (.int p5), .val (.int (0 : Int32)), .val (.int (0 : Int32)), .val (.int (0 : Int32)), .val (.ref b2), .val (.int (1 : Int32)), .unset] [(.int (1 : Int32)), (.int (0 : Int32))]))
          refine Goes.step (fun _ k => XS.icmpYes X12.here hx rfl (pc0 := 130) (pc' := 139) rfl (hb hby at_130) rfl (tlt (by decide : (0 : Int32) < (1 : Int32))).1 (by decide) (by decide) k) ?_
          show Goes _ _ _ _ _ _ _ (T12.setTop (mkF m 139 #[.val (.int p0), .val (.int p1), .val (.int p2), .val (.int p3), .val (.int p4), .val (.int p5), .val (.int (0 : Int32)), .val (.int (0 : Int32)), .val (.int (0 : Int32)), .val (.ref b2), .val (.int (1 : Int32)), .unset] []))
          refine Goes.step (fun _ k => XS.iload X12.here hx rfl (hb hby at_139) rfl  k) ?_
          show Goes _ _ _ _ _ _ _ (T12.setTop (mkF m 141 #[.val (.int p0), .val (.int p1), .val (.int p2), .val (.int p3), .val (.int p4), .val (.int p5), .val (.int (0 : Int32)), .val (.int (0 : Int32)), .val (.int (0 : Int32)), .val (.ref b2), .val (.int (1 : Int32)), .unset] [(.int (0 : Int32))]))
          refine Goes.step (fun _ k => XS.iconst X12.here hx rfl (hb hby at_141) k) ?_
          show Goes _ _ _ _ _ _ _ (T12.setTop (mkF m 142 #[.val (.int p0), .val (.int p1), .val (.int p2), .val (.int p3), .val (.int p4), .val (.int p5), .val (.int (0 : Int32)), .val (.int (0 : Int32)), .val (.int (0 : Int32)), .val (.ref b2), .val (.int (1 : Int32)), .unset] [(.int (2 : Int32)), (.int (0 : Int32))]))
          refine Goes.step (fun _ k => XS.icmpYes X12.here hx rfl (pc0 := 142) (pc' := 151) rfl (hb hby at_142) rfl (tlt (by decide : (0 : Int32) < (2 : Int32))).1 (by decide) (by decide) k) ?_
          show Goes _ _ _ _ _ _ _ (T12.setTop (mkF m 151 #[.val (.int p0), .val (.int p1), .val (.int p2), .val (.int p3), .val (.int p4), .val (.int p5), .val (.int (0 : Int32)), .val (.int (0 : Int32)), .val (.int (0 : Int32)), .val (.ref b2), .val (.int (1 : Int32)), .unset] []))
          refine Goes.step (fun _ k => XS.iload X12.here hx rfl (hb hby at_151) rfl  k) ?_
          show Goes _ _ _ _ _ _ _ (T12.setTop (mkF m 153 #[.val (.int p0), .val (.int p1), .val (.int p2), .val (.int p3), .val (.int p4), .val (.int p5), .val (.int (0 : Int32)), .val (.int (0 : Int32)), .val (.int (0 : Int32)), .val (.ref b2), .val (.int (1 : Int32)), .unset] [(.int (0 : Int32))]))
          refine Goes.step (fun _ k => XS.iconst X12.here hx rfl (hb hby at_153) k) ?_
          show Goes _ _ _ _ _ _ _ (T12.setTop (mkF m 154 #[.val (.int p0), .val (.int p1), .val (.int p2), .val (.int p3), .val (.int p4), .val (.int p5), .val (.int (0 : Int32)), .val (.int (0 : Int32)), .val (.int (0 : Int32)), .val (.ref b2), .val (.int (1 : Int32)), .unset] [(.int (3 : Int32)), (.int (0 : Int32))]))
          refine Goes.step (fun _ k => XS.icmpYes X12.here hx rfl (pc0 := 154) (pc' := 163) rfl (hb hby at_154) rfl (tlt (by decide : (0 : Int32) < (3 : Int32))).1 (by decide) (by decide) k) ?_
          show Goes _ _ _ _ _ _ _ (T12.setTop (mkF m 163 #[.val (.int p0), .val (.int p1), .val (.int p2), .val (.int p3), .val (.int p4), .val (.int p5), .val (.int (0 : Int32)), .val (.int (0 : Int32)), .val (.int (0 : Int32)), .val (.ref b2), .val (.int (1 : Int32)), .unset] []))
          refine Goes.step (fun _ k => XS.iload X12.here hx rfl (hb hby at_163) rfl  k) ?_
          show Goes _ _ _ _ _ _ _ (T12.setTop (mkF m 165 #[.val (.int p0), .val (.int p1), .val (.int p2), .val (.int p3), .val (.int p4), .val (.int p5), .val (.int (0 : Int32)), .val (.int (0 : Int32)), .val (.int (0 : Int32)), .val (.ref b2), .val (.int (1 : Int32)), .unset] [(.int (0 : Int32))]))
          refine Goes.step (fun _ k => XS.ifYes X12.here hx rfl (pc0 := 165) (pc' := 173) rfl (hb hby at_165) rfl ((if0 _ _).trans (teq (by decide : (0 : Int32) = (0 : Int32))).1) (by decide) (by decide) k) ?_
          show Goes _ _ _ _ _ _ _ (T12.setTop (mkF m 173 #[.val (.int p0), .val (.int p1), .val (.int p2), .val (.int p3), .val (.int p4), .val (.int p5), .val (.int (0 : Int32)), .val (.int (0 : Int32)), .val (.int (0 : Int32)), .val (.ref b2), .val (.int (1 : Int32)), .unset] []))
          refine Goes.step (fun _ k => XS.iload X12.here hx rfl (hb hby at_173) rfl  k) ?_
          show Goes _ _ _ _ _ _ _ (T12.setTop (mkF m 175 #[.val (.int p0), .val (.int p1), .val (.int p2), .val (.int p3), .val (.int p4), .val (.int p5), .val (.int (0 : Int32)), .val (.int (0 : Int32)), .val (.int (0 : Int32)), .val (.ref b2), .val (.int (1 : Int32)), .unset] [(.int (0 : Int32))]))
          refine Goes.step (fun _ k => XS.ifNo X12.here hx rfl (hb hby at_175) rfl ((if0 _ _).trans (teq (by decide : (0 : Int32) = (0 : Int32))).2) k) ?_
          show Goes _ _ _ _ _ _ _ (T12.setTop (mkF m 178 #[.val (.int p0), .val (.int p1), .val (.int p2), .val (.int p3), .val (.int p4), .val (.int p5), .val (.int (0 : Int32)), .val (.int (0 : Int32)), .val (.int (0 : Int32)), .val (.ref b2), .val (.int (1 : Int32)), .unset] []))
          refine Goes.step (fun _ k => XS.iload X12.here hx rfl (hb hby at_178) rfl  k) ?_
          show Goes _ _ _ _ _ _ _ (T12.setTop (mkF m 180 #[.val (.int p0), .val (.int p1), .val (.int p2), .val (.int p3), .val (.int p4), .val (.int p5), .val (.int (0 : Int32)), .val (.int (0 : Int32)), .val (.int (0 : Int32)), .val (.ref b2), .val (.int (1 : Int32)), .unset] [(.int (0 : Int32))]))
          refine Goes.step (fun _ k => XS.iload X12.here hx rfl (hb hby at_180) rfl  k) ?_
          show Goes _ _ _ _ _ _ _ (T12.setTop (mkF m 182 #[.val (.int p0), .val (.int p1), .val (.int p2), .val (.int p3), .val (.int p4), .val (.int p5), .val (.int (0 : Int32)), .val (.int (0 : Int32)), .val (.int (0 : Int32)), .val (.ref b2), .val (.int (1 : Int32)), .unset] [(.int (0 : Int32)), (.int (0 : Int32))]))
          refine Goes.step (fun _ k => XS.icmpNo X12.here hx rfl (hb hby at_182) rfl (teq (by decide : (0 : Int32) = (0 : Int32))).2 k) ?_
          show Goes _ _ _ _ _ _ _ (T12.setTop (mkF m 185 #[.val (.int p0), .val (.int p1), .val (.int p2), .val (.int p3), .val (.int p4), .val (.int p5), .val (.int (0 : Int32)), .val (.int (0 : Int32)), .val (.int (0 : Int32)), .val (.ref b2), .val (.int (1 : Int32)), .unset] []))
          refine Goes.step (fun _ k => XS.iconst X12.here hx rfl (hb hby at_185) k) ?_
          show Goes _ _ _ _ _ _ _ (T12.setTop (mkF m 186 #[.val (.int p0), .val (.int p1), .val (.int p2), .val (.int p3), .val (.int p4), .val (.int p5), .val (.int (0 : Int32)), .val (.int (0 : Int32)), .val (.int (0 : Int32)), .val (.ref b2), .val (.int (1 : Int32)), .unset] [(.int (1 : Int32))]))
          refine Goes.step (fun _ k => XS.goto X12.here hx rfl (pc0 := 186) (pc' := 190) rfl (hb hby at_186) (by decide) (by decide) k) ?_
          show Goes _ _ _ _ _ _ _ (T12.setTop (mkF m 190 #[.val (.int p0), .val (.int p1), .val (.int p2), .val (.int p3), .val (.int p4), .val (.int p5), .val (.int (0 : Int32)), .val (.int (0 : Int32)), .val (.int (0 : Int32)), .val (.ref b2), .val (.int (1 : Int32)), .unset] [(.int (1 : Int32))]))
          refine Goes.step (fun _ k => XS.istore X12.here hx rfl (hb hby at_190) rfl (l' := #[.val (.int p0), .val (.int p1), .val (.int p2), .val (.int p3), .val (.int p4), .val (.int p5), .val (.int (0 : Int32)), .val (.int (0 : Int32)), .val (.int (0 : Int32)), .val (.ref b2), .val (.int (1 : Int32)), .val (.int (1 : Int32))]) rfl k) ?_
          show Goes _ _ _ _ _ _ _ (T12.setTop (mkF m 192 #[.val (.int p0), .val (.int p1), .val (.int p2), .val (.int p3), .val (.int p4), .val (.int p5), .val (.int (0 : Int32)), .val (.int (0 : Int32)), .val (.int (0 : Int32)), .val (.ref b2), .val (.int (1 : Int32)), .val (.int (1 : Int32))] []))
          refine Goes.step (fun _ k => XS.iload X12.here hx rfl (hb hby at_192) rfl  k) ?_
          show Goes _ _ _ _ _ _ _ (T12.setTop (mkF m 194 #[.val (.int p0), .val (.int p1), .val (.int p2), .val (.int p3), .val (.int p4), .val (.int p5), .val (.int (0 : Int32)), .val (.int (0 : Int32)), .val (.int (0 : Int32)), .val (.ref b2), .val (.int (1 : Int32)), .val (.int (1 : Int32))] [(.int (1 : Int32))]))
          refine Goes.step (fun _ k => XS.ifNo X12.here hx rfl (hb hby at_194) rfl ((if0 _ _).trans (feq (by decide : ¬ ((1 : Int32) = (0 : Int32)))).1) k) ?_
          show Goes _ _ _ _ _ _ _ (T12.setTop (mkF m 197 #[.val (.int p0), .val (.int p1), .val (.int p2), .val (.int p3), .val (.int p4), .val (.int p5), .val (.int (0 : Int32)), .val (.int (0 : Int32)), .val (.int (0 : Int32)), .val (.ref b2), .val (.int (1 : Int32)), .val (.int (1 : Int32))] []))
          refine Goes.step (fun _ k => XS.aload X12.here hx rfl (hb hby at_197) rfl rfl k) ?_
          show Goes _ _ _ _ _ _ _ (T12.setTop (mkF m 199 #[.val (.int p0), .val (.int p1), .val (.int p2), .val (.int p3), .val (.int p4), .val (.int p5), .val (.int (0 : Int32)), .val (.int (0 : Int32)), .val (.int (0 : Int32)), .val (.ref b2), .val (.int (1 : Int32)), .val (.int (1 : Int32))] [(.ref b2)]))
          obtain ⟨cq13, kq13, q13a, q13b, q13c⟩ := isOf hZ eh12 v4_0_3
          obtain ⟨_, _, ⟨T13, L13, k13, n13⟩, -, X13, ⟨Lc13, hQ13, l13, y13, z13⟩, st13⟩ := X12.virtualBack hx (y := (⟨"com/example/hailwise/hailwise/NodeQueue", "isEmpty", "()Z"⟩ : MethodName)) (z := (⟨"com/example/hailwise/hailwise/NodeQueue", "isEmpty", "()Z"⟩ : MethodName)) hown (mvT hZ (hw _ (List.mem_of_getElem? (i := 22) rfl))) (mvT hZ (hw _ (List.mem_of_getElem? (i := 23) rfl))) (notFace_of_selects (args := #[]) (mvT hZ (hw _ (List.mem_of_getElem? (i := 25) rfl)))) (mvT hZ (hw _ (List.mem_of_getElem? (i := 25) rfl))) (mvT hZ (hw _ (List.mem_of_getElem? (i := 24) rfl))) (by decide) (backOf (W := 0) (rm4 l Z a0 hw [] b2 (0 : Int32) T4.heap n0 Z9 v4_0_2) hZ (hw _ (List.mem_of_getElem? (i := 26) rfl)) (hw _ (List.mem_of_getElem? (i := 2) rfl)) (by decide) (by decide)) q13a q13c (g := (mkF m 199 #[.val (.int p0), .val (.int p1), .val (.int p2), .val (.int p3), .val (.int p4), .val (.int p5), .val (.int (0 : Int32)), .val (.int (0 : Int32)), .val (.int (0 : Int32)), .val (.ref b2), .val (.int (1 : Int32)), .val (.int (1 : Int32))] [(.ref b2)])) rfl (by rw [hml]; rfl) (Steps.refl _) (argsL := []) (rest := []) (lenOf pd_2 rfl) rfl (by show 2 * 0 + _ ≤ _; exact Nat.le_of_eq rfl) (hb hby at_199) (fun _ _ => ⟨rfl, eh12, (by decide : 3 + 0 ≤ _), (by decide : 131 + 0 ≤ _)⟩)
          dsimp only [Pt.U, Pt.locs, Pt.cells, Pt.slots] at X13 l13 y13 z13 st13 hQ13
          subst l13 y13 z13
          obtain ⟨N13, eh13, hR13⟩ := hQ13
          have NA13 := Fr.app NA12 N13
          rcases hR13 with ⟨rfl, u13_0_0⟩ | ⟨rfl, u13_1_0⟩
          · refine Goes.back st13 ?_
            show Goes _ _ _ _ _ _ _ (T13.setTop (mkF m 202 #[.val (.int p0), .val (.int p1), .val (.int p2), .val (.int p3), .val (.int p4), .val (.int p5), .val (.int (0 : Int32)), .val (.int (0 : Int32)), .val (.int (0 : Int32)), .val (.ref b2), .val (.int (1 : Int32)), .val (.int (1 : Int32))] [(.int (1 : Int32))]))
            refine Goes.step (fun _ k => XS.iload X13.here hx rfl (hb hby at_202) rfl  k) ?_
            show Goes _ _ _ _ _ _ _ (T13.setTop (mkF m 204 #[.val (.int p0), .val (.int p1), .val (.int p2), .val (.int p3), .val (.int p4), .val (.int p5), .val (.int (0 : Int32)), .val (.int (0 : Int32)), .val (.int (0 : Int32)), .val (.ref b2), .val (.int (1 : Int32)), .val (.int (1 : Int32))] [(.int (1 : Int32)), (.int (1 : Int32))]))
            refine Goes.step (fun _ k => XS.icmpNo X13.here hx rfl (hb hby at_204) rfl (teq (by decide : (1 : Int32) = (1 : Int32))).2 k) ?_
            show Goes _ _ _ _ _ _ _ (T13.setTop (mkF m 207 #[.val (.int p0), .val (.int p1), .val (.int p2), .val (.int p3), .val (.int p4), .val (.int p5), .val (.int (0 : Int32)), .val (.int (0 : Int32)), .val (.int (0 : Int32)), .val (.ref b2), .val (.int (1 : Int32)), .val (.int (1 : Int32))] []))
            refine Goes.step (fun _ k => XS.iconst X13.here hx rfl (hb hby at_207) k) ?_
            show Goes _ _ _ _ _ _ _ (T13.setTop (mkF m 208 #[.val (.int p0), .val (.int p1), .val (.int p2), .val (.int p3), .val (.int p4), .val (.int p5), .val (.int (0 : Int32)), .val (.int (0 : Int32)), .val (.int (0 : Int32)), .val (.ref b2), .val (.int (1 : Int32)), .val (.int (1 : Int32))] [(.int (1 : Int32))]))
            refine Goes.step (fun _ k => XS.goto X13.here hx rfl (pc0 := 208) (pc' := 212) rfl (hb hby at_208) (by decide) (by decide) k) ?_
            show Goes _ _ _ _ _ _ _ (T13.setTop (mkF m 212 #[.val (.int p0), .val (.int p1), .val (.int p2), .val (.int p3), .val (.int p4), .val (.int p5), .val (.int (0 : Int32)), .val (.int (0 : Int32)), .val (.int (0 : Int32)), .val (.ref b2), .val (.int (1 : Int32)), .val (.int (1 : Int32))] [(.int (1 : Int32))]))
            refine Goes.step (fun _ k => XS.istore X13.here hx rfl (hb hby at_212) rfl (l' := #[.val (.int p0), .val (.int p1), .val (.int p2), .val (.int p3), .val (.int p4), .val (.int p5), .val (.int (0 : Int32)), .val (.int (0 : Int32)), .val (.int (0 : Int32)), .val (.ref b2), .val (.int (1 : Int32)), .val (.int (1 : Int32))]) rfl k) ?_
            show Goes _ _ _ _ _ _ _ (T13.setTop (mkF m 214 #[.val (.int p0), .val (.int p1), .val (.int p2), .val (.int p3), .val (.int p4), .val (.int p5), .val (.int (0 : Int32)), .val (.int (0 : Int32)), .val (.int (0 : Int32)), .val (.ref b2), .val (.int (1 : Int32)), .val (.int (1 : Int32))] []))
            refine Goes.step (fun _ k => XS.iload X13.here hx rfl (hb hby at_214) rfl  k) ?_
            show Goes _ _ _ _ _ _ _ (T13.setTop (mkF m 216 #[.val (.int p0), .val (.int p1), .val (.int p2), .val (.int p3), .val (.int p4), .val (.int p5), .val (.int (0 : Int32)), .val (.int (0 : Int32)), .val (.int (0 : Int32)), .val (.ref b2), .val (.int (1 : Int32)), .val (.int (1 : Int32))] [(.int (1 : Int32))]))
            exact Goes.ret X13 hx (BodyLoose.notSynchronized Bd) Bd.returns rfl (Or.inl ⟨rfl, by simp, _, rfl⟩) (hb hby at_216) (by show Q0 Z p0 p1 p2 p3 p4 p5 h0 n0 (some (.int (1 : Int32))) T13.heap _; rw [eh13]; exact ⟨rfl, NA13⟩) (by decide) (by decide)
          · exact absurd (by decide : (0 : Int32) = (0 : Int32)) u13_1_0
      · exact absurd (by decide : (0 : Int32) = (0 : Int32)) u12_1_0
    · refine Goes.step (fun _ k => XS.ifNo X0.here hx rfl (hb hby at_25) rfl ((if0 _ _).trans (feq c25_1).1) k) ?_
      show Goes _ _ _ _ _ _ _ (s₁.setTop (mkF m 28 #[.val (.int p0), .val (.int p1), .val (.int p2), .val (.int p3), .val (.int p4), .val (.int p5), .val (.int (0 : Int32)), .val (.int ((((p5.toUInt32 >>> ((2 : Int32) &&& 31).toUInt32).toInt32) &&& (3 : Int32)) % (1 : Int32))), .unset, .unset, .unset, .unset] []))
      refine Goes.step (fun _ k => XS.iconst X0.here hx rfl (hb hby at_28) k) ?_
      show Goes _ _ _ _ _ _ _ (s₁.setTop (mkF m 29 #[.val (.int p0), .val (.int p1), .val (.int p2), .val (.int p3), .val (.int p4), .val (.int p5), .val (.int (0 : Int32)), .val (.int ((((p5.toUInt32 >>> ((2 : Int32) &&& 31).toUInt32).toInt32) &&& (3 : Int32)) % (1 : Int32))), .unset, .unset, .unset, .unset] [(.int (1 : Int32))]))
      refine Goes.step (fun _ k => XS.goto X0.here hx rfl (pc0 := 29) (pc' := 33) rfl (hb hby at_29) (by decide) (by decide) k) ?_
      show Goes _ _ _ _ _ _ _ (s₁.setTop (mkF m 33 #[.val (.int p0), .val (.int p1), .val (.int p2), .val (.int p3), .val (.int p4), .val (.int p5), .val (.int (0 : Int32)), .val (.int ((((p5.toUInt32 >>> ((2 : Int32) &&& 31).toUInt32).toInt32) &&& (3 : Int32)) % (1 : Int32))), .unset, .unset, .unset, .unset] [(.int (1 : Int32))]))
      refine Goes.step (fun _ k => XS.istore X0.here hx rfl (hb hby at_33) rfl (l' := #[.val (.int p0), .val (.int p1), .val (.int p2), .val (.int p3), .val (.int p4), .val (.int p5), .val (.int (0 : Int32)), .val (.int ((((p5.toUInt32 >>> ((2 : Int32) &&& 31).toUInt32).toInt32) &&& (3 : Int32)) % (1 : Int32))), .val (.int (1 : Int32)), .unset, .unset, .unset]) rfl k) ?_
      show Goes _ _ _ _ _ _ _ (s₁.setTop (mkF m 35 #[.val (.int p0), .val (.int p1), .val (.int p2), .val (.int p3), .val (.int p4), .val (.int p5), .val (.int (0 : Int32)), .val (.int ((((p5.toUInt32 >>> ((2 : Int32) &&& 31).toUInt32).toInt32) &&& (3 : Int32)) % (1 : Int32))), .val (.int (1 : Int32)), .unset, .unset, .unset] []))
      obtain ⟨T14, h14, X14, e14, E14, A14, D14, -, st14⟩ := newO X0 hx hZ hown (hw _ (List.mem_of_getElem? (i := 0) rfl)) (hw _ (List.mem_of_getElem? (i := 1) rfl)) (hw _ (List.mem_of_getElem? (i := 2) rfl)) e0 (g := (mkF m 35 #[.val (.int p0), .val (.int p1), .val (.int p2), .val (.int p3), .val (.int p4), .val (.int p5), .val (.int (0 : Int32)), .val (.int ((((p5.toUInt32 >>> ((2 : Int32) &&& 31).toUInt32).toInt32) &&& (3 : Int32)) % (1 : Int32))), .val (.int (1 : Int32)), .unset, .unset, .unset] [])) rfl (hb hby at_35) (by decide) (by decide)
      obtain ⟨b14, g14⟩ : ∃ z, z = h0.size := ⟨_, rfl⟩
      rw [← g14] at A14 D14 st14
      refine Goes.step st14 ?_
      have g_b14 : n0 ≤ b14 := Nat.le_trans Z0 (Nat.le_of_eq g14.symm)
      have sz_b14 : h0.size ≤ b14 := Nat.le_trans K0.1 (Nat.le_of_eq g14.symm)
      have K15 : Keep h0 h14 [] := K0.ext E14
      have Z15 : n0 ≤ h14.size := Nat.le_trans Z0 E14.1
      have E_b14 := A14
      have F_nodes_b14 : Fld Z h14 b14 "com/example/hailwise/hailwise/NodeQueue" "nodes" "[I" .null := D14 (Or.inl (hw _ (List.mem_of_getElem? (i := 11) rfl))) (ty := (.array .int)) (by decide)
      have F_keys_b14 : Fld Z h14 b14 "com/example/hailwise/hailwise/NodeQueue" "keys" "[D" .null := D14 (Or.inl (hw _ (List.mem_of_getElem? (i := 14) rfl))) (ty := (.array .double)) (by decide)
      have F_size_b14 : Fld Z h14 b14 "com/example/hailwise/hailwise/NodeQueue" "size" "I" (.int (0 : Int32)) := D14 (Or.inl (hw _ (List.mem_of_getElem? (i := 21) rfl))) (ty := .int) (by decide)
      show Goes _ _ _ _ _ _ _ (T14.setTop (mkF m 38 #[.val (.int p0), .val (.int p1), .val (.int p2), .val (.int p3), .val (.int p4), .val (.int p5), .val (.int (0 : Int32)), .val (.int ((((p5.toUInt32 >>> ((2 : Int32) &&& 31).toUInt32).toInt32) &&& (3 : Int32)) % (1 : Int32))), .val (.int (1 : Int32)), .unset, .unset, .unset] [(.ref b14)]))
      refine Goes.step (fun _ k => XS.dup X14.here hx rfl (hb hby at_38) rfl rfl k) ?_
      show Goes _ _ _ _ _ _ _ (T14.setTop (mkF m 39 #[.val (.int p0), .val (.int p1), .val (.int p2), .val (.int p3), .val (.int p4), .val (.int p5), .val (.int (0 : Int32)), .val (.int ((((p5.toUInt32 >>> ((2 : Int32) &&& 31).toUInt32).toInt32) &&& (3 : Int32)) % (1 : Int32))), .val (.int (1 : Int32)), .unset, .unset, .unset] [(.ref b14), (.ref b14)]))
      obtain ⟨_, _, ⟨T16, L16, k16, n16⟩, -, X16, ⟨Lc16, hQ16, l16, y16, z16⟩, st16⟩ := X14.specialBack hx (y := (⟨"com/example/hailwise/hailwise/NodeQueue", "<init>", "()V"⟩ : MethodName)) rfl hown (mvT hZ (hw _ (List.mem_of_getElem? (i := 3) rfl))) (mvT hZ (hw _ (List.mem_of_getElem? (i := 4) rfl))) (mvT hZ (hw _ (List.mem_of_getElem? (i := 5) rfl))) (by decide) (backOf (W := 1) (rm1 l Z a0 hw [] b14 h14 n0 Z15 F_nodes_b14 F_keys_b14 F_size_b14 E_b14 g_b14) hZ (hw _ (List.mem_of_getElem? (i := 5) rfl)) (hw _ (List.mem_of_getElem? (i := 2) rfl)) (by decide) (by decide)) (g := (mkF m 39 #[.val (.int p0), .val (.int p1), .val (.int p2), .val (.int p3), .val (.int p4), .val (.int p5), .val (.int (0 : Int32)), .val (.int ((((p5.toUInt32 >>> ((2 : Int32) &&& 31).toUInt32).toInt32) &&& (3 : Int32)) % (1 : Int32))), .val (.int (1 : Int32)), .unset, .unset, .unset] [(.ref b14), (.ref b14)])) rfl (by rw [hml]; rfl) (Steps.refl _) (a := b14) (argsL := []) (rest := [(.ref b14)]) (lenOf pd_0 rfl) rfl (by show 2 * 0 + _ ≤ _; exact Nat.le_of_eq rfl) (hb hby at_39) (fun _ _ => ⟨rfl, e14, (by decide : 1 + 2 ≤ _), (by decide : 3 + 128 ≤ _)⟩)
      dsimp only [Pt.U, Pt.locs, Pt.cells, Pt.slots] at X16 l16 y16 z16 st16 hQ16
      subst l16 y16 z16
      obtain ⟨N16, KK16, hR16⟩ := hQ16
      have NA16 := Fr.app N0 N16
      have f17 := E_b14.keep KK16
      have K21 : Keep h0 T16.heap [] := K15.trans KK16 (allS (Or.inr sz_b14) all0)
      have Z21 : n0 ≤ T16.heap.size := Nat.le_trans Z15 KK16.1
      obtain ⟨r16_0_0, r16_0_1, kk16_0_0, kk16_0_1, rfl, g_r16_0_0, le_r16_0_0, g_r16_0_1, le_r16_0_1, nn16_0_0, v16_0_0, v16_0_1, v16_0_2, v16_0_3, v16_0_4, v16_0_5⟩ := hR16
      have ne22 : b14 ≠ r16_0_0 := Nat.ne_of_lt (Nat.lt_of_lt_of_le E_b14.lt le_r16_0_0)
      have sz_r16_0_0 : h0.size ≤ r16_0_0 := Nat.le_trans K15.1 le_r16_0_0
      have ne23 : b14 ≠ r16_0_1 := Nat.ne_of_lt (Nat.lt_of_lt_of_le E_b14.lt le_r16_0_1)
      have sz_r16_0_1 : h0.size ≤ r16_0_1 := Nat.le_trans K15.1 le_r16_0_1
      refine Goes.back st16 ?_
      show Goes _ _ _ _ _ _ _ (T16.setTop (mkF m 42 #[.val (.int p0), .val (.int p1), .val (.int p2), .val (.int p3), .val (.int p4), .val (.int p5), .val (.int (0 : Int32)), .val (.int ((((p5.toUInt32 >>> ((2 : Int32) &&& 31).toUInt32).toInt32) &&& (3 : Int32)) % (1 : Int32))), .val (.int (1 : Int32)), .unset, .unset, .unset] [(.ref b14)]))
      refine Goes.step (fun _ k => XS.astore X16.here hx rfl (hb hby at_42) rfl rfl (l' := #[.val (.int p0), .val (.int p1), .val (.int p2), .val (.int p3), .val (.int p4), .val (.int p5), .val (.int (0 : Int32)), .val (.int ((((p5.toUInt32 >>> ((2 : Int32) &&& 31).toUInt32).toInt32) &&& (3 : Int32)) % (1 : Int32))), .val (.int (1 : Int32)), .val (.ref b14), .unset, .unset]) rfl k) ?_
      show Goes _ _ _ _ _ _ _ (T16.setTop (mkF m 44 #[.val (.int p0), .val (.int p1), .val (.int p2), .val (.int p3), .val (.int p4), .val (.int p5), .val (.int (0 : Int32)), .val (.int ((((p5.toUInt32 >>> ((2 : Int32) &&& 31).toUInt32).toInt32) &&& (3 : Int32)) % (1 : Int32))), .val (.int (1 : Int32)), .val (.ref b14), .unset, .unset] []))
      refine Goes.step (fun _ k => XS.iload X16.here hx rfl (hb hby at_44) rfl  k) ?_
      show Goes _ _ _ _ _ _ _ (T16.setTop (mkF m 46 #[.val (.int p0), .val (.int p1), .val (.int p2), .val (.int p3), .val (.int p4), .val (.int p5), .val (.int (0 : Int32)), .val (.int ((((p5.toUInt32 >>> ((2 : Int32) &&& 31).toUInt32).toInt32) &&& (3 : Int32)) % (1 : Int32))), .val (.int (1 : Int32)), .val (.ref b14), .unset, .unset] [(.int (0 : Int32))]))
      refine Goes.step (fun _ k => XS.iconst X16.here hx rfl (hb hby at_46) k) ?_
      show Goes _ _ _ _ _ _ _ (T16.setTop (mkF m 47 #[.val (.int p0), .val (.int p1), .val (.int p2), .val (.int p3), .val (.int p4), .val (.int p5), .val (.int (0 : Int32)), .val (.int ((((p5.toUInt32 >>> ((2 : Int32) &&& 31).toUInt32).toInt32) &&& (3 : Int32)) % (1 : Int32))), .val (.int (1 : Int32)), .val (.ref b14), .unset, .unset] [(.int (1 : Int32)), (.int (0 : Int32))]))
      refine Goes.step (fun _ k => XS.icmpYes X16.here hx rfl (pc0 := 47) (pc' := 62) rfl (hb hby at_47) rfl (tlt (by decide : (0 : Int32) < (1 : Int32))).1 (by decide) (by decide) k) ?_
      show Goes _ _ _ _ _ _ _ (T16.setTop (mkF m 62 #[.val (.int p0), .val (.int p1), .val (.int p2), .val (.int p3), .val (.int p4), .val (.int p5), .val (.int (0 : Int32)), .val (.int ((((p5.toUInt32 >>> ((2 : Int32) &&& 31).toUInt32).toInt32) &&& (3 : Int32)) % (1 : Int32))), .val (.int (1 : Int32)), .val (.ref b14), .unset, .unset] []))
      refine Goes.step (fun _ k => XS.iload X16.here hx rfl (hb hby at_62) rfl  k) ?_
      show Goes _ _ _ _ _ _ _ (T16.setTop (mkF m 64 #[.val (.int p0), .val (.int p1), .val (.int p2), .val (.int p3), .val (.int p4), .val (.int p5), .val (.int (0 : Int32)), .val (.int ((((p5.toUInt32 >>> ((2 : Int32) &&& 31).toUInt32).toInt32) &&& (3 : Int32)) % (1 : Int32))), .val (.int (1 : Int32)), .val (.ref b14), .unset, .unset] [(.int (0 : Int32))]))
      refine Goes.step (fun _ k => XS.iconst X16.here hx rfl (hb hby at_64) k) ?_
      show Goes _ _ _ _ _ _ _ (T16.setTop (mkF m 65 #[.val (.int p0), .val (.int p1), .val (.int p2), .val (.int p3), .val (.int p4), .val (.int p5), .val (.int (0 : Int32)), .val (.int ((((p5.toUInt32 >>> ((2 : Int32) &&& 31).toUInt32).toInt32) &&& (3 : Int32)) % (1 : Int32))), .val (.int (1 : Int32)), .val (.ref b14), .unset, .unset] [(.int (2 : Int32)), (.int (0 : Int32))]))
      refine Goes.step (fun _ k => XS.icmpYes X16.here hx rfl (pc0 := 65) (pc' := 81) rfl (hb hby at_65) rfl (tlt (by decide : (0 : Int32) < (2 : Int32))).1 (by decide) (by decide) k) ?_
      show Goes _ _ _ _ _ _ _ (T16.setTop (mkF m 81 #[.val (.int p0), .val (.int p1), .val (.int p2), .val (.int p3), .val (.int p4), .val (.int p5), .val (.int (0 : Int32)), .val (.int ((((p5.toUInt32 >>> ((2 : Int32) &&& 31).toUInt32).toInt32) &&& (3 : Int32)) % (1 : Int32))), .val (.int (1 : Int32)), .val (.ref b14), .unset, .unset] []))
      refine Goes.step (fun _ k => XS.iload X16.here hx rfl (hb hby at_81) rfl  k) ?_
      show Goes _ _ _ _ _ _ _ (T16.setTop (mkF m 83 #[.val (.int p0), .val (.int p1), .val (.int p2), .val (.int p3), .val (.int p4), .val (.int p5), .val (.int (0 : Int32)), .val (.int ((((p5.toUInt32 >>> ((2 : Int32) &&& 31).toUInt32).toInt32) &&& (3 : Int32)) % (1 : Int32))), .val (.int (1 : Int32)), .val (.ref b14), .unset, .unset] [(.int (0 : Int32))]))
      refine Goes.step (fun _ k => XS.iconst X16.here hx rfl (hb hby at_83) k) ?_
      show Goes _ _ _ _ _ _ _ (T16.setTop (mkF m 84 #[.val (.int p0), .val (.int p1), .val (.int p2), .val (.int p3), .val (.int p4), .val (.int p5), .val (.int (0 : Int32)), .val (.int ((((p5.toUInt32 >>> ((2 : Int32) &&& 31).toUInt32).toInt32) &&& (3 : Int32)) % (1 : Int32))), .val (.int (1 : Int32)), .val (.ref b14), .unset, .unset] [(.int (3 : Int32)), (.int (0 : Int32))]))
      refine Goes.step (fun _ k => XS.icmpYes X16.here hx rfl (pc0 := 84) (pc' := 102) rfl (hb hby at_84) rfl (tlt (by decide : (0 : Int32) < (3 : Int32))).1 (by decide) (by decide) k) ?_
      show Goes _ _ _ _ _ _ _ (T16.setTop (mkF m 102 #[.val (.int p0), .val (.int p1), .val (.int p2), .val (.int p3), .val (.int p4), .val (.int p5), .val (.int (0 : Int32)), .val (.int ((((p5.toUInt32 >>> ((2 : Int32) &&& 31).toUInt32).toInt32) &&& (3 : Int32)) % (1 : Int32))), .val (.int (1 : Int32)), .val (.ref b14), .unset, .unset] []))
      refine Goes.step (fun _ k => XS.aload X16.here hx rfl (hb hby at_102) rfl rfl k) ?_
      show Goes _ _ _ _ _ _ _ (T16.setTop (mkF m 104 #[.val (.int p0), .val (.int p1), .val (.int p2), .val (.int p3), .val (.int p4), .val (.int p5), .val (.int (0 : Int32)), .val (.int ((((p5.toUInt32 >>> ((2 : Int32) &&& 31).toUInt32).toInt32) &&& (3 : Int32)) % (1 : Int32))), .val (.int (1 : Int32)), .val (.ref b14), .unset, .unset] [(.ref b14)]))
      obtain ⟨cq24, kq24, q24a, q24b, q24c⟩ := isOf hZ rfl v16_0_3
      obtain ⟨_, _, ⟨T24, L24, k24, n24⟩, -, X24, ⟨Lc24, hQ24, l24, y24, z24⟩, st24⟩ := X16.virtualBack hx (y := (⟨"com/example/hailwise/hailwise/NodeQueue", "isEmpty", "()Z"⟩ : MethodName)) (z := (⟨"com/example/hailwise/hailwise/NodeQueue", "isEmpty", "()Z"⟩ : MethodName)) hown (mvT hZ (hw _ (List.mem_of_getElem? (i := 22) rfl))) (mvT hZ (hw _ (List.mem_of_getElem? (i := 23) rfl))) (notFace_of_selects (args := #[]) (mvT hZ (hw _ (List.mem_of_getElem? (i := 25) rfl)))) (mvT hZ (hw _ (List.mem_of_getElem? (i := 25) rfl))) (mvT hZ (hw _ (List.mem_of_getElem? (i := 24) rfl))) (by decide) (backOf (W := 0) (rm4 l Z a0 hw [] b14 (0 : Int32) T16.heap n0 Z21 v16_0_2) hZ (hw _ (List.mem_of_getElem? (i := 26) rfl)) (hw _ (List.mem_of_getElem? (i := 2) rfl)) (by decide) (by decide)) q24a q24c (g := (mkF m 104 #[.val (.int p0), .val (.int p1), .val (.int p2), .val (.int p3), .val (.int p4), .val (.int p5), .val (.int (0 : Int32)), .val (.int ((((p5.toUInt32 >>> ((2 : Int32) &&& 31).toUInt32).toInt32) &&& (3 : Int32)) % (1 : Int32))), .val (.int (1 : Int32)), .val (.ref b14), .unset, .unset] [(.ref b14)])) rfl (by rw [hml]; rfl) (Steps.refl _) (argsL := []) (rest := []) (lenOf pd_2 rfl) rfl (by show 2 * 0 + _ ≤ _; exact Nat.le_of_eq rfl) (hb hby at_104) (fun _ _ => ⟨rfl, rfl, (by decide : 3 + 0 ≤ _), (by decide : 131 + 0 ≤ _)⟩)
      dsimp only [Pt.U, Pt.locs, Pt.cells, Pt.slots] at X24 l24 y24 z24 st24 hQ24
      subst l24 y24 z24
      obtain ⟨N24, eh24, hR24⟩ := hQ24
      have NA24 := Fr.app NA16 N24
      rcases hR24 with ⟨rfl, u24_0_0⟩ | ⟨rfl, u24_1_0⟩
      · refine Goes.back st24 ?_
        show Goes _ _ _ _ _ _ _ (T24.setTop (mkF m 107 #[.val (.int p0), .val (.int p1), .val (.int p2), .val (.int p3), .val (.int p4), .val (.int p5), .val (.int (0 : Int32)), .val (.int ((((p5.toUInt32 >>> ((2 : Int32) &&& 31).toUInt32).toInt32) &&& (3 : Int32)) % (1 : Int32))), .val (.int (1 : Int32)), .val (.ref b14), .unset, .unset] [(.int (1 : Int32))]))
        refine Goes.step (fun _ k => XS.iload X24.here hx rfl (hb hby at_107) rfl  k) ?_
        show Goes _ _ _ _ _ _ _ (T24.setTop (mkF m 109 #[.val (.int p0), .val (.int p1), .val (.int p2), .val (.int p3), .val (.int p4), .val (.int p5), .val (.int (0 : Int32)), .val (.int ((((p5.toUInt32 >>> ((2 : Int32) &&& 31).toUInt32).toInt32) &&& (3 : Int32)) % (1 : Int32))), .val (.int (1 : Int32)), .val (.ref b14), .unset, .unset] [(.int (0 : Int32)), (.int (1 : Int32))]))
        refine Goes.step (fun _ k => XS.ifNo X24.here hx rfl (hb hby at_109) rfl ((if0 _ _).trans (teq (by decide : (0 : Int32) = (0 : Int32))).2) k) ?_
        show Goes _ _ _ _ _ _ _ (T24.setTop (mkF m 112 #[.val (.int p0), .val (.int p1), .val (.int p2), .val (.int p3), .val (.int p4), .val (.int p5), .val (.int (0 : Int32)), .val (.int ((((p5.toUInt32 >>> ((2 : Int32) &&& 31).toUInt32).toInt32) &&& (3 : Int32)) % (1 : Int32))), .val (.int (1 : Int32)), .val (.ref b14), .unset, .unset] [(.int (1 : Int32))]))
        refine Goes.step (fun _ k => XS.iconst X24.here hx rfl (hb hby at_112) k) ?_
        show Goes _ _ _ _ _ _ _ (T24.setTop (mkF m 113 #[.val (.int p0), .val (.int p1), .val (.int p2), .val (.int p3), .val (.int p4), .val (.int p5), .val (.int (0 : Int32)), .val (.int ((((p5.toUInt32 >>> ((2 : Int32) &&& 31).toUInt32).toInt32) &&& (3 : Int32)) % (1 : Int32))), .val (.int (1 : Int32)), .val (.ref b14), .unset, .unset] [(.int (1 : Int32)), (.int (1 : Int32))]))
        refine Goes.step (fun _ k => XS.goto X24.here hx rfl (pc0 := 113) (pc' := 117) rfl (hb hby at_113) (by decide) (by decide) k) ?_
        show Goes _ _ _ _ _ _ _ (T24.setTop (mkF m 117 #[.val (.int p0), .val (.int p1), .val (.int p2), .val (.int p3), .val (.int p4), .val (.int p5), .val (.int (0 : Int32)), .val (.int ((((p5.toUInt32 >>> ((2 : Int32) &&& 31).toUInt32).toInt32) &&& (3 : Int32)) % (1 : Int32))), .val (.int (1 : Int32)), .val (.ref b14), .unset, .unset] [(.int (1 : Int32)), (.int (1 : Int32))]))
        refine Goes.step (fun _ k => XS.icmpNo X24.here hx rfl (hb hby at_117) rfl (teq (by decide : (1 : Int32) = (1 : Int32))).2 k) ?_
        show Goes _ _ _ _ _ _ _ (T24.setTop (mkF m 120 #[.val (.int p0), .val (.int p1), .val (.int p2), .val (.int p3), .val (.int p4), .val (.int p5), .val (.int (0 : Int32)), .val (.int ((((p5.toUInt32 >>> ((2 : Int32) &&& 31).toUInt32).toInt32) &&& (3 : Int32)) % (1 : Int32))), .val (.int (1 : Int32)), .val (.ref b14), .unset, .unset] []))
        refine Goes.step (fun _ k => XS.iconst X24.here hx rfl (hb hby at_120) k) ?_
        show Goes _ _ _ _ _ _ _ (T24.setTop (mkF m 121 #[.val (.int p0), .val (.int p1), .val (.int p2), .val (.int p3), .val (.int p4), .val (.int p5), .val (.int (0 : Int32)), .val (.int ((((p5.toUInt32 >>> ((2 : Int32) &&& 31).toUInt32).toInt32) &&& (3 : Int32)) % (1 : Int32))), .val (.int (1 : Int32)), .val (.ref b14), .unset, .unset] [(.int (1 : Int32))]))
        refine Goes.step (fun _ k => XS.goto X24.here hx rfl (pc0 := 121) (pc' := 125) rfl (hb hby at_121) (by decide) (by decide) k) ?_
        show Goes _ _ _ _ _ _ _ (T24.setTop (mkF m 125 #[.val (.int p0), .val (.int p1), .val (.int p2), .val (.int p3), .val (.int p4), .val (.int p5), .val (.int (0 : Int32)), .val (.int ((((p5.toUInt32 >>> ((2 : Int32) &&& 31).toUInt32).toInt32) &&& (3 : Int32)) % (1 : Int32))), .val (.int (1 : Int32)), .val (.ref b14), .unset, .unset] [(.int (1 : Int32))]))
        refine Goes.step (fun _ k => XS.istore X24.here hx rfl (hb hby at_125) rfl (l' := #[.val (.int p0), .val (.int p1), .val (.int p2), .val (.int p3), .val (.int p4), .val (.int p5), .val (.int (0 : Int32)), .val (.int ((((p5.toUInt32 >>> ((2 : Int32) &&& 31).toUInt32).toInt32) &&& (3 : Int32)) % (1 : Int32))), .val (.int (1 : Int32)), .val (.ref b14), .val (.int (1 : Int32)), .unset]) rfl k) ?_
        show Goes _ _ _ _ _ _ _ (T24.setTop (mkF m 127 #[.val (.int p0), .val (.int p1), .val (.int p2), .val (.int p3), .val (.int p4), .val (.int p5), .val (.int (0 : Int32)), .val (.int ((((p5.toUInt32 >>> ((2 : Int32) &&& 31).toUInt32).toInt32) &&& (3 : Int32)) % (1 : Int32))), .val (.int (1 : Int32)), .val (.ref b14), .val (.int (1 : Int32)), .unset] []))
        generalize hg_m7 : ((((p5.toUInt32 >>> ((2 : Int32) &&& 31).toUInt32).toInt32) &&& (3 : Int32)) % (1 : Int32)) = m7
        show Goes _ _ _ _ _ _ _ (T24.setTop (mkF m 127 #[.val (.int p0), .val (.int p1), .val (.int p2), .val (.int p3), .val (.int p4), .val (.int p5), .val (.int (0 : Int32)), .val (.int m7), .val (.int (1 : Int32)), .val (.ref b14), .val (.int (1 : Int32)), .unset] []))
        rcases own_m1 hg_m7 with rfl
        · show Goes _ _ _ _ _ _ _ (T24.setTop (mkF m 127 #[.val (.int p0), .val (.int p1), .val (.int p2), .val (.int p3), .val (.int p4), .val (.int p5), .val (.int (0 : Int32)), .val (.int (0 : Int32)), .val (.int (1 : Int32)), .val (.ref b14), .val (.int (1 : Int32)), .unset] []))
          refine Goes.step (fun _ k => XS.iload X24.here hx rfl (hb hby at_127) rfl  k) ?_
          show Goes _ _ _ _ _ _ _ (T24.setTop (mkF m 129 #[.val (.int p0), .val (.int p1), .val (.int p2), .val (.int p3), .val (.int p4), .val (.int p5), .val (.int (0 : Int32)), .val (.int (0 : Int32)), .val (.int (1 : Int32)), .val (.ref b14), .val (.int (1 : Int32)), .unset] [(.int (0 : Int32))]))
          refine Goes.step (fun _ k => XS.iconst X24.here hx rfl (hb hby at_129) k) ?_
          show Goes _ _ _ _ _ _ _ (T24.setTop (mkF m 130 #[.val (.int p0), .val (.int p1), .val (.int p2), .val (.int p3), .val (.int p4), .val (.int p5), .val (.int (0 : Int32)), .val (.int (0 : Int32)), .val (.int (1 : Int32)), .val (.ref b14), .val (.int (1 : Int32)), .unset] [(.int (1 : Int32)), (.int (0 : Int32))]))
          refine Goes.step (fun _ k => XS.icmpYes X24.here hx rfl (pc0 := 130) (pc' := 139) rfl (hb hby at_130) rfl (tlt (by decide : (0 : Int32) < (1 : Int32))).1 (by decide) (by decide) k) ?_
          show Goes _ _ _ _ _ _ _ (T24.setTop (mkF m 139 #[.val (.int p0), .val (.int p1), .val (.int p2), .val (.int p3), .val (.int p4), .val (.int p5), .val (.int (0 : Int32)), .val (.int (0 : Int32)), .val (.int (1 : Int32)), .val (.ref b14), .val (.int (1 : Int32)), .unset] []))
          refine Goes.step (fun _ k => XS.iload X24.here hx rfl (hb hby at_139) rfl  k) ?_
          show Goes _ _ _ _ _ _ _ (T24.setTop (mkF m 141 #[.val (.int p0), .val (.int p1), .val (.int p2), .val (.int p3), .val (.int p4), .val (.int p5), .val (.int (0 : Int32)), .val (.int (0 : Int32)), .val (.int (1 : Int32)), .val (.ref b14), .val (.int (1 : Int32)), .unset] [(.int (0 : Int32))]))
          refine Goes.step (fun _ k => XS.iconst X24.here hx rfl (hb hby at_141) k) ?_
          show Goes _ _ _ _ _ _ _ (T24.setTop (mkF m 142 #[.val (.int p0), .val (.int p1), .val (.int p2), .val (.int p3), .val (.int p4), .val (.int p5), .val (.int (0 : Int32)), .val (.int (0 : Int32)), .val (.int (1 : Int32)), .val (.ref b14), .val (.int (1 : Int32)), .unset] [(.int (2 : Int32)), (.int (0 : Int32))]))
          refine Goes.step (fun _ k => XS.icmpYes X24.here hx rfl (pc0 := 142) (pc' := 151) rfl (hb hby at_142) rfl (tlt (by decide : (0 : Int32) < (2 : Int32))).1 (by decide) (by decide) k) ?_
          show Goes _ _ _ _ _ _ _ (T24.setTop (mkF m 151 #[.val (.int p0), .val (.int p1), .val (.int p2), .val (.int p3), .val (.int p4), .val (.int p5), .val (.int (0 : Int32)), .val (.int (0 : Int32)), .val (.int (1 : Int32)), .val (.ref b14), .val (.int (1 : Int32)), .unset] []))
          refine Goes.step (fun _ k => XS.iload X24.here hx rfl (hb hby at_151) rfl  k) ?_
          show Goes _ _ _ _ _ _ _ (T24.setTop (mkF m 153 #[.val (.int p0), .val (.int p1), .val (.int p2), .val (.int p3), .val (.int p4), .val (.int p5), .val (.int (0 : Int32)), .val (.int (0 : Int32)), .val (.int (1 : Int32)), .val (.ref b14), .val (.int (1 : Int32)), .unset] [(.int (0 : Int32))]))
          refine Goes.step (fun _ k => XS.iconst X24.here hx rfl (hb hby at_153) k) ?_
          show Goes _ _ _ _ _ _ _ (T24.setTop (mkF m 154 #[.val (.int p0), .val (.int p1), .val (.int p2), .val (.int p3), .val (.int p4), .val (.int p5), .val (.int (0 : Int32)), .val (.int (0 : Int32)), .val (.int (1 : Int32)), .val (.ref b14), .val (.int (1 : Int32)), .unset] [(.int (3 : Int32)), (.int (0 : Int32))]))
          refine Goes.step (fun _ k => XS.icmpYes X24.here hx rfl (pc0 := 154) (pc' := 163) rfl (hb hby at_154) rfl (tlt (by decide : (0 : Int32) < (3 : Int32))).1 (by decide) (by decide) k) ?_
          show Goes _ _ _ _ _ _ _ (T24.setTop (mkF m 163 #[.val (.int p0), .val (.int p1), .val (.int p2), .val (.int p3), .val (.int p4), .val (.int p5), .val (.int (0 : Int32)), .val (.int (0 : Int32)), .val (.int (1 : Int32)), .val (.ref b14), .val (.int (1 : Int32)), .unset] []))
          refine Goes.step (fun _ k => XS.iload X24.here hx rfl (hb hby at_163) rfl  k) ?_
          show Goes _ _ _ _ _ _ _ (T24.setTop (mkF m 165 #[.val (.int p0), .val (.int p1), .val (.int p2), .val (.int p3), .val (.int p4), .val (.int p5), .val (.int (0 : Int32)), .val (.int (0 : Int32)), .val (.int (1 : Int32)), .val (.ref b14), .val (.int (1 : Int32)), .unset] [(.int (1 : Int32))]))
          refine Goes.step (fun _ k => XS.ifNo X24.here hx rfl (hb hby at_165) rfl ((if0 _ _).trans (feq (by decide : ¬ ((1 : Int32) = (0 : Int32)))).1) k) ?_
          show Goes _ _ _ _ _ _ _ (T24.setTop (mkF m 168 #[.val (.int p0), .val (.int p1), .val (.int p2), .val (.int p3), .val (.int p4), .val (.int p5), .val (.int (0 : Int32)), .val (.int (0 : Int32)), .val (.int (1 : Int32)), .val (.ref b14), .val (.int (1 : Int32)), .unset] []))
          refine Goes.step (fun _ k => XS.aload X24.here hx rfl (hb hby at_168) rfl rfl k) ?_
          show Goes _ _ _ _ _ _ _ (T24.setTop (mkF m 170 #[.val (.int p0), .val (.int p1), .val (.int p2), .val (.int p3), .val (.int p4), .val (.int p5), .val (.int (0 : Int32)), .val (.int (0 : Int32)), .val (.int (1 : Int32)), .val (.ref b14), .val (.int (1 : Int32)), .unset] [(.ref b14)]))
          obtain ⟨cq25, kq25, q25a, q25b, q25c⟩ := isOf hZ eh24 v16_0_3
          obtain ⟨_, _, ⟨T25, L25, k25, n25⟩, -, X25, ⟨Lc25, hQ25, l25, y25, z25⟩, st25⟩ := X24.virtualBack hx (y := (⟨"com/example/hailwise/hailwise/NodeQueue", "clear", "()V"⟩ : MethodName)) (z := (⟨"com/example/hailwise/hailwise/NodeQueue", "clear", "()V"⟩ : MethodName)) hown (mvT hZ (hw _ (List.mem_of_getElem? (i := 32) rfl))) (mvT hZ (hw _ (List.mem_of_getElem? (i := 33) rfl))) (notFace_of_selects (args := #[]) (mvT hZ (hw _ (List.mem_of_getElem? (i := 35) rfl)))) (mvT hZ (hw _ (List.mem_of_getElem? (i := 35) rfl))) (mvT hZ (hw _ (List.mem_of_getElem? (i := 34) rfl))) (by decide) (backOf (W := 0) (rm6 l Z a0 hw [] b14 r16_0_0 r16_0_1 (0 : Int32) T16.heap n0 Z21 v16_0_0 v16_0_1 v16_0_2 v16_0_3 g_b14) hZ (hw _ (List.mem_of_getElem? (i := 36) rfl)) (hw _ (List.mem_of_getElem? (i := 2) rfl)) (by decide) (by decide)) q25a q25c (g := (mkF m 170 #[.val (.int p0), .val (.int p1), .val (.int p2), .val (.int p3), .val (.int p4), .val (.int p5), .val (.int (0 : Int32)), .val (.int (0 : Int32)), .val (.int (1 : Int32)), .val (.ref b14), .val (.int (1 : Int32)), .unset] [(.ref b14)])) rfl (by rw [hml]; rfl) (Steps.refl _) (argsL := []) (rest := []) (lenOf pd_0 rfl) rfl (by show 2 * 0 + _ ≤ _; exact Nat.le_of_eq rfl) (hb hby at_170) (fun _ _ => ⟨rfl, eh24, (by decide : 3 + 0 ≤ _), (by decide : 131 + 0 ≤ _)⟩)
          dsimp only [Pt.U, Pt.locs, Pt.cells, Pt.slots] at X25 l25 y25 z25 st25 hQ25
          subst l25 y25 z25
          obtain ⟨N25, KK25, hR25⟩ := hQ25
          have NA25 := Fr.app NA24 N25
          have f26 := v16_0_3.keep KK25
          have f30 := v16_0_4.keep KK25 (ninS (Ne.symm ne22) nin0)
          have f31 := v16_0_5.keep KK25 (ninS (Ne.symm ne23) nin0)
          have K32 : Keep h0 T25.heap [] := K21.trans KK25 (allS (Or.inr sz_b14) all0)
          have Z32 : n0 ≤ T25.heap.size := Nat.le_trans Z21 KK25.1
          obtain ⟨rfl, v25_0_0, v25_0_1, v25_0_2, v25_0_3⟩ := hR25
          refine Goes.back st25 ?_
          show Goes _ _ _ _ _ _ _ (T25.setTop (mkF m 173 #[.val (.int p0), .val (.int p1), .val (.int p2), .val (.int p3), .val (.int p4), .val (.int p5), .val (.int (0 : Int32)), .val (.int (0 : Int32)), .val (.int (1 : Int32)), .val (.ref b14), .val (.int (1 : Int32)), .unset] []))
          refine Goes.step (fun _ k => XS.iload X25.here hx rfl (hb hby at_173) rfl  k) ?_
          show Goes _ _ _ _ _ _ _ (T25.setTop (mkF m 175 #[.val (.int p0), .val (.int p1), .val (.int p2), .val (.int p3), .val (.int p4), .val (.int p5), .val (.int (0 : Int32)), .val (.int (0 : Int32)), .val (.int (1 : Int32)), .val (.ref b14), .val (.int (1 : Int32)), .unset] [(.int (1 : Int32))]))
          refine Goes.step (fun _ k => XS.ifYes X25.here hx rfl (pc0 := 175) (pc' := 185) rfl (hb hby at_175) rfl ((if0 _ _).trans (feq (by decide : ¬ ((1 : Int32) = (0 : Int32)))).2) (by decide) (by decide) k) ?_
          show Goes _ _ _ _ _ _ _ (T25.setTop (mkF m 185 #[.val (.int p0), .val (.int p1), .val (.int p2), .val (.int p3), .val (.int p4), .val (.int p5), .val (.int (0 : Int32)), .val (.int (0 : Int32)), .val (.int (1 : Int32)), .val (.ref b14), .val (.int (1 : Int32)), .unset] []))
          refine Goes.step (fun _ k => XS.iconst X25.here hx rfl (hb hby at_185) k) ?_
          show Goes _ _ _ _ _ _ _ (T25.setTop (mkF m 186 #[.val (.int p0), .val (.int p1), .val (.int p2), .val (.int p3), .val (.int p4), .val (.int p5), .val (.int (0 : Int32)), .val (.int (0 : Int32)), .val (.int (1 : Int32)), .val (.ref b14), .val (.int (1 : Int32)), .unset] [(.int (1 : Int32))]))
          refine Goes.step (fun _ k => XS.goto X25.here hx rfl (pc0 := 186) (pc' := 190) rfl (hb hby at_186) (by decide) (by decide) k) ?_
          show Goes _ _ _ _ _ _ _ (T25.setTop (mkF m 190 #[.val (.int p0), .val (.int p1), .val (.int p2), .val (.int p3), .val (.int p4), .val (.int p5), .val (.int (0 : Int32)), .val (.int (0 : Int32)), .val (.int (1 : Int32)), .val (.ref b14), .val (.int (1 : Int32)), .unset] [(.int (1 : Int32))]))
          refine Goes.step (fun _ k => XS.istore X25.here hx rfl (hb hby at_190) rfl (l' := #[.val (.int p0), .val (.int p1), .val (.int p2), .val (.int p3), .val (.int p4), .val (.int p5), .val (.int (0 : Int32)), .val (.int (0 : Int32)), .val (.int (1 : Int32)), .val (.ref b14), .val (.int (1 : Int32)), .val (.int (1 : Int32))]) rfl k) ?_
          show Goes _ _ _ _ _ _ _ (T25.setTop (mkF m 192 #[.val (.int p0), .val (.int p1), .val (.int p2), .val (.int p3), .val (.int p4), .val (.int p5), .val (.int (0 : Int32)), .val (.int (0 : Int32)), .val (.int (1 : Int32)), .val (.ref b14), .val (.int (1 : Int32)), .val (.int (1 : Int32))] []))
          refine Goes.step (fun _ k => XS.iload X25.here hx rfl (hb hby at_192) rfl  k) ?_
          show Goes _ _ _ _ _ _ _ (T25.setTop (mkF m 194 #[.val (.int p0), .val (.int p1), .val (.int p2), .val (.int p3), .val (.int p4), .val (.int p5), .val (.int (0 : Int32)), .val (.int (0 : Int32)), .val (.int (1 : Int32)), .val (.ref b14), .val (.int (1 : Int32)), .val (.int (1 : Int32))] [(.int (1 : Int32))]))
          refine Goes.step (fun _ k => XS.ifNo X25.here hx rfl (hb hby at_194) rfl ((if0 _ _).trans (feq (by decide : ¬ ((1 : Int32) = (0 : Int32)))).1) k) ?_
          show Goes _ _ _ _ _ _ _ (T25.setTop (mkF m 197 #[.val (.int p0), .val (.int p1), .val (.int p2), .val (.int p3), .val (.int p4), .val (.int p5), .val (.int (0 : Int32)), .val (.int (0 : Int32)), .val (.int (1 : Int32)), .val (.ref b14), .val (.int (1 : Int32)), .val (.int (1 : Int32))] []))
          refine Goes.step (fun _ k => XS.aload X25.here hx rfl (hb hby at_197) rfl rfl k) ?_
          show Goes _ _ _ _ _ _ _ (T25.setTop (mkF m 199 #[.val (.int p0), .val (.int p1), .val (.int p2), .val (.int p3), .val (.int p4), .val (.int p5), .val (.int (0 : Int32)), .val (.int (0 : Int32)), .val (.int (1 : Int32)), .val (.ref b14), .val (.int (1 : Int32)), .val (.int (1 : Int32))] [(.ref b14)]))
          obtain ⟨cq33, kq33, q33a, q33b, q33c⟩ := isOf hZ rfl v25_0_3
          obtain ⟨_, _, ⟨T33, L33, k33, n33⟩, -, X33, ⟨Lc33, hQ33, l33, y33, z33⟩, st33⟩ := X25.virtualBack hx (y := (⟨"com/example/hailwise/hailwise/NodeQueue", "isEmpty", "()Z"⟩ : MethodName)) (z := (⟨"com/example/hailwise/hailwise/NodeQueue", "isEmpty", "()Z"⟩ : MethodName)) hown (mvT hZ (hw _ (List.mem_of_getElem? (i := 22) rfl))) (mvT hZ (hw _ (List.mem_of_getElem? (i := 23) rfl))) (notFace_of_selects (args := #[]) (mvT hZ (hw _ (List.mem_of_getElem? (i := 25) rfl)))) (mvT hZ (hw _ (List.mem_of_getElem? (i := 25) rfl))) (mvT hZ (hw _ (List.mem_of_getElem? (i := 24) rfl))) (by decide) (backOf (W := 0) (rm4 l Z a0 hw [] b14 (0 : Int32) T25.heap n0 Z32 v25_0_2) hZ (hw _ (List.mem_of_getElem? (i := 26) rfl)) (hw _ (List.mem_of_getElem? (i := 2) rfl)) (by decide) (by decide)) q33a q33c (g := (mkF m 199 #[.val (.int p0), .val (.int p1), .val (.int p2), .val (.int p3), .val (.int p4), .val (.int p5), .val (.int (0 : Int32)), .val (.int (0 : Int32)), .val (.int (1 : Int32)), .val (.ref b14), .val (.int (1 : Int32)), .val (.int (1 : Int32))] [(.ref b14)])) rfl (by rw [hml]; rfl) (Steps.refl _) (argsL := []) (rest := []) (lenOf pd_2 rfl) rfl (by show 2 * 0 + _ ≤ _; exact Nat.le_of_eq rfl) (hb hby at_199) (fun _ _ => ⟨rfl, rfl, (by decide : 3 + 0 ≤ _), (by decide : 131 + 0 ≤ _)⟩)
          dsimp only [Pt.U, Pt.locs, Pt.cells, Pt.slots] at X33 l33 y33 z33 st33 hQ33
          subst l33 y33 z33
          obtain ⟨N33, eh33, hR33⟩ := hQ33
          have NA33 := Fr.app NA25 N33
          rcases hR33 with ⟨rfl, u33_0_0⟩ | ⟨rfl, u33_1_0⟩
          · refine Goes.back st33 ?_
            show Goes _ _ _ _ _ _ _ (T33.setTop (mkF m 202 #[.val (.int p0), .val (.int p1), .val (.int p2), .val (.int p3), .val (.int p4), .val (.int p5), .val (.int (0 : Int32)), .val (.int (0 : Int32)), .val (.int (1 : Int32)), .val (.ref b14), .val (.int (1 : Int32)), .val (.int (1 : Int32))] [(.int (1 : Int32))]))
            refine Goes.step (fun _ k => XS.iload X33.here hx rfl (hb hby at_202) rfl  k) ?_
            show Goes _ _ _ _ _ _ _ (T33.setTop (mkF m 204 #[.val (.int p0), .val (.int p1), .val (.int p2), .val (.int p3), .val (.int p4), .val (.int p5), .val (.int (0 : Int32)), .val (.int (0 : Int32)), .val (.int (1 : Int32)), .val (.ref b14), .val (.int (1 : Int32)), .val (.int (1 : Int32))] [(.int (1 : Int32)), (.int (1 : Int32))]))
            refine Goes.step (fun _ k => XS.icmpNo X33.here hx rfl (hb hby at_204) rfl (teq (by decide : (1 : Int32) = (1 : Int32))).2 k) ?_
            show Goes _ _ _ _ _ _ _ (T33.setTop (mkF m 207 #[.val (.int p0), .val (.int p1), .val (.int p2), .val (.int p3), .val (.int p4), .val (.int p5), .val (.int (0 : Int32)), .val (.int (0 : Int32)), .val (.int (1 : Int32)), .val (.ref b14), .val (.int (1 : Int32)), .val (.int (1 : Int32))] []))
            refine Goes.step (fun _ k => XS.iconst X33.here hx rfl (hb hby at_207) k) ?_
            show Goes _ _ _ _ _ _ _ (T33.setTop (mkF m 208 #[.val (.int p0), .val (.int p1), .val (.int p2), .val (.int p3), .val (.int p4), .val (.int p5), .val (.int (0 : Int32)), .val (.int (0 : Int32)), .val (.int (1 : Int32)), .val (.ref b14), .val (.int (1 : Int32)), .val (.int (1 : Int32))] [(.int (1 : Int32))]))
            refine Goes.step (fun _ k => XS.goto X33.here hx rfl (pc0 := 208) (pc' := 212) rfl (hb hby at_208) (by decide) (by decide) k) ?_
            show Goes _ _ _ _ _ _ _ (T33.setTop (mkF m 212 #[.val (.int p0), .val (.int p1), .val (.int p2), .val (.int p3), .val (.int p4), .val (.int p5), .val (.int (0 : Int32)), .val (.int (0 : Int32)), .val (.int (1 : Int32)), .val (.ref b14), .val (.int (1 : Int32)), .val (.int (1 : Int32))] [(.int (1 : Int32))]))
            refine Goes.step (fun _ k => XS.istore X33.here hx rfl (hb hby at_212) rfl (l' := #[.val (.int p0), .val (.int p1), .val (.int p2), .val (.int p3), .val (.int p4), .val (.int p5), .val (.int (0 : Int32)), .val (.int (0 : Int32)), .val (.int (1 : Int32)), .val (.ref b14), .val (.int (1 : Int32)), .val (.int (1 : Int32))]) rfl k) ?_
            show Goes _ _ _ _ _ _ _ (T33.setTop (mkF m 214 #[.val (.int p0), .val (.int p1), .val (.int p2), .val (.int p3), .val (.int p4), .val (.int p5), .val (.int (0 : Int32)), .val (.int (0 : Int32)), .val (.int (1 : Int32)), .val (.ref b14), .val (.int (1 : Int32)), .val (.int (1 : Int32))] []))
            refine Goes.step (fun _ k => XS.iload X33.here hx rfl (hb hby at_214) rfl  k) ?_
            show Goes _ _ _ _ _ _ _ (T33.setTop (mkF m 216 #[.val (.int p0), .val (.int p1), .val (.int p2), .val (.int p3), .val (.int p4), .val (.int p5), .val (.int (0 : Int32)), .val (.int (0 : Int32)), .val (.int (1 : Int32)), .val (.ref b14), .val (.int (1 : Int32)), .val (.int (1 : Int32))] [(.int (1 : Int32))]))
            exact Goes.ret X33 hx (BodyLoose.notSynchronized Bd) Bd.returns rfl (Or.inl ⟨rfl, by simp, _, rfl⟩) (hb hby at_216) (by show Q0 Z p0 p1 p2 p3 p4 p5 h0 n0 (some (.int (1 : Int32))) T33.heap _; rw [eh33]; exact ⟨rfl, NA33⟩) (by decide) (by decide)
          · exact absurd (by decide : (0 : Int32) = (0 : Int32)) u33_1_0
      · exact absurd (by decide : (0 : Int32) = (0 : Int32)) u24_1_0
  · show Goes _ _ _ _ _ _ _ (s₁.setTop (mkF m 6 #[.val (.int p0), .val (.int p1), .val (.int p2), .val (.int p3), .val (.int p4), .val (.int p5), .val (.int (1 : Int32)), .unset, .unset, .unset, .unset, .unset] []))
    refine Goes.step (fun _ k => XS.iload X0.here hx rfl (hb hby at_6) rfl  k) ?_
    show Goes _ _ _ _ _ _ _ (s₁.setTop (mkF m 8 #[.val (.int p0), .val (.int p1), .val (.int p2), .val (.int p3), .val (.int p4), .val (.int p5), .val (.int (1 : Int32)), .unset, .unset, .unset, .unset, .unset] [(.int p5)]))
    refine Goes.step (fun _ k => XS.iconst X0.here hx rfl (hb hby at_8) k) ?_
    show Goes _ _ _ _ _ _ _ (s₁.setTop (mkF m 9 #[.val (.int p0), .val (.int p1), .val (.int p2), .val (.int p3), .val (.int p4), .val (.int p5), .val (.int (1 : Int32)), .unset, .unset, .unset, .unset, .unset] [(.int (2 : Int32)), (.int p5)]))
    refine Goes.step (fun _ k => XS.iushr X0.here hx rfl (hb hby at_9) rfl k) ?_
    show Goes _ _ _ _ _ _ _ (s₁.setTop (mkF m 10 #[.val (.int p0), .val (.int p1), .val (.int p2), .val (.int p3), .val (.int p4), .val (.int p5), .val (.int (1 : Int32)), .unset, .unset, .unset, .unset, .unset] [(.int ((p5.toUInt32 >>> ((2 : Int32) &&& 31).toUInt32).toInt32))]))
    refine Goes.step (fun _ k => XS.iconst X0.here hx rfl (hb hby at_10) k) ?_
    show Goes _ _ _ _ _ _ _ (s₁.setTop (mkF m 11 #[.val (.int p0), .val (.int p1), .val (.int p2), .val (.int p3), .val (.int p4), .val (.int p5), .val (.int (1 : Int32)), .unset, .unset, .unset, .unset, .unset] [(.int (3 : Int32)), (.int ((p5.toUInt32 >>> ((2 : Int32) &&& 31).toUInt32).toInt32))]))
    refine Goes.step (fun _ k => XS.iand X0.here hx rfl (hb hby at_11) rfl k) ?_
    show Goes _ _ _ _ _ _ _ (s₁.setTop (mkF m 12 #[.val (.int p0), .val (.int p1), .val (.int p2), .val (.int p3), .val (.int p4), .val (.int p5), .val (.int (1 : Int32)), .unset, .unset, .unset, .unset, .unset] [(.int (((p5.toUInt32 >>> ((2 : Int32) &&& 31).toUInt32).toInt32) &&& (3 : Int32)))]))
    refine Goes.step (fun _ k => XS.iload X0.here hx rfl (hb hby at_12) rfl  k) ?_
    show Goes _ _ _ _ _ _ _ (s₁.setTop (mkF m 14 #[.val (.int p0), .val (.int p1), .val (.int p2), .val (.int p3), .val (.int p4), .val (.int p5), .val (.int (1 : Int32)), .unset, .unset, .unset, .unset, .unset] [(.int (1 : Int32)), (.int (((p5.toUInt32 >>> ((2 : Int32) &&& 31).toUInt32).toInt32) &&& (3 : Int32)))]))
    refine Goes.step (fun _ k => XS.iconst X0.here hx rfl (hb hby at_14) k) ?_
    show Goes _ _ _ _ _ _ _ (s₁.setTop (mkF m 15 #[.val (.int p0), .val (.int p1), .val (.int p2), .val (.int p3), .val (.int p4), .val (.int p5), .val (.int (1 : Int32)), .unset, .unset, .unset, .unset, .unset] [(.int (1 : Int32)), (.int (1 : Int32)), (.int (((p5.toUInt32 >>> ((2 : Int32) &&& 31).toUInt32).toInt32) &&& (3 : Int32)))]))
    refine Goes.step (fun _ k => XS.iadd X0.here hx rfl (hb hby at_15) rfl k) ?_
    show Goes _ _ _ _ _ _ _ (s₁.setTop (mkF m 16 #[.val (.int p0), .val (.int p1), .val (.int p2), .val (.int p3), .val (.int p4), .val (.int p5), .val (.int (1 : Int32)), .unset, .unset, .unset, .unset, .unset] [(.int (2 : Int32)), (.int (((p5.toUInt32 >>> ((2 : Int32) &&& 31).toUInt32).toInt32) &&& (3 : Int32)))]))
    refine Goes.step (fun _ k => iremM X0 hx rfl (hb hby at_16) rfl (by decide) k) ?_
    show Goes _ _ _ _ _ _ _ (s₁.setTop (mkF m 17 #[.val (.int p0), .val (.int p1), .val (.int p2), .val (.int p3), .val (.int p4), .val (.int p5), .val (.int (1 : Int32)), .unset, .unset, .unset, .unset, .unset] [(.int ((((p5.toUInt32 >>> ((2 : Int32) &&& 31).toUInt32).toInt32) &&& (3 : Int32)) % (2 : Int32)))]))
    refine Goes.step (fun _ k => XS.istore X0.here hx rfl (hb hby at_17) rfl (l' := #[.val (.int p0), .val (.int p1), .val (.int p2), .val (.int p3), .val (.int p4), .val (.int p5), .val (.int (1 : Int32)), .val (.int ((((p5.toUInt32 >>> ((2 : Int32) &&& 31).toUInt32).toInt32) &&& (3 : Int32)) % (2 : Int32))), .unset, .unset, .unset, .unset]) rfl k) ?_
    show Goes _ _ _ _ _ _ _ (s₁.setTop (mkF m 19 #[.val (.int p0), .val (.int p1), .val (.int p2), .val (.int p3), .val (.int p4), .val (.int p5), .val (.int (1 : Int32)), .val (.int ((((p5.toUInt32 >>> ((2 : Int32) &&& 31).toUInt32).toInt32) &&& (3 : Int32)) % (2 : Int32))), .unset, .unset, .unset, .unset] []))
    refine Goes.step (fun _ k => XS.iload X0.here hx rfl (hb hby at_19) rfl  k) ?_
    show Goes _ _ _ _ _ _ _ (s₁.setTop (mkF m 21 #[.val (.int p0), .val (.int p1), .val (.int p2), .val (.int p3), .val (.int p4), .val (.int p5), .val (.int (1 : Int32)), .val (.int ((((p5.toUInt32 >>> ((2 : Int32) &&& 31).toUInt32).toInt32) &&& (3 : Int32)) % (2 : Int32))), .unset, .unset, .unset, .unset] [(.int p5)]))
    refine Goes.step (fun _ k => XS.iconst X0.here hx rfl (hb hby at_21) k) ?_
    show Goes _ _ _ _ _ _ _ (s₁.setTop (mkF m 22 #[.val (.int p0), .val (.int p1), .val (.int p2), .val (.int p3), .val (.int p4), .val (.int p5), .val (.int (1 : Int32)), .val (.int ((((p5.toUInt32 >>> ((2 : Int32) &&& 31).toUInt32).toInt32) &&& (3 : Int32)) % (2 : Int32))), .unset, .unset, .unset, .unset] [(.int (4 : Int32)), (.int p5)]))
    refine Goes.step (fun _ k => XS.iushr X0.here hx rfl (hb hby at_22) rfl k) ?_
    show Goes _ _ _ _ _ _ _ (s₁.setTop (mkF m 23 #[.val (.int p0), .val (.int p1), .val (.int p2), .val (.int p3), .val (.int p4), .val (.int p5), .val (.int (1 : Int32)), .val (.int ((((p5.toUInt32 >>> ((2 : Int32) &&& 31).toUInt32).toInt32) &&& (3 : Int32)) % (2 : Int32))), .unset, .unset, .unset, .unset] [(.int ((p5.toUInt32 >>> ((4 : Int32) &&& 31).toUInt32).toInt32))]))
    refine Goes.step (fun _ k => XS.iconst X0.here hx rfl (hb hby at_23) k) ?_
    show Goes _ _ _ _ _ _ _ (s₁.setTop (mkF m 24 #[.val (.int p0), .val (.int p1), .val (.int p2), .val (.int p3), .val (.int p4), .val (.int p5), .val (.int (1 : Int32)), .val (.int ((((p5.toUInt32 >>> ((2 : Int32) &&& 31).toUInt32).toInt32) &&& (3 : Int32)) % (2 : Int32))), .unset, .unset, .unset, .unset] [(.int (1 : Int32)), (.int ((p5.toUInt32 >>> ((4 : Int32) &&& 31).toUInt32).toInt32))]))
    refine Goes.step (fun _ k => XS.iand X0.here hx rfl (hb hby at_24) rfl k) ?_
    show Goes _ _ _ _ _ _ _ (s₁.setTop (mkF m 25 #[.val (.int p0), .val (.int p1), .val (.int p2), .val (.int p3), .val (.int p4), .val (.int p5), .val (.int (1 : Int32)), .val (.int ((((p5.toUInt32 >>> ((2 : Int32) &&& 31).toUInt32).toInt32) &&& (3 : Int32)) % (2 : Int32))), .unset, .unset, .unset, .unset] [(.int (((p5.toUInt32 >>> ((4 : Int32) &&& 31).toUInt32).toInt32) &&& (1 : Int32)))]))
    by_cases c25_34 : (((p5.toUInt32 >>> ((4 : Int32) &&& 31).toUInt32).toInt32) &&& (1 : Int32)) = (0 : Int32)
    · refine Goes.step (fun _ k => XS.ifYes X0.here hx rfl (pc0 := 25) (pc' := 32) rfl (hb hby at_25) rfl ((if0 _ _).trans (teq c25_34).1) (by decide) (by decide) k) ?_
      show Goes _ _ _ _ _ _ _ (s₁.setTop (mkF m 32 #[.val (.int p0), .val (.int p1), .val (.int p2), .val (.int p3), .val (.int p4), .val (.int p5), .val (.int (1 : Int32)), .val (.int ((((p5.toUInt32 >>> ((2 : Int32) &&& 31).toUInt32).toInt32) &&& (3 : Int32)) % (2 : Int32))), .unset, .unset, .unset, .unset] []))
      refine Goes.step (fun _ k => XS.iconst X0.here hx rfl (hb hby at_32) k) ?_
      show Goes _ _ _ _ _ _ _ (s₁.setTop (mkF m 33 #[.val (.int p0), .val (.int p1), .val (.int p2), .val (.int p3), .val (.int p4), .val (.int p5), .val (.int (1 : Int32)), .val (.int ((((p5.toUInt32 >>> ((2 : Int32) &&& 31).toUInt32).toInt32) &&& (3 : Int32)) % (2 : Int32))), .unset, .unset, .unset, .unset] [(.int (0 : Int32))]))
      refine Goes.step (fun _ k => XS.istore X0.here hx rfl (hb hby at_33) rfl (l' := #[.val (.int p0), .val (.int p1), .val (.int p2), .val (.int p3), .val (.int p4), .val (.int p5), .val (.int (1 : Int32)), .val (.int ((((p5.toUInt32 >>> ((2 : Int32) &&& 31).toUInt32).toInt32) &&& (3 : Int32)) % (2 : Int32))), .val (.int (0 : Int32)), .unset, .unset, .unset]) rfl k) ?_
      show Goes _ _ _ _ _ _ _ (s₁.setTop (mkF m 35 #[.val (.int p0), .val (.int p1), .val (.int p2), .val (.int p3), .val (.int p4), .val (.int p5), .val (.int (1 : Int32)), .val (.int ((((p5.toUInt32 >>> ((2 : Int32) &&& 31).toUInt32).toInt32) &&& (3 : Int32)) % (2 : Int32))), .val (.int (0 : Int32)), .unset, .unset, .unset] []))
      obtain ⟨T35, h35, X35, e35, E35, A35, D35, -, st35⟩ := newO X0 hx hZ hown (hw _ (List.mem_of_getElem? (i := 0) rfl)) (hw _ (List.mem_of_getElem? (i := 1) rfl)) (hw _ (List.mem_of_getElem? (i := 2) rfl)) e0 (g := (mkF m 35 #[.val (.int p0), .val (.int p1), .val (.int p2), .val (.int p3), .val (.int p4), .val (.int p5), .val (.int (1 : Int32)), .val (.int ((((p5.toUInt32 >>> ((2 : Int32) &&& 31).toUInt32).toInt32) &&& (3 : Int32)) % (2 : Int32))), .val (.int (0 : Int32)), .unset, .unset, .unset] [])) rfl (hb hby at_35) (by decide) (by decide)
      obtain ⟨b35, g35⟩ : ∃ z, z = h0.size := ⟨_, rfl⟩
      rw [← g35] at A35 D35 st35
      refine Goes.step st35 ?_
      have g_b35 : n0 ≤ b35 := Nat.le_trans Z0 (Nat.le_of_eq g35.symm)
      have sz_b35 : h0.size ≤ b35 := Nat.le_trans K0.1 (Nat.le_of_eq g35.symm)
      have K36 : Keep h0 h35 [] := K0.ext E35
      have Z36 : n0 ≤ h35.size := Nat.le_trans Z0 E35.1
      have E_b35 := A35
      have F_nodes_b35 : Fld Z h35 b35 "com/example/hailwise/hailwise/NodeQueue" "nodes" "[I" .null := D35 (Or.inl (hw _ (List.mem_of_getElem? (i := 11) rfl))) (ty := (.array .int)) (by decide)
      have F_keys_b35 : Fld Z h35 b35 "com/example/hailwise/hailwise/NodeQueue" "keys" "[D" .null := D35 (Or.inl (hw _ (List.mem_of_getElem? (i := 14) rfl))) (ty := (.array .double)) (by decide)
      have F_size_b35 : Fld Z h35 b35 "com/example/hailwise/hailwise/NodeQueue" "size" "I" (.int (0 : Int32)) := D35 (Or.inl (hw _ (List.mem_of_getElem? (i := 21) rfl))) (ty := .int) (by decide)
      show Goes _ _ _ _ _ _ _ (T35.setTop (mkF m 38 #[.val (.int p0), .val (.int p1), .val (.int p2), .val (.int p3), .val (.int p4), .val (.int p5), .val (.int (1 : Int32)), .val (.int ((((p5.toUInt32 >>> ((2 : Int32) &&& 31).toUInt32).toInt32) &&& (3 : Int32)) % (2 : Int32))), .val (.int (0 : Int32)), .unset, .unset, .unset] [(.ref b35)]))
      refine Goes.step (fun _ k => XS.dup X35.here hx rfl (hb hby at_38) rfl rfl k) ?_
      show Goes _ _ _ _ _ _ _ (T35.setTop (mkF m 39 #[.val (.int p0), .val (.int p1), .val (.int p2), .val (.int p3), .val (.int p4), .val (.int p5), .val (.int (1 : Int32)), .val (.int ((((p5.toUInt32 >>> ((2 : Int32) &&& 31).toUInt32).toInt32) &&& (3 : Int32)) % (2 : Int32))), .val (.int (0 : Int32)), .unset, .unset, .unset] [(.ref b35), (.ref b35)]))
      obtain ⟨_, _, ⟨T37, L37, k37, n37⟩, -, X37, ⟨Lc37, hQ37, l37, y37, z37⟩, st37⟩ := X35.specialBack hx (y := (⟨"com/example/hailwise/hailwise/NodeQueue", "<init>", "()V"⟩ : MethodName)) rfl hown (mvT hZ (hw _ (List.mem_of_getElem? (i := 3) rfl))) (mvT hZ (hw _ (List.mem_of_getElem? (i := 4) rfl))) (mvT hZ (hw _ (List.mem_of_getElem? (i := 5) rfl))) (by decide) (backOf (W := 1) (rm1 l Z a0 hw [] b35 h35 n0 Z36 F_nodes_b35 F_keys_b35 F_size_b35 E_b35 g_b35) hZ (hw _ (List.mem_of_getElem? (i := 5) rfl)) (hw _ (List.mem_of_getElem? (i := 2) rfl)) (by decide) (by decide)) (g := (mkF m 39 #[.val (.int p0), .val (.int p1), .val (.int p2), .val (.int p3), .val (.int p4), .val (.int p5), .val (.int (1 : Int32)), .val (.int ((((p5.toUInt32 >>> ((2 : Int32) &&& 31).toUInt32).toInt32) &&& (3 : Int32)) % (2 : Int32))), .val (.int (0 : Int32)), .unset, .unset, .unset] [(.ref b35), (.ref b35)])) rfl (by rw [hml]; rfl) (Steps.refl _) (a := b35) (argsL := []) (rest := [(.ref b35)]) (lenOf pd_0 rfl) rfl (by show 2 * 0 + _ ≤ _; exact Nat.le_of_eq rfl) (hb hby at_39) (fun _ _ => ⟨rfl, e35, (by decide : 1 + 2 ≤ _), (by decide : 3 + 128 ≤ _)⟩)
      dsimp only [Pt.U, Pt.locs, Pt.cells, Pt.slots] at X37 l37 y37 z37 st37 hQ37
      subst l37 y37 z37
      obtain ⟨N37, KK37, hR37⟩ := hQ37
      have NA37 := Fr.app N0 N37
      have f38 := E_b35.keep KK37
      have K42 : Keep h0 T37.heap [] := K36.trans KK37 (allS (Or.inr sz_b35) all0)
      have Z42 : n0 ≤ T37.heap.size := Nat.le_trans Z36 KK37.1
      obtain ⟨r37_0_0, r37_0_1, kk37_0_0, kk37_0_1, rfl, g_r37_0_0, le_r37_0_0, g_r37_0_1, le_r37_0_1, nn37_0_0, v37_0_0, v37_0_1, v37_0_2, v37_0_3, v37_0_4, v37_0_5⟩ := hR37
      have ne43 : b35 ≠ r37_0_0 := Nat.ne_of_lt (Nat.lt_of_lt_of_le E_b35.lt le_r37_0_0)
      have sz_r37_0_0 : h0.size ≤ r37_0_0 := Nat.le_trans K36.1 le_r37_0_0
      have ne44 : b35 ≠ r37_0_1 := Nat.ne_of_lt (Nat.lt_of_lt_of_le E_b35.lt le_r37_0_1)
      have sz_r37_0_1 : h0.size ≤ r37_0_1 := Nat.le_trans K36.1 le_r37_0_1
      refine Goes.back st37 ?_
      show Goes _ _ _ _ _ _ _ (T37.setTop (mkF m 42 #[.val (.int p0), .val (.int p1), .val (.int p2), .val (.int p3), .val (.int p4), .val (.int p5), .val (.int (1 : Int32)), .val (.int ((((p5.toUInt32 >>> ((2 : Int32) &&& 31).toUInt32).toInt32) &&& (3 : Int32)) % (2 : Int32))), .val (.int (0 : Int32)), .unset, .unset, .unset] [(.ref b35)]))
      refine Goes.step (fun _ k => XS.astore X37.here hx rfl (hb hby at_42) rfl rfl (l' := #[.val (.int p0), .val (.int p1), .val (.int p2), .val (.int p3), .val (.int p4), .val (.int p5), .val (.int (1 : Int32)), .val (.int ((((p5.toUInt32 >>> ((2 : Int32) &&& 31).toUInt32).toInt32) &&& (3 : Int32)) % (2 : Int32))), .val (.int (0 : Int32)), .val (.ref b35), .unset, .unset]) rfl k) ?_
      show Goes _ _ _ _ _ _ _ (T37.setTop (mkF m 44 #[.val (.int p0), .val (.int p1), .val (.int p2), .val (.int p3), .val (.int p4), .val (.int p5), .val (.int (1 : Int32)), .val (.int ((((p5.toUInt32 >>> ((2 : Int32) &&& 31).toUInt32).toInt32) &&& (3 : Int32)) % (2 : Int32))), .val (.int (0 : Int32)), .val (.ref b35), .unset, .unset] []))
      refine Goes.step (fun _ k => XS.iload X37.here hx rfl (hb hby at_44) rfl  k) ?_
      show Goes _ _ _ _ _ _ _ (T37.setTop (mkF m 46 #[.val (.int p0), .val (.int p1), .val (.int p2), .val (.int p3), .val (.int p4), .val (.int p5), .val (.int (1 : Int32)), .val (.int ((((p5.toUInt32 >>> ((2 : Int32) &&& 31).toUInt32).toInt32) &&& (3 : Int32)) % (2 : Int32))), .val (.int (0 : Int32)), .val (.ref b35), .unset, .unset] [(.int (1 : Int32))]))
      refine Goes.step (fun _ k => XS.iconst X37.here hx rfl (hb hby at_46) k) ?_
      show Goes _ _ _ _ _ _ _ (T37.setTop (mkF m 47 #[.val (.int p0), .val (.int p1), .val (.int p2), .val (.int p3), .val (.int p4), .val (.int p5), .val (.int (1 : Int32)), .val (.int ((((p5.toUInt32 >>> ((2 : Int32) &&& 31).toUInt32).toInt32) &&& (3 : Int32)) % (2 : Int32))), .val (.int (0 : Int32)), .val (.ref b35), .unset, .unset] [(.int (1 : Int32)), (.int (1 : Int32))]))
      refine Goes.step (fun _ k => XS.icmpNo X37.here hx rfl (hb hby at_47) rfl (flt (by decide : ¬ ((1 : Int32) < (1 : Int32)))).1 k) ?_
      show Goes _ _ _ _ _ _ _ (T37.setTop (mkF m 50 #[.val (.int p0), .val (.int p1), .val (.int p2), .val (.int p3), .val (.int p4), .val (.int p5), .val (.int (1 : Int32)), .val (.int ((((p5.toUInt32 >>> ((2 : Int32) &&& 31).toUInt32).toInt32) &&& (3 : Int32)) % (2 : Int32))), .val (.int (0 : Int32)), .val (.ref b35), .unset, .unset] []))
      refine Goes.step (fun _ k => XS.aload X37.here hx rfl (hb hby at_50) rfl rfl k) ?_
      show Goes _ _ _ _ _ _ _ (T37.setTop (mkF m 52 #[.val (.int p0), .val (.int p1), .val (.int p2), .val (.int p3), .val (.int p4), .val (.int p5), .val (.int (1 : Int32)), .val (.int ((((p5.toUInt32 >>> ((2 : Int32) &&& 31).toUInt32).toInt32) &&& (3 : Int32)) % (2 : Int32))), .val (.int (0 : Int32)), .val (.ref b35), .unset, .unset] [(.ref b35)]))
      refine Goes.step (fun _ k => XS.iloadN X37.here hx rfl (hb hby at_52) rfl  k) ?_
      show Goes _ _ _ _ _ _ _ (T37.setTop (mkF m 53 #[.val (.int p0), .val (.int p1), .val (.int p2), .val (.int p3), .val (.int p4), .val (.int p5), .val (.int (1 : Int32)), .val (.int ((((p5.toUInt32 >>> ((2 : Int32) &&& 31).toUInt32).toInt32) &&& (3 : Int32)) % (2 : Int32))), .val (.int (0 : Int32)), .val (.ref b35), .unset, .unset] [(.int p0), (.ref b35)]))
      refine Goes.step (fun _ k => XS.iloadN X37.here hx rfl (hb hby at_53) rfl  k) ?_
      show Goes _ _ _ _ _ _ _ (T37.setTop (mkF m 54 #[.val (.int p0), .val (.int p1), .val (.int p2), .val (.int p3), .val (.int p4), .val (.int p5), .val (.int (1 : Int32)), .val (.int ((((p5.toUInt32 >>> ((2 : Int32) &&& 31).toUInt32).toInt32) &&& (3 : Int32)) % (2 : Int32))), .val (.int (0 : Int32)), .val (.ref b35), .unset, .unset] [(.int p3), (.int p0), (.ref b35)]))
      refine Goes.step (fun _ k => XS.sipush X37.here hx rfl (hb hby at_54) k) ?_
      show Goes _ _ _ _ _ _ _ (T37.setTop (mkF m 57 #[.val (.int p0), .val (.int p1), .val (.int p2), .val (.int p3), .val (.int p4), .val (.int p5), .val (.int (1 : Int32)), .val (.int ((((p5.toUInt32 >>> ((2 : Int32) &&& 31).toUInt32).toInt32) &&& (3 : Int32)) % (2 : Int32))), .val (.int (0 : Int32)), .val (.ref b35), .unset, .unset] [(.int (255 : Int32)), (.int p3), (.int p0), (.ref b35)]))
      refine Goes.step (fun _ k => XS.iand X37.here hx rfl (hb hby at_57) rfl k) ?_
      show Goes _ _ _ _ _ _ _ (T37.setTop (mkF m 58 #[.val (.int p0), .val (.int p1), .val (.int p2), .val (.int p3), .val (.int p4), .val (.int p5), .val (.int (1 : Int32)), .val (.int ((((p5.toUInt32 >>> ((2 : Int32) &&& 31).toUInt32).toInt32) &&& (3 : Int32)) % (2 : Int32))), .val (.int (0 : Int32)), .val (.ref b35), .unset, .unset] [(.int (p3 &&& (255 : Int32))), (.int p0), (.ref b35)]))
      refine Goes.step (fun _ k => XS.i2dS X37.here hx rfl (hb hby at_58) rfl rfl k) ?_
      show Goes _ _ _ _ _ _ _ (T37.setTop (mkF m 59 #[.val (.int p0), .val (.int p1), .val (.int p2), .val (.int p3), .val (.int p4), .val (.int p5), .val (.int (1 : Int32)), .val (.int ((((p5.toUInt32 >>> ((2 : Int32) &&& 31).toUInt32).toInt32) &&& (3 : Int32)) % (2 : Int32))), .val (.int (0 : Int32)), .val (.ref b35), .unset, .unset] [(.double (FP.i2d (p3 &&& (255 : Int32)))), (.int p0), (.ref b35)]))
      obtain ⟨cq45, kq45, q45a, q45b, q45c⟩ := isOf hZ rfl v37_0_3
      obtain ⟨_, _, ⟨T45, L45, k45, n45⟩, -, X45, ⟨Lc45, hQ45, l45, y45, z45⟩, st45⟩ := X37.virtualBack hx (y := (⟨"com/example/hailwise/hailwise/NodeQueue", "add", "(ID)V"⟩ : MethodName)) (z := (⟨"com/example/hailwise/hailwise/NodeQueue", "add", "(ID)V"⟩ : MethodName)) hown (mvT hZ (hw _ (List.mem_of_getElem? (i := 15) rfl))) (mvT hZ (hw _ (List.mem_of_getElem? (i := 16) rfl))) (notFace_of_selects (args := #[]) (mvT hZ (hw _ (List.mem_of_getElem? (i := 18) rfl)))) (mvT hZ (hw _ (List.mem_of_getElem? (i := 18) rfl))) (mvT hZ (hw _ (List.mem_of_getElem? (i := 17) rfl))) (by decide) (backOf (W := 0) (rm3_0 l Z a0 hw [] b35 p0 (FP.i2d (p3 &&& (255 : Int32))) r37_0_0 r37_0_1 kk37_0_0 kk37_0_1 T37.heap n0 Z42 v37_0_0 v37_0_1 v37_0_2 v37_0_3 v37_0_4 v37_0_5 g_b35 g_r37_0_0 g_r37_0_1 ne43 ne44 (Ne.symm nn37_0_0)) hZ (hw _ (List.mem_of_getElem? (i := 19) rfl)) (hw _ (List.mem_of_getElem? (i := 2) rfl)) (by decide) (by decide)) q45a q45c (g := (mkF m 59 #[.val (.int p0), .val (.int p1), .val (.int p2), .val (.int p3), .val (.int p4), .val (.int p5), .val (.int (1 : Int32)), .val (.int ((((p5.toUInt32 >>> ((2 : Int32) &&& 31).toUInt32).toInt32) &&& (3 : Int32)) % (2 : Int32))), .val (.int (0 : Int32)), .val (.ref b35), .unset, .unset] [(.double (FP.i2d (p3 &&& (255 : Int32)))), (.int p0), (.ref b35)])) rfl (by rw [hml]; rfl) (Steps.refl _) (argsL := [(.int p0), (.double (FP.i2d (p3 &&& (255 : Int32))))]) (rest := []) (lenOf pd_1 rfl) rfl (by show 2 * 0 + _ ≤ _; exact Nat.le_of_eq rfl) (hb hby at_59) (fun _ _ => ⟨rfl, rfl, (by decide : 3 + 0 ≤ _), (by decide : 131 + 0 ≤ _)⟩)
      dsimp only [Pt.U, Pt.locs, Pt.cells, Pt.slots] at X45 l45 y45 z45 st45 hQ45
      subst l45 y45 z45
      obtain ⟨N45, KK45, hR45⟩ := hQ45
      have NA45 := Fr.app NA37 N45
      have f46 := v37_0_3.keep KK45
      have K52 : Keep h0 T45.heap [] := K42.trans KK45 (allS (Or.inr sz_b35) (allS (Or.inr sz_r37_0_0) (allS (Or.inr sz_r37_0_1) all0)))
      have Z52 : n0 ≤ T45.heap.size := Nat.le_trans Z42 KK45.1
      obtain ⟨rfl, v45_0_0, v45_0_1, v45_0_2, v45_0_3, v45_0_4, v45_0_5⟩ := hR45
      refine Goes.back st45 ?_
      show Goes _ _ _ _ _ _ _ (T45.setTop (mkF m 62 #[.val (.int p0), .val (.int p1), .val (.int p2), .val (.int p3), .val (.int p4), .val (.int p5), .val (.int (1 : Int32)), .val (.int ((((p5.toUInt32 >>> ((2 : Int32) &&& 31).toUInt32).toInt32) &&& (3 : Int32)) % (2 : Int32))), .val (.int (0 : Int32)), .val (.ref b35), .unset, .unset] []))
      refine Goes.step (fun _ k => XS.iload X45.here hx rfl (hb hby at_62) rfl  k) ?_
      show Goes _ _ _ _ _ _ _ (T45.setTop (mkF m 64 #[.val (.int p0), .val (.int p1), .val (.int p2), .val (.int p3), .val (.int p4), .val (.int p5), .val (.int (1 : Int32)), .val (.int ((((p5.toUInt32 >>> ((2 : Int32) &&& 31).toUInt32).toInt32) &&& (3 : Int32)) % (2 : Int32))), .val (.int (0 : Int32)), .val (.ref b35), .unset, .unset] [(.int (1 : Int32))]))
      refine Goes.step (fun _ k => XS.iconst X45.here hx rfl (hb hby at_64) k) ?_
      show Goes _ _ _ _ _ _ _ (T45.setTop (mkF m 65 #[.val (.int p0), .val (.int p1), .val (.int p2), .val (.int p3), .val (.int p4), .val (.int p5), .val (.int (1 : Int32)), .val (.int ((((p5.toUInt32 >>> ((2 : Int32) &&& 31).toUInt32).toInt32) &&& (3 : Int32)) % (2 : Int32))), .val (.int (0 : Int32)), .val (.ref b35), .unset, .unset] [(.int (2 : Int32)), (.int (1 : Int32))]))
      refine Goes.step (fun _ k => XS.icmpYes X45.here hx rfl (pc0 := 65) (pc' := 81) rfl (hb hby at_65) rfl (tlt (by decide : (1 : Int32) < (2 : Int32))).1 (by decide) (by decide) k) ?_
      show Goes _ _ _ _ _ _ _ (T45.setTop (mkF m 81 #[.val (.int p0), .val (.int p1), .val (.int p2), .val (.int p3), .val (.int p4), .val (.int p5), .val (.int (1 : Int32)), .val (.int ((((p5.toUInt32 >>> ((2 : Int32) &&& 31).toUInt32).toInt32) &&& (3 : Int32)) % (2 : Int32))), .val (.int (0 : Int32)), .val (.ref b35), .unset, .unset] []))
      refine Goes.step (fun _ k => XS.iload X45.here hx rfl (hb hby at_81) rfl  k) ?_
      show Goes _ _ _ _ _ _ _ (T45.setTop (mkF m 83 #[.val (.int p0), .val (.int p1), .val (.int p2), .val (.int p3), .val (.int p4), .val (.int p5), .val (.int (1 : Int32)), .val (.int ((((p5.toUInt32 >>> ((2 : Int32) &&& 31).toUInt32).toInt32) &&& (3 : Int32)) % (2 : Int32))), .val (.int (0 : Int32)), .val (.ref b35), .unset, .unset] [(.int (1 : Int32))]))
      refine Goes.step (fun _ k => XS.iconst X45.here hx rfl (hb hby at_83) k) ?_
      show Goes _ _ _ _ _ _ _ (T45.setTop (mkF m 84 #[.val (.int p0), .val (.int p1), .val (.int p2), .val (.int p3), .val (.int p4), .val (.int p5), .val (.int (1 : Int32)), .val (.int ((((p5.toUInt32 >>> ((2 : Int32) &&& 31).toUInt32).toInt32) &&& (3 : Int32)) % (2 : Int32))), .val (.int (0 : Int32)), .val (.ref b35), .unset, .unset] [(.int (3 : Int32)), (.int (1 : Int32))]))
      refine Goes.step (fun _ k => XS.icmpYes X45.here hx rfl (pc0 := 84) (pc' := 102) rfl (hb hby at_84) rfl (tlt (by decide : (1 : Int32) < (3 : Int32))).1 (by decide) (by decide) k) ?_
      show Goes _ _ _ _ _ _ _ (T45.setTop (mkF m 102 #[.val (.int p0), .val (.int p1), .val (.int p2), .val (.int p3), .val (.int p4), .val (.int p5), .val (.int (1 : Int32)), .val (.int ((((p5.toUInt32 >>> ((2 : Int32) &&& 31).toUInt32).toInt32) &&& (3 : Int32)) % (2 : Int32))), .val (.int (0 : Int32)), .val (.ref b35), .unset, .unset] []))
      refine Goes.step (fun _ k => XS.aload X45.here hx rfl (hb hby at_102) rfl rfl k) ?_
      show Goes _ _ _ _ _ _ _ (T45.setTop (mkF m 104 #[.val (.int p0), .val (.int p1), .val (.int p2), .val (.int p3), .val (.int p4), .val (.int p5), .val (.int (1 : Int32)), .val (.int ((((p5.toUInt32 >>> ((2 : Int32) &&& 31).toUInt32).toInt32) &&& (3 : Int32)) % (2 : Int32))), .val (.int (0 : Int32)), .val (.ref b35), .unset, .unset] [(.ref b35)]))
      obtain ⟨cq53, kq53, q53a, q53b, q53c⟩ := isOf hZ rfl v45_0_3
      obtain ⟨_, _, ⟨T53, L53, k53, n53⟩, -, X53, ⟨Lc53, hQ53, l53, y53, z53⟩, st53⟩ := X45.virtualBack hx (y := (⟨"com/example/hailwise/hailwise/NodeQueue", "isEmpty", "()Z"⟩ : MethodName)) (z := (⟨"com/example/hailwise/hailwise/NodeQueue", "isEmpty", "()Z"⟩ : MethodName)) hown (mvT hZ (hw _ (List.mem_of_getElem? (i := 22) rfl))) (mvT hZ (hw _ (List.mem_of_getElem? (i := 23) rfl))) (notFace_of_selects (args := #[]) (mvT hZ (hw _ (List.mem_of_getElem? (i := 25) rfl)))) (mvT hZ (hw _ (List.mem_of_getElem? (i := 25) rfl))) (mvT hZ (hw _ (List.mem_of_getElem? (i := 24) rfl))) (by decide) (backOf (W := 0) (rm4 l Z a0 hw [] b35 (1 : Int32) T45.heap n0 Z52 v45_0_2) hZ (hw _ (List.mem_of_getElem? (i := 26) rfl)) (hw _ (List.mem_of_getElem? (i := 2) rfl)) (by decide) (by decide)) q53a q53c (g := (mkF m 104 #[.val (.int p0), .val (.int p1), .val (.int p2), .val (.int p3), .val (.int p4), .val (.int p5), .val (.int (1 : Int32)), .val (.int ((((p5.toUInt32 >>> ((2 : Int32) &&& 31).toUInt32).toInt32) &&& (3 : Int32)) % (2 : Int32))), .val (.int (0 : Int32)), .val (.ref b35), .unset, .unset] [(.ref b35)])) rfl (by rw [hml]; rfl) (Steps.refl _) (argsL := []) (rest := []) (lenOf pd_2 rfl) rfl (by show 2 * 0 + _ ≤ _; exact Nat.le_of_eq rfl) (hb hby at_104) (fun _ _ => ⟨rfl, rfl, (by decide : 3 + 0 ≤ _), (by decide : 131 + 0 ≤ _)⟩)
      dsimp only [Pt.U, Pt.locs, Pt.cells, Pt.slots] at X53 l53 y53 z53 st53 hQ53
      subst l53 y53 z53
      obtain ⟨N53, eh53, hR53⟩ := hQ53
      have NA53 := Fr.app NA45 N53
      rcases hR53 with ⟨rfl, u53_0_0⟩ | ⟨rfl, u53_1_0⟩
      · exact absurd u53_0_0 (by decide : ¬ ((1 : Int32) = (0 : Int32)))
      · refine Goes.back st53 ?_
        show Goes _ _ _ _ _ _ _ (T53.setTop (mkF m 107 #[.val (.int p0), .val (.int p1), .val (.int p2), .val (.int p3), .val (.int p4), .val (.int p5), .val (.int (1 : Int32)), .val (.int ((((p5.toUInt32 >>> ((2 : Int32) &&& 31).toUInt32).toInt32) &&& (3 : Int32)) % (2 : Int32))), .val (.int (0 : Int32)), .val (.ref b35), .unset, .unset] [(.int (0 : Int32))]))
        refine Goes.step (fun _ k => XS.iload X53.here hx rfl (hb hby at_107) rfl  k) ?_
        show Goes _ _ _ _ _ _ _ (T53.setTop (mkF m 109 #[.val (.int p0), .val (.int p1), .val (.int p2), .val (.int p3), .val (.int p4), .val (.int p5), .val (.int (1 : Int32)), .val (.int ((((p5.toUInt32 >>> ((2 : Int32) &&& 31).toUInt32).toInt32) &&& (3 : Int32)) % (2 : Int32))), .val (.int (0 : Int32)), .val (.ref b35), .unset, .unset] [(.int (1 : Int32)), (.int (0 : Int32))]))
        refine Goes.step (fun _ k => XS.ifYes X53.here hx rfl (pc0 := 109) (pc' := 116) rfl (hb hby at_109) rfl ((if0 _ _).trans (feq (by decide : ¬ ((1 : Int32) = (0 : Int32)))).2) (by decide) (by decide) k) ?_
        show Goes _ _ _ _ _ _ _ (T53.setTop (mkF m 116 #[.val (.int p0), .val (.int p1), .val (.int p2), .val (.int p3), .val (.int p4), .val (.int p5), .val (.int (1 : Int32)), .val (.int ((((p5.toUInt32 >>> ((2 : Int32) &&& 31).toUInt32).toInt32) &&& (3 : Int32)) % (2 : Int32))), .val (.int (0 : Int32)), .val (.ref b35), .unset, .unset] [(.int (0 : Int32))]))
        refine Goes.step (fun _ k => XS.iconst X53.here hx rfl (hb hby at_116) k) ?_
        show Goes _ _ _ _ _ _ _ (T53.setTop (mkF m 117 #[.val (.int p0), .val (.int p1), .val (.int p2), .val (.int p3), .val (.int p4), .val (.int p5), .val (.int (1 : Int32)), .val (.int ((((p5.toUInt32 >>> ((2 : Int32) &&& 31).toUInt32).toInt32) &&& (3 : Int32)) % (2 : Int32))), .val (.int (0 : Int32)), .val (.ref b35), .unset, .unset] [(.int (0 : Int32)), (.int (0 : Int32))]))
        refine Goes.step (fun _ k => XS.icmpNo X53.here hx rfl (hb hby at_117) rfl (teq (by decide : (0 : Int32) = (0 : Int32))).2 k) ?_
        show Goes _ _ _ _ _ _ _ (T53.setTop (mkF m 120 #[.val (.int p0), .val (.int p1), .val (.int p2), .val (.int p3), .val (.int p4), .val (.int p5), .val (.int (1 : Int32)), .val (.int ((((p5.toUInt32 >>> ((2 : Int32) &&& 31).toUInt32).toInt32) &&& (3 : Int32)) % (2 : Int32))), .val (.int (0 : Int32)), .val (.ref b35), .unset, .unset] []))
        refine Goes.step (fun _ k => XS.iconst X53.here hx rfl (hb hby at_120) k) ?_
        show Goes _ _ _ _ _ _ _ (T53.setTop (mkF m 121 #[.val (.int p0), .val (.int p1), .val (.int p2), .val (.int p3), .val (.int p4), .val (.int p5), .val (.int (1 : Int32)), .val (.int ((((p5.toUInt32 >>> ((2 : Int32) &&& 31).toUInt32).toInt32) &&& (3 : Int32)) % (2 : Int32))), .val (.int (0 : Int32)), .val (.ref b35), .unset, .unset] [(.int (1 : Int32))]))
        refine Goes.step (fun _ k => XS.goto X53.here hx rfl (pc0 := 121) (pc' := 125) rfl (hb hby at_121) (by decide) (by decide) k) ?_
        show Goes _ _ _ _ _ _ _ (T53.setTop (mkF m 125 #[.val (.int p0), .val (.int p1), .val (.int p2), .val (.int p3), .val (.int p4), .val (.int p5), .val (.int (1 : Int32)), .val (.int ((((p5.toUInt32 >>> ((2 : Int32) &&& 31).toUInt32).toInt32) &&& (3 : Int32)) % (2 : Int32))), .val (.int (0 : Int32)), .val (.ref b35), .unset, .unset] [(.int (1 : Int32))]))
        refine Goes.step (fun _ k => XS.istore X53.here hx rfl (hb hby at_125) rfl (l' := #[.val (.int p0), .val (.int p1), .val (.int p2), .val (.int p3), .val (.int p4), .val (.int p5), .val (.int (1 : Int32)), .val (.int ((((p5.toUInt32 >>> ((2 : Int32) &&& 31).toUInt32).toInt32) &&& (3 : Int32)) % (2 : Int32))), .val (.int (0 : Int32)), .val (.ref b35), .val (.int (1 : Int32)), .unset]) rfl k) ?_
        show Goes _ _ _ _ _ _ _ (T53.setTop (mkF m 127 #[.val (.int p0), .val (.int p1), .val (.int p2), .val (.int p3), .val (.int p4), .val (.int p5), .val (.int (1 : Int32)), .val (.int ((((p5.toUInt32 >>> ((2 : Int32) &&& 31).toUInt32).toInt32) &&& (3 : Int32)) % (2 : Int32))), .val (.int (0 : Int32)), .val (.ref b35), .val (.int (1 : Int32)), .unset] []))
        generalize hg_m7 : ((((p5.toUInt32 >>> ((2 : Int32) &&& 31).toUInt32).toInt32) &&& (3 : Int32)) % (2 : Int32)) = m7
        show Goes _ _ _ _ _ _ _ (T53.setTop (mkF m 127 #[.val (.int p0), .val (.int p1), .val (.int p2), .val (.int p3), .val (.int p4), .val (.int p5), .val (.int (1 : Int32)), .val (.int m7), .val (.int (0 : Int32)), .val (.ref b35), .val (.int (1 : Int32)), .unset] []))
        rcases own_m2 hg_m7 with rfl | rfl
        · show Goes _ _ _ _ _ _ _ (T53.setTop (mkF m 127 #[.val (.int p0), .val (.int p1), .val (.int p2), .val (.int p3), .val (.int p4), .val (.int p5), .val (.int (1 : Int32)), .val (.int (0 : Int32)), .val (.int (0 : Int32)), .val (.ref b35), .val (.int (1 : Int32)), .unset] []))
          refine Goes.step (fun _ k => XS.iload X53.here hx rfl (hb hby at_127) rfl  k) ?_
          show Goes _ _ _ _ _ _ _ (T53.setTop (mkF m 129 #[.val (.int p0), .val (.int p1), .val (.int p2), .val (.int p3), .val (.int p4), .val (.int p5), .val (.int (1 : Int32)), .val (.int (0 : Int32)), .val (.int (0 : Int32)), .val (.ref b35), .val (.int (1 : Int32)), .unset] [(.int (0 : Int32))]))
          refine Goes.step (fun _ k => XS.iconst X53.here hx rfl (hb hby at_129) k) ?_
          show Goes _ _ _ _ _ _ _ (T53.setTop (mkF m 130 #[.val (.int p0), .val (.int p1), .val (.int p2), .val (.int p3), .val (.int p4), .val (.int p5), .val (.int (1 : Int32)), .val (.int (0 : Int32)), .val (.int (0 : Int32)), .val (.ref b35), .val (.int (1 : Int32)), .unset] [(.int (1 : Int32)), (.int (0 : Int32))]))
          refine Goes.step (fun _ k => XS.icmpYes X53.here hx rfl (pc0 := 130) (pc' := 139) rfl (hb hby at_130) rfl (tlt (by decide : (0 : Int32) < (1 : Int32))).1 (by decide) (by decide) k) ?_
          show Goes _ _ _ _ _ _ _ (T53.setTop (mkF m 139 #[.val (.int p0), .val (.int p1), .val (.int p2), .val (.int p3), .val (.int p4), .val (.int p5), .val (.int (1 : Int32)), .val (.int (0 : Int32)), .val (.int (0 : Int32)), .val (.ref b35), .val (.int (1 : Int32)), .unset] []))
          refine Goes.step (fun _ k => XS.iload X53.here hx rfl (hb hby at_139) rfl  k) ?_
          show Goes _ _ _ _ _ _ _ (T53.setTop (mkF m 141 #[.val (.int p0), .val (.int p1), .val (.int p2), .val (.int p3), .val (.int p4), .val (.int p5), .val (.int (1 : Int32)), .val (.int (0 : Int32)), .val (.int (0 : Int32)), .val (.ref b35), .val (.int (1 : Int32)), .unset] [(.int (0 : Int32))]))
          refine Goes.step (fun _ k => XS.iconst X53.here hx rfl (hb hby at_141) k) ?_
          show Goes _ _ _ _ _ _ _ (T53.setTop (mkF m 142 #[.val (.int p0), .val (.int p1), .val (.int p2), .val (.int p3), .val (.int p4), .val (.int p5), .val (.int (1 : Int32)), .val (.int (0 : Int32)), .val (.int (0 : Int32)), .val (.ref b35), .val (.int (1 : Int32)), .unset] [(.int (2 : Int32)), (.int (0 : Int32))]))
          refine Goes.step (fun _ k => XS.icmpYes X53.here hx rfl (pc0 := 142) (pc' := 151) rfl (hb hby at_142) rfl (tlt (by decide : (0 : Int32) < (2 : Int32))).1 (by decide) (by decide) k) ?_
          show Goes _ _ _ _ _ _ _ (T53.setTop (mkF m 151 #[.val (.int p0), .val (.int p1), .val (.int p2), .val (.int p3), .val (.int p4), .val (.int p5), .val (.int (1 : Int32)), .val (.int (0 : Int32)), .val (.int (0 : Int32)), .val (.ref b35), .val (.int (1 : Int32)), .unset] []))
          refine Goes.step (fun _ k => XS.iload X53.here hx rfl (hb hby at_151) rfl  k) ?_
          show Goes _ _ _ _ _ _ _ (T53.setTop (mkF m 153 #[.val (.int p0), .val (.int p1), .val (.int p2), .val (.int p3), .val (.int p4), .val (.int p5), .val (.int (1 : Int32)), .val (.int (0 : Int32)), .val (.int (0 : Int32)), .val (.ref b35), .val (.int (1 : Int32)), .unset] [(.int (0 : Int32))]))
          refine Goes.step (fun _ k => XS.iconst X53.here hx rfl (hb hby at_153) k) ?_
          show Goes _ _ _ _ _ _ _ (T53.setTop (mkF m 154 #[.val (.int p0), .val (.int p1), .val (.int p2), .val (.int p3), .val (.int p4), .val (.int p5), .val (.int (1 : Int32)), .val (.int (0 : Int32)), .val (.int (0 : Int32)), .val (.ref b35), .val (.int (1 : Int32)), .unset] [(.int (3 : Int32)), (.int (0 : Int32))]))
          refine Goes.step (fun _ k => XS.icmpYes X53.here hx rfl (pc0 := 154) (pc' := 163) rfl (hb hby at_154) rfl (tlt (by decide : (0 : Int32) < (3 : Int32))).1 (by decide) (by decide) k) ?_
          show Goes _ _ _ _ _ _ _ (T53.setTop (mkF m 163 #[.val (.int p0), .val (.int p1), .val (.int p2), .val (.int p3), .val (.int p4), .val (.int p5), .val (.int (1 : Int32)), .val (.int (0 : Int32)), .val (.int (0 : Int32)), .val (.ref b35), .val (.int (1 : Int32)), .unset] []))
          refine Goes.step (fun _ k => XS.iload X53.here hx rfl (hb hby at_163) rfl  k) ?_
          show Goes _ _ _ _ _ _ _ (T53.setTop (mkF m 165 #[.val (.int p0), .val (.int p1), .val (.int p2), .val (.int p3), .val (.int p4), .val (.int p5), .val (.int (1 : Int32)), .val (.int (0 : Int32)), .val (.int (0 : Int32)), .val (.ref b35), .val (.int (1 : Int32)), .unset] [(.int (0 : Int32))]))
          refine Goes.step (fun _ k => XS.ifYes X53.here hx rfl (pc0 := 165) (pc' := 173) rfl (hb hby at_165) rfl ((if0 _ _).trans (teq (by decide : (0 : Int32) = (0 : Int32))).1) (by decide) (by decide) k) ?_
          show Goes _ _ _ _ _ _ _ (T53.setTop (mkF m 173 #[.val (.int p0), .val (.int p1), .val (.int p2), .val (.int p3), .val (.int p4), .val (.int p5), .val (.int (1 : Int32)), .val (.int (0 : Int32)), .val (.int (0 : Int32)), .val (.ref b35), .val (.int (1 : Int32)), .unset] []))
          refine Goes.step (fun _ k => XS.iload X53.here hx rfl (hb hby at_173) rfl  k) ?_
          show Goes _ _ _ _ _ _ _ (T53.setTop (mkF m 175 #[.val (.int p0), .val (.int p1), .val (.int p2), .val (.int p3), .val (.int p4), .val (.int p5), .val (.int (1 : Int32)), .val (.int (0 : Int32)), .val (.int (0 : Int32)), .val (.ref b35), .val (.int (1 : Int32)), .unset] [(.int (0 : Int32))]))
          refine Goes.step (fun _ k => XS.ifNo X53.here hx rfl (hb hby at_175) rfl ((if0 _ _).trans (teq (by decide : (0 : Int32) = (0 : Int32))).2) k) ?_
          show Goes _ _ _ _ _ _ _ (T53.setTop (mkF m 178 #[.val (.int p0), .val (.int p1), .val (.int p2), .val (.int p3), .val (.int p4), .val (.int p5), .val (.int (1 : Int32)), .val (.int (0 : Int32)), .val (.int (0 : Int32)), .val (.ref b35), .val (.int (1 : Int32)), .unset] []))
          refine Goes.step (fun _ k => XS.iload X53.here hx rfl (hb hby at_178) rfl  k) ?_
          show Goes _ _ _ _ _ _ _ (T53.setTop (mkF m 180 #[.val (.int p0), .val (.int p1), .val (.int p2), .val (.int p3), .val (.int p4), .val (.int p5), .val (.int (1 : Int32)), .val (.int (0 : Int32)), .val (.int (0 : Int32)), .val (.ref b35), .val (.int (1 : Int32)), .unset] [(.int (1 : Int32))]))
          refine Goes.step (fun _ k => XS.iload X53.here hx rfl (hb hby at_180) rfl  k) ?_
          show Goes _ _ _ _ _ _ _ (T53.setTop (mkF m 182 #[.val (.int p0), .val (.int p1), .val (.int p2), .val (.int p3), .val (.int p4), .val (.int p5), .val (.int (1 : Int32)), .val (.int (0 : Int32)), .val (.int (0 : Int32)), .val (.ref b35), .val (.int (1 : Int32)), .unset] [(.int (0 : Int32)), (.int (1 : Int32))]))
          refine Goes.step (fun _ k => XS.icmpYes X53.here hx rfl (pc0 := 182) (pc' := 189) rfl (hb hby at_182) rfl (feq (by decide : ¬ ((1 : Int32) = (0 : Int32)))).2 (by decide) (by decide) k) ?_
          show Goes _ _ _ _ _ _ _ (T53.setTop (mkF m 189 #[.val (.int p0), .val (.int p1), .val (.int p2), .val (.int p3), .val (.int p4), .val (.int p5), .val (.int (1 : Int32)), .val (.int (0 : Int32)), .val (.int (0 : Int32)), .val (.ref b35), .val (.int (1 : Int32)), .unset] []))
          refine Goes.step (fun _ k => XS.iconst X53.here hx rfl (hb hby at_189) k) ?_
          show Goes _ _ _ _ _ _ _ (T53.setTop (mkF m 190 #[.val (.int p0), .val (.int p1), .val (.int p2), .val (.int p3), .val (.int p4), .val (.int p5), .val (.int (1 : Int32)), .val (.int (0 : Int32)), .val (.int (0 : Int32)), .val (.ref b35), .val (.int (1 : Int32)), .unset] [(.int (0 : Int32))]))
          refine Goes.step (fun _ k => XS.istore X53.here hx rfl (hb hby at_190) rfl (l' := #[.val (.int p0), .val (.int p1), .val (.int p2), .val (.int p3), .val (.int p4), .val (.int p5), .val (.int (1 : Int32)), .val (.int (0 : Int32)), .val (.int (0 : Int32)), .val (.ref b35), .val (.int (1 : Int32)), .val (.int (0 : Int32))]) rfl k) ?_
          show Goes _ _ _ _ _ _ _ (T53.setTop (mkF m 192 #[.val (.int p0), .val (.int p1), .val (.int p2), .val (.int p3), .val (.int p4), .val (.int p5), .val (.int (1 : Int32)), .val (.int (0 : Int32)), .val (.int (0 : Int32)), .val (.ref b35), .val (.int (1 : Int32)), .val (.int (0 : Int32))] []))
          refine Goes.step (fun _ k => XS.iload X53.here hx rfl (hb hby at_192) rfl  k) ?_
          show Goes _ _ _ _ _ _ _ (T53.setTop (mkF m 194 #[.val (.int p0), .val (.int p1), .val (.int p2), .val (.int p3), .val (.int p4), .val (.int p5), .val (.int (1 : Int32)), .val (.int (0 : Int32)), .val (.int (0 : Int32)), .val (.ref b35), .val (.int (1 : Int32)), .val (.int (0 : Int32))] [(.int (1 : Int32))]))
          refine Goes.step (fun _ k => XS.ifNo X53.here hx rfl (hb hby at_194) rfl ((if0 _ _).trans (feq (by decide : ¬ ((1 : Int32) = (0 : Int32)))).1) k) ?_
          show Goes _ _ _ _ _ _ _ (T53.setTop (mkF m 197 #[.val (.int p0), .val (.int p1), .val (.int p2), .val (.int p3), .val (.int p4), .val (.int p5), .val (.int (1 : Int32)), .val (.int (0 : Int32)), .val (.int (0 : Int32)), .val (.ref b35), .val (.int (1 : Int32)), .val (.int (0 : Int32))] []))
          refine Goes.step (fun _ k => XS.aload X53.here hx rfl (hb hby at_197) rfl rfl k) ?_
          show Goes _ _ _ _ _ _ _ (T53.setTop (mkF m 199 #[.val (.int p0), .val (.int p1), .val (.int p2), .val (.int p3), .val (.int p4), .val (.int p5), .val (.int (1 : Int32)), .val (.int (0 : Int32)), .val (.int (0 : Int32)), .val (.ref b35), .val (.int (1 : Int32)), .val (.int (0 : Int32))] [(.ref b35)]))
          obtain ⟨cq54, kq54, q54a, q54b, q54c⟩ := isOf hZ eh53 v45_0_3
          obtain ⟨_, _, ⟨T54, L54, k54, n54⟩, -, X54, ⟨Lc54, hQ54, l54, y54, z54⟩, st54⟩ := X53.virtualBack hx (y := (⟨"com/example/hailwise/hailwise/NodeQueue", "isEmpty", "()Z"⟩ : MethodName)) (z := (⟨"com/example/hailwise/hailwise/NodeQueue", "isEmpty", "()Z"⟩ : MethodName)) hown (mvT hZ (hw _ (List.mem_of_getElem? (i := 22) rfl))) (mvT hZ (hw _ (List.mem_of_getElem? (i := 23) rfl))) (notFace_of_selects (args := #[]) (mvT hZ (hw _ (List.mem_of_getElem? (i := 25) rfl)))) (mvT hZ (hw _ (List.mem_of_getElem? (i := 25) rfl))) (mvT hZ (hw _ (List.mem_of_getElem? (i := 24) rfl))) (by decide) (backOf (W := 0) (rm4 l Z a0 hw [] b35 (1 : Int32) T45.heap n0 Z52 v45_0_2) hZ (hw _ (List.mem_of_getElem? (i := 26) rfl)) (hw _ (List.mem_of_getElem? (i := 2) rfl)) (by decide) (by decide)) q54a q54c (g := (mkF m 199 #[.val (.int p0), .val (.int p1), .val (.int p2), .val (.int p3), .val (.int p4), .val (.int p5), .val (.int (1 : Int32)), .val (.int (0 : Int32)), .val (.int (0 : Int32)), .val (.ref b35), .val (.int (1 : Int32)), .val (.int (0 : Int32))] [(.ref b35)])) rfl (by rw [hml]; rfl) (Steps.refl _) (argsL := []) (rest := []) (lenOf pd_2 rfl) rfl (by show 2 * 0 + _ ≤ _; exact Nat.le_of_eq rfl) (hb hby at_199) (fun _ _ => ⟨rfl, eh53, (by decide : 3 + 0 ≤ _), (by decide : 131 + 0 ≤ _)⟩)
          dsimp only [Pt.U, Pt.locs, Pt.cells, Pt.slots] at X54 l54 y54 z54 st54 hQ54
          subst l54 y54 z54
          obtain ⟨N54, eh54, hR54⟩ := hQ54
          have NA54 := Fr.app NA53 N54
          rcases hR54 with ⟨rfl, u54_0_0⟩ | ⟨rfl, u54_1_0⟩
          · exact absurd u54_0_0 (by decide : ¬ ((1 : Int32) = (0 : Int32)))
          · refine Goes.back st54 ?_
            show Goes _ _ _ _ _ _ _ (T54.setTop (mkF m 202 #[.val (.int p0), .val (.int p1), .val (.int p2), .val (.int p3), .val (.int p4), .val (.int p5), .val (.int (1 : Int32)), .val (.int (0 : Int32)), .val (.int (0 : Int32)), .val (.ref b35), .val (.int (1 : Int32)), .val (.int (0 : Int32))] [(.int (0 : Int32))]))
            refine Goes.step (fun _ k => XS.iload X54.here hx rfl (hb hby at_202) rfl  k) ?_
            show Goes _ _ _ _ _ _ _ (T54.setTop (mkF m 204 #[.val (.int p0), .val (.int p1), .val (.int p2), .val (.int p3), .val (.int p4), .val (.int p5), .val (.int (1 : Int32)), .val (.int (0 : Int32)), .val (.int (0 : Int32)), .val (.ref b35), .val (.int (1 : Int32)), .val (.int (0 : Int32))] [(.int (0 : Int32)), (.int (0 : Int32))]))
            refine Goes.step (fun _ k => XS.icmpNo X54.here hx rfl (hb hby at_204) rfl (teq (by decide : (0 : Int32) = (0 : Int32))).2 k) ?_
            show Goes _ _ _ _ _ _ _ (T54.setTop (mkF m 207 #[.val (.int p0), .val (.int p1), .val (.int p2), .val (.int p3), .val (.int p4), .val (.int p5), .val (.int (1 : Int32)), .val (.int (0 : Int32)), .val (.int (0 : Int32)), .val (.ref b35), .val (.int (1 : Int32)), .val (.int (0 : Int32))] []))
            refine Goes.step (fun _ k => XS.iconst X54.here hx rfl (hb hby at_207) k) ?_
            show Goes _ _ _ _ _ _ _ (T54.setTop (mkF m 208 #[.val (.int p0), .val (.int p1), .val (.int p2), .val (.int p3), .val (.int p4), .val (.int p5), .val (.int (1 : Int32)), .val (.int (0 : Int32)), .val (.int (0 : Int32)), .val (.ref b35), .val (.int (1 : Int32)), .val (.int (0 : Int32))] [(.int (1 : Int32))]))
            refine Goes.step (fun _ k => XS.goto X54.here hx rfl (pc0 := 208) (pc' := 212) rfl (hb hby at_208) (by decide) (by decide) k) ?_
            show Goes _ _ _ _ _ _ _ (T54.setTop (mkF m 212 #[.val (.int p0), .val (.int p1), .val (.int p2), .val (.int p3), .val (.int p4), .val (.int p5), .val (.int (1 : Int32)), .val (.int (0 : Int32)), .val (.int (0 : Int32)), .val (.ref b35), .val (.int (1 : Int32)), .val (.int (0 : Int32))] [(.int (1 : Int32))]))
            refine Goes.step (fun _ k => XS.istore X54.here hx rfl (hb hby at_212) rfl (l' := #[.val (.int p0), .val (.int p1), .val (.int p2), .val (.int p3), .val (.int p4), .val (.int p5), .val (.int (1 : Int32)), .val (.int (0 : Int32)), .val (.int (0 : Int32)), .val (.ref b35), .val (.int (1 : Int32)), .val (.int (0 : Int32))]) rfl k) ?_
            show Goes _ _ _ _ _ _ _ (T54.setTop (mkF m 214 #[.val (.int p0), .val (.int p1), .val (.int p2), .val (.int p3), .val (.int p4), .val (.int p5), .val (.int (1 : Int32)), .val (.int (0 : Int32)), .val (.int (0 : Int32)), .val (.ref b35), .val (.int (1 : Int32)), .val (.int (0 : Int32))] []))
            refine Goes.step (fun _ k => XS.iload X54.here hx rfl (hb hby at_214) rfl  k) ?_
            show Goes _ _ _ _ _ _ _ (T54.setTop (mkF m 216 #[.val (.int p0), .val (.int p1), .val (.int p2), .val (.int p3), .val (.int p4), .val (.int p5), .val (.int (1 : Int32)), .val (.int (0 : Int32)), .val (.int (0 : Int32)), .val (.ref b35), .val (.int (1 : Int32)), .val (.int (0 : Int32))] [(.int (1 : Int32))]))
            exact Goes.ret X54 hx (BodyLoose.notSynchronized Bd) Bd.returns rfl (Or.inl ⟨rfl, by simp, _, rfl⟩) (hb hby at_216) (by show Q0 Z p0 p1 p2 p3 p4 p5 h0 n0 (some (.int (1 : Int32))) T54.heap _; rw [eh54]; exact ⟨rfl, NA54⟩) (by decide) (by decide)
        · show Goes _ _ _ _ _ _ _ (T53.setTop (mkF m 127 #[.val (.int p0), .val (.int p1), .val (.int p2), .val (.int p3), .val (.int p4), .val (.int p5), .val (.int (1 : Int32)), .val (.int (1 : Int32)), .val (.int (0 : Int32)), .val (.ref b35), .val (.int (1 : Int32)), .unset] []))
          refine Goes.step (fun _ k => XS.iload X53.here hx rfl (hb hby at_127) rfl  k) ?_
          show Goes _ _ _ _ _ _ _ (T53.setTop (mkF m 129 #[.val (.int p0), .val (.int p1), .val (.int p2), .val (.int p3), .val (.int p4), .val (.int p5), .val (.int (1 : Int32)), .val (.int (1 : Int32)), .val (.int (0 : Int32)), .val (.ref b35), .val (.int (1 : Int32)), .unset] [(.int (1 : Int32))]))
          refine Goes.step (fun _ k => XS.iconst X53.here hx rfl (hb hby at_129) k) ?_
          show Goes _ _ _ _ _ _ _ (T53.setTop (mkF m 130 #[.val (.int p0), .val (.int p1), .val (.int p2), .val (.int p3), .val (.int p4), .val (.int p5), .val (.int (1 : Int32)), .val (.int (1 : Int32)), .val (.int (0 : Int32)), .val (.ref b35), .val (.int (1 : Int32)), .unset] [(.int (1 : Int32)), (.int (1 : Int32))]))
          refine Goes.step (fun _ k => XS.icmpNo X53.here hx rfl (hb hby at_130) rfl (flt (by decide : ¬ ((1 : Int32) < (1 : Int32)))).1 k) ?_
          show Goes _ _ _ _ _ _ _ (T53.setTop (mkF m 133 #[.val (.int p0), .val (.int p1), .val (.int p2), .val (.int p3), .val (.int p4), .val (.int p5), .val (.int (1 : Int32)), .val (.int (1 : Int32)), .val (.int (0 : Int32)), .val (.ref b35), .val (.int (1 : Int32)), .unset] []))
          refine Goes.step (fun _ k => XS.aload X53.here hx rfl (hb hby at_133) rfl rfl k) ?_
          show Goes _ _ _ _ _ _ _ (T53.setTop (mkF m 135 #[.val (.int p0), .val (.int p1), .val (.int p2), .val (.int p3), .val (.int p4), .val (.int p5), .val (.int (1 : Int32)), .val (.int (1 : Int32)), .val (.int (0 : Int32)), .val (.ref b35), .val (.int (1 : Int32)), .unset] [(.ref b35)]))
          obtain ⟨cq55, kq55, q55a, q55b, q55c⟩ := isOf hZ eh53 v45_0_3
          obtain ⟨_, _, ⟨T55, L55, k55, n55⟩, -, X55, ⟨Lc55, hQ55, l55, y55, z55⟩, st55⟩ := X53.virtualBack hx (y := (⟨"com/example/hailwise/hailwise/NodeQueue", "poll", "()I"⟩ : MethodName)) (z := (⟨"com/example/hailwise/hailwise/NodeQueue", "poll", "()I"⟩ : MethodName)) hown (mvT hZ (hw _ (List.mem_of_getElem? (i := 27) rfl))) (mvT hZ (hw _ (List.mem_of_getElem? (i := 28) rfl))) (notFace_of_selects (args := #[]) (mvT hZ (hw _ (List.mem_of_getElem? (i := 30) rfl)))) (mvT hZ (hw _ (List.mem_of_getElem? (i := 30) rfl))) (mvT hZ (hw _ (List.mem_of_getElem? (i := 29) rfl))) (by decide) (backOf (W := 0) (rm5_1 l Z a0 hw [] b35 r37_0_0 r37_0_1 kk37_0_0 kk37_0_1 T45.heap n0 Z52 v45_0_0 v45_0_1 v45_0_2 v45_0_3 v45_0_4 v45_0_5 g_b35 g_r37_0_0 g_r37_0_1 ne43 ne44 (Ne.symm nn37_0_0)) hZ (hw _ (List.mem_of_getElem? (i := 31) rfl)) (hw _ (List.mem_of_getElem? (i := 2) rfl)) (by decide) (by decide)) q55a q55c (g := (mkF m 135 #[.val (.int p0), .val (.int p1), .val (.int p2), .val (.int p3), .val (.int p4), .val (.int p5), .val (.int (1 : Int32)), .val (.int (1 : Int32)), .val (.int (0 : Int32)), .val (.ref b35), .val (.int (1 : Int32)), .unset] [(.ref b35)])) rfl (by rw [hml]; rfl) (Steps.refl _) (argsL := []) (rest := []) (lenOf pd_3 rfl) rfl (by show 2 * 0 + _ ≤ _; exact Nat.le_of_eq rfl) (hb hby at_135) (fun _ _ => ⟨rfl, eh53, (by decide : 3 + 0 ≤ _), (by decide : 131 + 0 ≤ _)⟩)
          dsimp only [Pt.U, Pt.locs, Pt.cells, Pt.slots] at X55 l55 y55 z55 st55 hQ55
          subst l55 y55 z55
          obtain ⟨N55, KK55, hR55⟩ := hQ55
          have NA55 := Fr.app NA53 N55
          have f56 := v45_0_3.keep KK55
          have K62 : Keep h0 T55.heap [] := K52.trans KK55 (allS (Or.inr sz_b35) (allS (Or.inr sz_r37_0_0) (allS (Or.inr sz_r37_0_1) all0)))
          have Z62 : n0 ≤ T55.heap.size := Nat.le_trans Z52 KK55.1
          obtain ⟨rv55_0, rfl, v55_0_0, v55_0_1, v55_0_2, v55_0_3, v55_0_4, v55_0_5⟩ := hR55
          refine Goes.back st55 ?_
          show Goes _ _ _ _ _ _ _ (T55.setTop (mkF m 138 #[.val (.int p0), .val (.int p1), .val (.int p2), .val (.int p3), .val (.int p4), .val (.int p5), .val (.int (1 : Int32)), .val (.int (1 : Int32)), .val (.int (0 : Int32)), .val (.ref b35), .val (.int (1 : Int32)), .unset] [(.int rv55_0)]))
          refine Goes.step (fun _ k => XS.pop X55.here hx rfl (hb hby at_138) rfl rfl k) ?_
          show Goes _ _ _ _ _ _ _ (T55.setTop (mkF m 139 #[.val (.int p0), .val (.int p1), .val (.int p2), .val (.int p3), .val (.int p4), .val (.int p5), .val (.int (1 : Int32)), .val (.int (1 : Int32)), .val (.int (0 : Int32)), .val (.ref b35), .val (.int (1 : Int32)), .unset] []))
          refine Goes.step (fun _ k => XS.iload X55.here hx rfl (hb hby at_139) rfl  k) ?_
          show Goes _ _ _ _ _ _ _ (T55.setTop (mkF m 141 #[.val (.int p0), .val (.int p1), .val (.int p2), .val (.int p3), .val (.int p4), .val (.int p5), .val (.int (1 : Int32)), .val (.int (1 : Int32)), .val (.int (0 : Int32)), .val (.ref b35), .val (.int (1 : Int32)), .unset] [(.int (1 : Int32))]))
          refine Goes.step (fun _ k => XS.iconst X55.here hx rfl (hb hby at_141) k) ?_
          show Goes _ _ _ _ _ _ _ (T55.setTop (mkF m 142 #[.val (.int p0), .val (.int p1), .val (.int p2), .val (.int p3), .val (.int p4), .val (.int p5), .val (.int (1 : Int32)), .val (.int (1 : Int32)), .val (.int (0 : Int32)), .val (.ref b35), .val (.int (1 : Int32)), .unset] [(.int (2 : Int32)), (.int (1 : Int32))]))
          refine Goes.step (fun _ k => XS.icmpYes X55.here hx rfl (pc0 := 142) (pc' := 151) rfl (hb hby at_142) rfl (tlt (by decide : (1 : Int32) < (2 : Int32))).1 (by decide) (by decide) k) ?_
          show Goes _ _ _ _ _ _ _ (T55.setTop (mkF m 151 #[.val (.int p0), .val (.int p1), .val (.int p2), .val (.int p3), .val (.int p4), .val (.int p5), .val (.int (1 : Int32)), .val (.int (1 : Int32)), .val (.int (0 : Int32)), .val (.ref b35), .val (.int (1 : Int32)), .unset] []))
          refine Goes.step (fun _ k => XS.iload X55.here hx rfl (hb hby at_151) rfl  k) ?_
          show Goes _ _ _ _ _ _ _ (T55.setTop (mkF m 153 #[.val (.int p0), .val (.int p1), .val (.int p2), .val (.int p3), .val (.int p4), .val (.int p5), .val (.int (1 : Int32)), .val (.int (1 : Int32)), .val (.int (0 : Int32)), .val (.ref b35), .val (.int (1 : Int32)), .unset] [(.int (1 : Int32))]))
          refine Goes.step (fun _ k => XS.iconst X55.here hx rfl (hb hby at_153) k) ?_
          show Goes _ _ _ _ _ _ _ (T55.setTop (mkF m 154 #[.val (.int p0), .val (.int p1), .val (.int p2), .val (.int p3), .val (.int p4), .val (.int p5), .val (.int (1 : Int32)), .val (.int (1 : Int32)), .val (.int (0 : Int32)), .val (.ref b35), .val (.int (1 : Int32)), .unset] [(.int (3 : Int32)), (.int (1 : Int32))]))
          refine Goes.step (fun _ k => XS.icmpYes X55.here hx rfl (pc0 := 154) (pc' := 163) rfl (hb hby at_154) rfl (tlt (by decide : (1 : Int32) < (3 : Int32))).1 (by decide) (by decide) k) ?_
          show Goes _ _ _ _ _ _ _ (T55.setTop (mkF m 163 #[.val (.int p0), .val (.int p1), .val (.int p2), .val (.int p3), .val (.int p4), .val (.int p5), .val (.int (1 : Int32)), .val (.int (1 : Int32)), .val (.int (0 : Int32)), .val (.ref b35), .val (.int (1 : Int32)), .unset] []))
          refine Goes.step (fun _ k => XS.iload X55.here hx rfl (hb hby at_163) rfl  k) ?_
          show Goes _ _ _ _ _ _ _ (T55.setTop (mkF m 165 #[.val (.int p0), .val (.int p1), .val (.int p2), .val (.int p3), .val (.int p4), .val (.int p5), .val (.int (1 : Int32)), .val (.int (1 : Int32)), .val (.int (0 : Int32)), .val (.ref b35), .val (.int (1 : Int32)), .unset] [(.int (0 : Int32))]))
          refine Goes.step (fun _ k => XS.ifYes X55.here hx rfl (pc0 := 165) (pc' := 173) rfl (hb hby at_165) rfl ((if0 _ _).trans (teq (by decide : (0 : Int32) = (0 : Int32))).1) (by decide) (by decide) k) ?_
          show Goes _ _ _ _ _ _ _ (T55.setTop (mkF m 173 #[.val (.int p0), .val (.int p1), .val (.int p2), .val (.int p3), .val (.int p4), .val (.int p5), .val (.int (1 : Int32)), .val (.int (1 : Int32)), .val (.int (0 : Int32)), .val (.ref b35), .val (.int (1 : Int32)), .unset] []))
          refine Goes.step (fun _ k => XS.iload X55.here hx rfl (hb hby at_173) rfl  k) ?_
          show Goes _ _ _ _ _ _ _ (T55.setTop (mkF m 175 #[.val (.int p0), .val (.int p1), .val (.int p2), .val (.int p3), .val (.int p4), .val (.int p5), .val (.int (1 : Int32)), .val (.int (1 : Int32)), .val (.int (0 : Int32)), .val (.ref b35), .val (.int (1 : Int32)), .unset] [(.int (0 : Int32))]))
          refine Goes.step (fun _ k => XS.ifNo X55.here hx rfl (hb hby at_175) rfl ((if0 _ _).trans (teq (by decide : (0 : Int32) = (0 : Int32))).2) k) ?_
          show Goes _ _ _ _ _ _ _ (T55.setTop (mkF m 178 #[.val (.int p0), .val (.int p1), .val (.int p2), .val (.int p3), .val (.int p4), .val (.int p5), .val (.int (1 : Int32)), .val (.int (1 : Int32)), .val (.int (0 : Int32)), .val (.ref b35), .val (.int (1 : Int32)), .unset] []))
          refine Goes.step (fun _ k => XS.iload X55.here hx rfl (hb hby at_178) rfl  k) ?_
          show Goes _ _ _ _ _ _ _ (T55.setTop (mkF m 180 #[.val (.int p0), .val (.int p1), .val (.int p2), .val (.int p3), .val (.int p4), .val (.int p5), .val (.int (1 : Int32)), .val (.int (1 : Int32)), .val (.int (0 : Int32)), .val (.ref b35), .val (.int (1 : Int32)), .unset] [(.int (1 : Int32))]))
          refine Goes.step (fun _ k => XS.iload X55.here hx rfl (hb hby at_180) rfl  k) ?_
          show Goes _ _ _ _ _ _ _ (T55.setTop (mkF m 182 #[.val (.int p0), .val (.int p1), .val (.int p2), .val (.int p3), .val (.int p4), .val (.int p5), .val (.int (1 : Int32)), .val (.int (1 : Int32)), .val (.int (0 : Int32)), .val (.ref b35), .val (.int (1 : Int32)), .unset] [(.int (1 : Int32)), (.int (1 : Int32))]))
          refine Goes.step (fun _ k => XS.icmpNo X55.here hx rfl (hb hby at_182) rfl (teq (by decide : (1 : Int32) = (1 : Int32))).2 k) ?_
          show Goes _ _ _ _ _ _ _ (T55.setTop (mkF m 185 #[.val (.int p0), .val (.int p1), .val (.int p2), .val (.int p3), .val (.int p4), .val (.int p5), .val (.int (1 : Int32)), .val (.int (1 : Int32)), .val (.int (0 : Int32)), .val (.ref b35), .val (.int (1 : Int32)), .unset] []))
          refine Goes.step (fun _ k => XS.iconst X55.here hx rfl (hb hby at_185) k) ?_
          show Goes _ _ _ _ _ _ _ (T55.setTop (mkF m 186 #[.val (.int p0), .val (.int p1), .val (.int p2), .val (.int p3), .val (.int p4), .val (.int p5), .val (.int (1 : Int32)), .val (.int (1 : Int32)), .val (.int (0 : Int32)), .val (.ref b35), .val (.int (1 : Int32)), .unset] [(.int (1 : Int32))]))
          refine Goes.step (fun _ k => XS.goto X55.here hx rfl (pc0 := 186) (pc' := 190) rfl (hb hby at_186) (by decide) (by decide) k) ?_
          show Goes _ _ _ _ _ _ _ (T55.setTop (mkF m 190 #[.val (.int p0), .val (.int p1), .val (.int p2), .val (.int p3), .val (.int p4), .val (.int p5), .val (.int (1 : Int32)), .val (.int (1 : Int32)), .val (.int (0 : Int32)), .val (.ref b35), .val (.int (1 : Int32)), .unset] [(.int (1 : Int32))]))
          refine Goes.step (fun _ k => XS.istore X55.here hx rfl (hb hby at_190) rfl (l' := #[.val (.int p0), .val (.int p1), .val (.int p2), .val (.int p3), .val (.int p4), .val (.int p5), .val (.int (1 : Int32)), .val (.int (1 : Int32)), .val (.int (0 : Int32)), .val (.ref b35), .val (.int (1 : Int32)), .val (.int (1 : Int32))]) rfl k) ?_
          show Goes _ _ _ _ _ _ _ (T55.setTop (mkF m 192 #[.val (.int p0), .val (.int p1), .val (.int p2), .val (.int p3), .val (.int p4), .val (.int p5), .val (.int (1 : Int32)), .val (.int (1 : Int32)), .val (.int (0 : Int32)), .val (.ref b35), .val (.int (1 : Int32)), .val (.int (1 : Int32))] []))
          refine Goes.step (fun _ k => XS.iload X55.here hx rfl (hb hby at_192) rfl  k) ?_
          show Goes _ _ _ _ _ _ _ (T55.setTop (mkF m 194 #[.val (.int p0), .val (.int p1), .val (.int p2), .val (.int p3), .val (.int p4), .val (.int p5), .val (.int (1 : Int32)), .val (.int (1 : Int32)), .val (.int (0 : Int32)), .val (.ref b35), .val (.int (1 : Int32)), .val (.int (1 : Int32))] [(.int (1 : Int32))]))
          refine Goes.step (fun _ k => XS.ifNo X55.here hx rfl (hb hby at_194) rfl ((if0 _ _).trans (feq (by decide : ¬ ((1 : Int32) = (0 : Int32)))).1) k) ?_
          show Goes _ _ _ _ _ _ _ (T55.setTop (mkF m 197 #[.val (.int p0), .val (.int p1), .val (.int p2), .val (.int p3), .val (.int p4), .val (.int p5), .val (.int (1 : Int32)), .val (.int (1 : Int32)), .val (.int (0 : Int32)), .val (.ref b35), .val (.int (1 : Int32)), .val (.int (1 : Int32))] []))
          refine Goes.step (fun _ k => XS.aload X55.here hx rfl (hb hby at_197) rfl rfl k) ?_
          show Goes _ _ _ _ _ _ _ (T55.setTop (mkF m 199 #[.val (.int p0), .val (.int p1), .val (.int p2), .val (.int p3), .val (.int p4), .val (.int p5), .val (.int (1 : Int32)), .val (.int (1 : Int32)), .val (.int (0 : Int32)), .val (.ref b35), .val (.int (1 : Int32)), .val (.int (1 : Int32))] [(.ref b35)]))
          obtain ⟨cq63, kq63, q63a, q63b, q63c⟩ := isOf hZ rfl v55_0_3
          obtain ⟨_, _, ⟨T63, L63, k63, n63⟩, -, X63, ⟨Lc63, hQ63, l63, y63, z63⟩, st63⟩ := X55.virtualBack hx (y := (⟨"com/example/hailwise/hailwise/NodeQueue", "isEmpty", "()Z"⟩ : MethodName)) (z := (⟨"com/example/hailwise/hailwise/NodeQueue", "isEmpty", "()Z"⟩ : MethodName)) hown (mvT hZ (hw _ (List.mem_of_getElem? (i := 22) rfl))) (mvT hZ (hw _ (List.mem_of_getElem? (i := 23) rfl))) (notFace_of_selects (args := #[]) (mvT hZ (hw _ (List.mem_of_getElem? (i := 25) rfl)))) (mvT hZ (hw _ (List.mem_of_getElem? (i := 25) rfl))) (mvT hZ (hw _ (List.mem_of_getElem? (i := 24) rfl))) (by decide) (backOf (W := 0) (rm4 l Z a0 hw [] b35 (0 : Int32) T55.heap n0 Z62 v55_0_2) hZ (hw _ (List.mem_of_getElem? (i := 26) rfl)) (hw _ (List.mem_of_getElem? (i := 2) rfl)) (by decide) (by decide)) q63a q63c (g := (mkF m 199 #[.val (.int p0), .val (.int p1), .val (.int p2), .val (.int p3), .val (.int p4), .val (.int p5), .val (.int (1 : Int32)), .val (.int (1 : Int32)), .val (.int (0 : Int32)), .val (.ref b35), .val (.int (1 : Int32)), .val (.int (1 : Int32))] [(.ref b35)])) rfl (by rw [hml]; rfl) (Steps.refl _) (argsL := []) (rest := []) (lenOf pd_2 rfl) rfl (by show 2 * 0 + _ ≤ _; exact Nat.le_of_eq rfl) (hb hby at_199) (fun _ _ => ⟨rfl, rfl, (by decide : 3 + 0 ≤ _), (by decide : 131 + 0 ≤ _)⟩)
          dsimp only [Pt.U, Pt.locs, Pt.cells, Pt.slots] at X63 l63 y63 z63 st63 hQ63
          subst l63 y63 z63
          obtain ⟨N63, eh63, hR63⟩ := hQ63
          have NA63 := Fr.app NA55 N63
          rcases hR63 with ⟨rfl, u63_0_0⟩ | ⟨rfl, u63_1_0⟩
          · refine Goes.back st63 ?_
            show Goes _ _ _ _ _ _ _ (T63.setTop (mkF m 202 #[.val (.int p0), .val (.int p1), .val (.int p2), .val (.int p3), .val (.int p4), .val (.int p5), .val (.int (1 : Int32)), .val (.int (1 : Int32)), .val (.int (0 : Int32)), .val (.ref b35), .val (.int (1 : Int32)), .val (.int (1 : Int32))] [(.int (1 : Int32))]))
            refine Goes.step (fun _ k => XS.iload X63.here hx rfl (hb hby at_202) rfl  k) ?_
            show Goes _ _ _ _ _ _ _ (T63.setTop (mkF m 204 #[.val (.int p0), .val (.int p1), .val (.int p2), .val (.int p3), .val (.int p4), .val (.int p5), .val (.int (1 : Int32)), .val (.int (1 : Int32)), .val (.int (0 : Int32)), .val (.ref b35), .val (.int (1 : Int32)), .val (.int (1 : Int32))] [(.int (1 : Int32)), (.int (1 : Int32))]))
            refine Goes.step (fun _ k => XS.icmpNo X63.here hx rfl (hb hby at_204) rfl (teq (by decide : (1 : Int32) = (1 : Int32))).2 k) ?_
            show Goes _ _ _ _ _ _ _ (T63.setTop (mkF m 207 #[.val (.int p0), .val (.int p1), .val (.int p2), .val (.int p3), .val (.int p4), .val (.int p5), .val (.int (1 : Int32)), .val (.int (1 : Int32)), .val (.int (0 : Int32)), .val (.ref b35), .val (.int (1 : Int32)), .val (.int (1 : Int32))] []))
            refine Goes.step (fun _ k => XS.iconst X63.here hx rfl (hb hby at_207) k) ?_
            show Goes _ _ _ _ _ _ _ (T63.setTop (mkF m 208 #[.val (.int p0), .val (.int p1), .val (.int p2), .val (.int p3), .val (.int p4), .val (.int p5), .val (.int (1 : Int32)), .val (.int (1 : Int32)), .val (.int (0 : Int32)), .val (.ref b35), .val (.int (1 : Int32)), .val (.int (1 : Int32))] [(.int (1 : Int32))]))
            refine Goes.step (fun _ k => XS.goto X63.here hx rfl (pc0 := 208) (pc' := 212) rfl (hb hby at_208) (by decide) (by decide) k) ?_
            show Goes _ _ _ _ _ _ _ (T63.setTop (mkF m 212 #[.val (.int p0), .val (.int p1), .val (.int p2), .val (.int p3), .val (.int p4), .val (.int p5), .val (.int (1 : Int32)), .val (.int (1 : Int32)), .val (.int (0 : Int32)), .val (.ref b35), .val (.int (1 : Int32)), .val (.int (1 : Int32))] [(.int (1 : Int32))]))
            refine Goes.step (fun _ k => XS.istore X63.here hx rfl (hb hby at_212) rfl (l' := #[.val (.int p0), .val (.int p1), .val (.int p2), .val (.int p3), .val (.int p4), .val (.int p5), .val (.int (1 : Int32)), .val (.int (1 : Int32)), .val (.int (0 : Int32)), .val (.ref b35), .val (.int (1 : Int32)), .val (.int (1 : Int32))]) rfl k) ?_
            show Goes _ _ _ _ _ _ _ (T63.setTop (mkF m 214 #[.val (.int p0), .val (.int p1), .val (.int p2), .val (.int p3), .val (.int p4), .val (.int p5), .val (.int (1 : Int32)), .val (.int (1 : Int32)), .val (.int (0 : Int32)), .val (.ref b35), .val (.int (1 : Int32)), .val (.int (1 : Int32))] []))
            refine Goes.step (fun _ k => XS.iload X63.here hx rfl (hb hby at_214) rfl  k) ?_
            show Goes _ _ _ _ _ _ _ (T63.setTop (mkF m 216 #[.val (.int p0), .val (.int p1), .val (.int p2), .val (.int p3), .val (.int p4), .val (.int p5), .val (.int (1 : Int32)), .val (.int (1 : Int32)), .val (.int (0 : Int32)), .val (.ref b35), .val (.int (1 : Int32)), .val (.int (1 : Int32))] [(.int (1 : Int32))]))
            exact Goes.ret X63 hx (BodyLoose.notSynchronized Bd) Bd.returns rfl (Or.inl ⟨rfl, by simp, _, rfl⟩) (hb hby at_216) (by show Q0 Z p0 p1 p2 p3 p4 p5 h0 n0 (some (.int (1 : Int32))) T63.heap _; rw [eh63]; exact ⟨rfl, NA63⟩) (by decide) (by decide)
          · exact absurd (by decide : (0 : Int32) = (0 : Int32)) u63_1_0
    · refine Goes.step (fun _ k => XS.ifNo X0.here hx rfl (hb hby at_25) rfl ((if0 _ _).trans (feq c25_34).1) k) ?_
      show Goes _ _ _ _ _ _ _ (s₁.setTop (mkF m 28 #[.val (.int p0), .val (.int p1), .val (.int p2), .val (.int p3), .val (.int p4), .val (.int p5), .val (.int (1 : Int32)), .val (.int ((((p5.toUInt32 >>> ((2 : Int32) &&& 31).toUInt32).toInt32) &&& (3 : Int32)) % (2 : Int32))), .unset, .unset, .unset, .unset] []))
      refine Goes.step (fun _ k => XS.iconst X0.here hx rfl (hb hby at_28) k) ?_
      show Goes _ _ _ _ _ _ _ (s₁.setTop (mkF m 29 #[.val (.int p0), .val (.int p1), .val (.int p2), .val (.int p3), .val (.int p4), .val (.int p5), .val (.int (1 : Int32)), .val (.int ((((p5.toUInt32 >>> ((2 : Int32) &&& 31).toUInt32).toInt32) &&& (3 : Int32)) % (2 : Int32))), .unset, .unset, .unset, .unset] [(.int (1 : Int32))]))
      refine Goes.step (fun _ k => XS.goto X0.here hx rfl (pc0 := 29) (pc' := 33) rfl (hb hby at_29) (by decide) (by decide) k) ?_
      show Goes _ _ _ _ _ _ _ (s₁.setTop (mkF m 33 #[.val (.int p0), .val (.int p1), .val (.int p2), .val (.int p3), .val (.int p4), .val (.int p5), .val (.int (1 : Int32)), .val (.int ((((p5.toUInt32 >>> ((2 : Int32) &&& 31).toUInt32).toInt32) &&& (3 : Int32)) % (2 : Int32))), .unset, .unset, .unset, .unset] [(.int (1 : Int32))]))
      refine Goes.step (fun _ k => XS.istore X0.here hx rfl (hb hby at_33) rfl (l' := #[.val (.int p0), .val (.int p1), .val (.int p2), .val (.int p3), .val (.int p4), .val (.int p5), .val (.int (1 : Int32)), .val (.int ((((p5.toUInt32 >>> ((2 : Int32) &&& 31).toUInt32).toInt32) &&& (3 : Int32)) % (2 : Int32))), .val (.int (1 : Int32)), .unset, .unset, .unset]) rfl k) ?_
      show Goes _ _ _ _ _ _ _ (s₁.setTop (mkF m 35 #[.val (.int p0), .val (.int p1), .val (.int p2), .val (.int p3), .val (.int p4), .val (.int p5), .val (.int (1 : Int32)), .val (.int ((((p5.toUInt32 >>> ((2 : Int32) &&& 31).toUInt32).toInt32) &&& (3 : Int32)) % (2 : Int32))), .val (.int (1 : Int32)), .unset, .unset, .unset] []))
      obtain ⟨T64, h64, X64, e64, E64, A64, D64, -, st64⟩ := newO X0 hx hZ hown (hw _ (List.mem_of_getElem? (i := 0) rfl)) (hw _ (List.mem_of_getElem? (i := 1) rfl)) (hw _ (List.mem_of_getElem? (i := 2) rfl)) e0 (g := (mkF m 35 #[.val (.int p0), .val (.int p1), .val (.int p2), .val (.int p3), .val (.int p4), .val (.int p5), .val (.int (1 : Int32)), .val (.int ((((p5.toUInt32 >>> ((2 : Int32) &&& 31).toUInt32).toInt32) &&& (3 : Int32)) % (2 : Int32))), .val (.int (1 : Int32)), .unset, .unset, .unset] [])) rfl (hb hby at_35) (by decide) (by decide)
      obtain ⟨b64, g64⟩ : ∃ z, z = h0.size := ⟨_, rfl⟩
      rw [← g64] at A64 D64 st64
      refine Goes.step st64 ?_
      have g_b64 : n0 ≤ b64 := Nat.le_trans Z0 (Nat.le_of_eq g64.symm)
      have sz_b64 : h0.size ≤ b64 := Nat.le_trans K0.1 (Nat.le_of_eq g64.symm)
      have K65 : Keep h0 h64 [] := K0.ext E64
      have Z65 : n0 ≤ h64.size := Nat.le_trans Z0 E64.1
      have E_b64 := A64
      have F_nodes_b64 : Fld Z h64 b64 "com/example/hailwise/hailwise/NodeQueue" "nodes" "[I" .null := D64 (Or.inl (hw _ (List.mem_of_getElem? (i := 11) rfl))) (ty := (.array .int)) (by decide)
      have F_keys_b64 : Fld Z h64 b64 "com/example/hailwise/hailwise/NodeQueue" "keys" "[D" .null := D64 (Or.inl (hw _ (List.mem_of_getElem? (i := 14) rfl))) (ty := (.array .double)) (by decide)
      have F_size_b64 : Fld Z h64 b64 "com/example/hailwise/hailwise/NodeQueue" "size" "I" (.int (0 : Int32)) := D64 (Or.inl (hw _ (List.mem_of_getElem? (i := 21) rfl))) (ty := .int) (by decide)
      show Goes _ _ _ _ _ _ _ (T64.setTop (mkF m 38 #[.val (.int p0), .val (.int p1), .val (.int p2), .val (.int p3), .val (.int p4), .val (.int p5), .val (.int (1 : Int32)), .val (.int ((((p5.toUInt32 >>> ((2 : Int32) &&& 31).toUInt32).toInt32) &&& (3 : Int32)) % (2 : Int32))), .val (.int (1 : Int32)), .unset, .unset, .unset] [(.ref b64)]))
      refine Goes.step (fun _ k => XS.dup X64.here hx rfl (hb hby at_38) rfl rfl k) ?_
      show Goes _ _ _ _ _ _ _ (T64.setTop (mkF m 39 #[.val (.int p0), .val (.int p1), .val (.int p2), .val (.int p3), .val (.int p4), .val (.int p5), .val (.int (1 : Int32)), .val (.int ((((p5.toUInt32 >>> ((2 : Int32) &&& 31).toUInt32).toInt32) &&& (3 : Int32)) % (2 : Int32))), .val (.int (1 : Int32)), .unset, .unset, .unset] [(.ref b64), (.ref b64)]))
      obtain ⟨_, _, ⟨T66, L66, k66, n66⟩, -, X66, ⟨Lc66, hQ66, l66, y66, z66⟩, st66⟩ := X64.specialBack hx (y := (⟨"com/example/hailwise/hailwise/NodeQueue", "<init>", "()V"⟩ : MethodName)) rfl hown (mvT hZ (hw _ (List.mem_of_getElem? (i := 3) rfl))) (mvT hZ (hw _ (List.mem_of_getElem? (i := 4) rfl))) (mvT hZ (hw _ (List.mem_of_getElem? (i := 5) rfl))) (by decide) (backOf (W := 1) (rm1 l Z a0 hw [] b64 h64 n0 Z65 F_nodes_b64 F_keys_b64 F_size_b64 E_b64 g_b64) hZ (hw _ (List.mem_of_getElem? (i := 5) rfl)) (hw _ (List.mem_of_getElem? (i := 2) rfl)) (by decide) (by decide)) (g := (mkF m 39 #[.val (.int p0), .val (.int p1), .val (.int p2), .val (.int p3), .val (.int p4), .val (.int p5), .val (.int (1 : Int32)), .val (.int ((((p5.toUInt32 >>> ((2 : Int32) &&& 31).toUInt32).toInt32) &&& (3 : Int32)) % (2 : Int32))), .val (.int (1 : Int32)), .unset, .unset, .unset] [(.ref b64), (.ref b64)])) rfl (by rw [hml]; rfl) (Steps.refl _) (a := b64) (argsL := []) (rest := [(.ref b64)]) (lenOf pd_0 rfl) rfl (by show 2 * 0 + _ ≤ _; exact Nat.le_of_eq rfl) (hb hby at_39) (fun _ _ => ⟨rfl, e64, (by decide : 1 + 2 ≤ _), (by decide : 3 + 128 ≤ _)⟩)
      dsimp only [Pt.U, Pt.locs, Pt.cells, Pt.slots] at X66 l66 y66 z66 st66 hQ66
      subst l66 y66 z66
      obtain ⟨N66, KK66, hR66⟩ := hQ66
      have NA66 := Fr.app N0 N66
      have f67 := E_b64.keep KK66
      have K71 : Keep h0 T66.heap [] := K65.trans KK66 (allS (Or.inr sz_b64) all0)
      have Z71 : n0 ≤ T66.heap.size := Nat.le_trans Z65 KK66.1
      obtain ⟨r66_0_0, r66_0_1, kk66_0_0, kk66_0_1, rfl, g_r66_0_0, le_r66_0_0, g_r66_0_1, le_r66_0_1, nn66_0_0, v66_0_0, v66_0_1, v66_0_2, v66_0_3, v66_0_4, v66_0_5⟩ := hR66
      have ne72 : b64 ≠ r66_0_0 := Nat.ne_of_lt (Nat.lt_of_lt_of_le E_b64.lt le_r66_0_0)
      have sz_r66_0_0 : h0.size ≤ r66_0_0 := Nat.le_trans K65.1 le_r66_0_0
      have ne73 : b64 ≠ r66_0_1 := Nat.ne_of_lt (Nat.lt_of_lt_of_le E_b64.lt le_r66_0_1)
      have sz_r66_0_1 : h0.size ≤ r66_0_1 := Nat.le_trans K65.1 le_r66_0_1
      refine Goes.back st66 ?_
      show Goes _ _ _ _ _ _ _ (T66.setTop (mkF m 42 #[.val (.int p0), .val (.int p1), .val (.int p2), .val (.int p3), .val (.int p4), .val (.int p5), .val (.int (1 : Int32)), .val (.int ((((p5.toUInt32 >>> ((2 : Int32) &&& 31).toUInt32).toInt32) &&& (3 : Int32)) % (2 : Int32))), .val (.int (1 : Int32)), .unset, .unset, .unset] [(.ref b64)]))
      refine Goes.step (fun _ k => XS.astore X66.here hx rfl (hb hby at_42) rfl rfl (l' := #[.val (.int p0), .val (.int p1), .val (.int p2), .val (.int p3), .val (.int p4), .val (.int p5), .val (.int (1 : Int32)), .val (.int ((((p5.toUInt32 >>> ((2 : Int32) &&& 31).toUInt32).toInt32) &&& (3 : Int32)) % (2 : Int32))), .val (.int (1 : Int32)), .val (.ref b64), .unset, .unset]) rfl k) ?_
      show Goes _ _ _ _ _ _ _ (T66.setTop (mkF m 44 #[.val (.int p0), .val (.int p1), .val (.int p2), .val (.int p3), .val (.int p4), .val (.int p5), .val (.int (1 : Int32)), .val (.int ((((p5.toUInt32 >>> ((2 : Int32) &&& 31).toUInt32).toInt32) &&& (3 : Int32)) % (2 : Int32))), .val (.int (1 : Int32)), .val (.ref b64), .unset, .unset] []))
      refine Goes.step (fun _ k => XS.iload X66.here hx rfl (hb hby at_44) rfl  k) ?_
      show Goes _ _ _ _ _ _ _ (T66.setTop (mkF m 46 #[.val (.int p0), .val (.int p1), .val (.int p2), .val (.int p3), .val (.int p4), .val (.int p5), .val (.int (1 : Int32)), .val (.int ((((p5.toUInt32 >>> ((2 : Int32) &&& 31).toUInt32).toInt32) &&& (3 : Int32)) % (2 : Int32))), .val (.int (1 : Int32)), .val (.ref b64), .unset, .unset] [(.int (1 : Int32))]))
      refine Goes.step (fun _ k => XS.iconst X66.here hx rfl (hb hby at_46) k) ?_
      show Goes _ _ _ _ _ _ _ (T66.setTop (mkF m 47 #[.val (.int p0), .val (.int p1), .val (.int p2), .val (.int p3), .val (.int p4), .val (.int p5), .val (.int (1 : Int32)), .val (.int ((((p5.toUInt32 >>> ((2 : Int32) &&& 31).toUInt32).toInt32) &&& (3 : Int32)) % (2 : Int32))), .val (.int (1 : Int32)), .val (.ref b64), .unset, .unset] [(.int (1 : Int32)), (.int (1 : Int32))]))
      refine Goes.step (fun _ k => XS.icmpNo X66.here hx rfl (hb hby at_47) rfl (flt (by decide : ¬ ((1 : Int32) < (1 : Int32)))).1 k) ?_
      show Goes _ _ _ _ _ _ _ (T66.setTop (mkF m 50 #[.val (.int p0), .val (.int p1), .val (.int p2), .val (.int p3), .val (.int p4), .val (.int p5), .val (.int (1 : Int32)), .val (.int ((((p5.toUInt32 >>> ((2 : Int32) &&& 31).toUInt32).toInt32) &&& (3 : Int32)) % (2 : Int32))), .val (.int (1 : Int32)), .val (.ref b64), .unset, .unset] []))
      refine Goes.step (fun _ k => XS.aload X66.here hx rfl (hb hby at_50) rfl rfl k) ?_
      show Goes _ _ _ _ _ _ _ (T66.setTop (mkF m 52 #[.val (.int p0), .val (.int p1), .val (.int p2), .val (.int p3), .val (.int p4), .val (.int p5), .val (.int (1 : Int32)), .val (.int ((((p5.toUInt32 >>> ((2 : Int32) &&& 31).toUInt32).toInt32) &&& (3 : Int32)) % (2 : Int32))), .val (.int (1 : Int32)), .val (.ref b64), .unset, .unset] [(.ref b64)]))
      refine Goes.step (fun _ k => XS.iloadN X66.here hx rfl (hb hby at_52) rfl  k) ?_
      show Goes _ _ _ _ _ _ _ (T66.setTop (mkF m 53 #[.val (.int p0), .val (.int p1), .val (.int p2), .val (.int p3), .val (.int p4), .val (.int p5), .val (.int (1 : Int32)), .val (.int ((((p5.toUInt32 >>> ((2 : Int32) &&& 31).toUInt32).toInt32) &&& (3 : Int32)) % (2 : Int32))), .val (.int (1 : Int32)), .val (.ref b64), .unset, .unset] [(.int p0), (.ref b64)]))
      refine Goes.step (fun _ k => XS.iloadN X66.here hx rfl (hb hby at_53) rfl  k) ?_
      show Goes _ _ _ _ _ _ _ (T66.setTop (mkF m 54 #[.val (.int p0), .val (.int p1), .val (.int p2), .val (.int p3), .val (.int p4), .val (.int p5), .val (.int (1 : Int32)), .val (.int ((((p5.toUInt32 >>> ((2 : Int32) &&& 31).toUInt32).toInt32) &&& (3 : Int32)) % (2 : Int32))), .val (.int (1 : Int32)), .val (.ref b64), .unset, .unset] [(.int p3), (.int p0), (.ref b64)]))
      refine Goes.step (fun _ k => XS.sipush X66.here hx rfl (hb hby at_54) k) ?_
      show Goes _ _ _ _ _ _ _ (T66.setTop (mkF m 57 #[.val (.int p0), .val (.int p1), .val (.int p2), .val (.int p3), .val (.int p4), .val (.int p5), .val (.int (1 : Int32)), .val (.int ((((p5.toUInt32 >>> ((2 : Int32) &&& 31).toUInt32).toInt32) &&& (3 : Int32)) % (2 : Int32))), .val (.int (1 : Int32)), .val (.ref b64), .unset, .unset] [(.int (255 : Int32)), (.int p3), (.int p0), (.ref b64)]))
      refine Goes.step (fun _ k => XS.iand X66.here hx rfl (hb hby at_57) rfl k) ?_
      show Goes _ _ _ _ _ _ _ (T66.setTop (mkF m 58 #[.val (.int p0), .val (.int p1), .val (.int p2), .val (.int p3), .val (.int p4), .val (.int p5), .val (.int (1 : Int32)), .val (.int ((((p5.toUInt32 >>> ((2 : Int32) &&& 31).toUInt32).toInt32) &&& (3 : Int32)) % (2 : Int32))), .val (.int (1 : Int32)), .val (.ref b64), .unset, .unset] [(.int (p3 &&& (255 : Int32))), (.int p0), (.ref b64)]))
      refine Goes.step (fun _ k => XS.i2dS X66.here hx rfl (hb hby at_58) rfl rfl k) ?_
      show Goes _ _ _ _ _ _ _ (T66.setTop (mkF m 59 #[.val (.int p0), .val (.int p1), .val (.int p2), .val (.int p3), .val (.int p4), .val (.int p5), .val (.int (1 : Int32)), .val (.int ((((p5.toUInt32 >>> ((2 : Int32) &&& 31).toUInt32).toInt32) &&& (3 : Int32)) % (2 : Int32))), .val (.int (1 : Int32)), .val (.ref b64), .unset, .unset] [(.double (FP.i2d (p3 &&& (255 : Int32)))), (.int p0), (.ref b64)]))
      obtain ⟨cq74, kq74, q74a, q74b, q74c⟩ := isOf hZ rfl v66_0_3
      obtain ⟨_, _, ⟨T74, L74, k74, n74⟩, -, X74, ⟨Lc74, hQ74, l74, y74, z74⟩, st74⟩ := X66.virtualBack hx (y := (⟨"com/example/hailwise/hailwise/NodeQueue", "add", "(ID)V"⟩ : MethodName)) (z := (⟨"com/example/hailwise/hailwise/NodeQueue", "add", "(ID)V"⟩ : MethodName)) hown (mvT hZ (hw _ (List.mem_of_getElem? (i := 15) rfl))) (mvT hZ (hw _ (List.mem_of_getElem? (i := 16) rfl))) (notFace_of_selects (args := #[]) (mvT hZ (hw _ (List.mem_of_getElem? (i := 18) rfl)))) (mvT hZ (hw _ (List.mem_of_getElem? (i := 18) rfl))) (mvT hZ (hw _ (List.mem_of_getElem? (i := 17) rfl))) (by decide) (backOf (W := 0) (rm3_0 l Z a0 hw [] b64 p0 (FP.i2d (p3 &&& (255 : Int32))) r66_0_0 r66_0_1 kk66_0_0 kk66_0_1 T66.heap n0 Z71 v66_0_0 v66_0_1 v66_0_2 v66_0_3 v66_0_4 v66_0_5 g_b64 g_r66_0_0 g_r66_0_1 ne72 ne73 (Ne.symm nn66_0_0)) hZ (hw _ (List.mem_of_getElem? (i := 19) rfl)) (hw _ (List.mem_of_getElem? (i := 2) rfl)) (by decide) (by decide)) q74a q74c (g := (mkF m 59 #[.val (.int p0), .val (.int p1), .val (.int p2), .val (.int p3), .val (.int p4), .val (.int p5), .val (.int (1 : Int32)), .val (.int ((((p5.toUInt32 >>> ((2 : Int32) &&& 31).toUInt32).toInt32) &&& (3 : Int32)) % (2 : Int32))), .val (.int (1 : Int32)), .val (.ref b64), .unset, .unset] [(.double (FP.i2d (p3 &&& (255 : Int32)))), (.int p0), (.ref b64)])) rfl (by rw [hml]; rfl) (Steps.refl _) (argsL := [(.int p0), (.double (FP.i2d (p3 &&& (255 : Int32))))]) (rest := []) (lenOf pd_1 rfl) rfl (by show 2 * 0 + _ ≤ _; exact Nat.le_of_eq rfl) (hb hby at_59) (fun _ _ => ⟨rfl, rfl, (by decide : 3 + 0 ≤ _), (by decide : 131 + 0 ≤ _)⟩)
      dsimp only [Pt.U, Pt.locs, Pt.cells, Pt.slots] at X74 l74 y74 z74 st74 hQ74
      subst l74 y74 z74
      obtain ⟨N74, KK74, hR74⟩ := hQ74
      have NA74 := Fr.app NA66 N74
      have f75 := v66_0_3.keep KK74
      have K81 : Keep h0 T74.heap [] := K71.trans KK74 (allS (Or.inr sz_b64) (allS (Or.inr sz_r66_0_0) (allS (Or.inr sz_r66_0_1) all0)))
      have Z81 : n0 ≤ T74.heap.size := Nat.le_trans Z71 KK74.1
      obtain ⟨rfl, v74_0_0, v74_0_1, v74_0_2, v74_0_3, v74_0_4, v74_0_5⟩ := hR74
      refine Goes.back st74 ?_
      show Goes _ _ _ _ _ _ _ (T74.setTop (mkF m 62 #[.val (.int p0), .val (.int p1), .val (.int p2), .val (.int p3), .val (.int p4), .val (.int p5), .val (.int (1 : Int32)), .val (.int ((((p5.toUInt32 >>> ((2 : Int32) &&& 31).toUInt32).toInt32) &&& (3 : Int32)) % (2 : Int32))), .val (.int (1 : Int32)), .val (.ref b64), .unset, .unset] []))
      refine Goes.step (fun _ k => XS.iload X74.here hx rfl (hb hby at_62) rfl  k) ?_
      show Goes _ _ _ _ _ _ _ (T74.setTop (mkF m 64 #[.val (.int p0), .val (.int p1), .val (.int p2), .val (.int p3), .val (.int p4), .val (.int p5), .val (.int (1 : Int32)), .val (.int ((((p5.toUInt32 >>> ((2 : Int32) &&& 31).toUInt32).toInt32) &&& (3 : Int32)) % (2 : Int32))), .val (.int (1 : Int32)), .val (.ref b64), .unset, .unset] [(.int (1 : Int32))]))
      refine Goes.step (fun _ k => XS.iconst X74.here hx rfl (hb hby at_64) k) ?_
      show Goes _ _ _ _ _ _ _ (T74.setTop (mkF m 65 #[.val (.int p0), .val (.int p1), .val (.int p2), .val (.int p3), .val (.int p4), .val (.int p5), .val (.int (1 : Int32)), .val (.int ((((p5.toUInt32 >>> ((2 : Int32) &&& 31).toUInt32).toInt32) &&& (3 : Int32)) % (2 : Int32))), .val (.int (1 : Int32)), .val (.ref b64), .unset, .unset] [(.int (2 : Int32)), (.int (1 : Int32))]))
      refine Goes.step (fun _ k => XS.icmpYes X74.here hx rfl (pc0 := 65) (pc' := 81) rfl (hb hby at_65) rfl (tlt (by decide : (1 : Int32) < (2 : Int32))).1 (by decide) (by decide) k) ?_
      show Goes _ _ _ _ _ _ _ (T74.setTop (mkF m 81 #[.val (.int p0), .val (.int p1), .val (.int p2), .val (.int p3), .val (.int p4), .val (.int p5), .val (.int (1 : Int32)), .val (.int ((((p5.toUInt32 >>> ((2 : Int32) &&& 31).toUInt32).toInt32) &&& (3 : Int32)) % (2 : Int32))), .val (.int (1 : Int32)), .val (.ref b64), .unset, .unset] []))
      refine Goes.step (fun _ k => XS.iload X74.here hx rfl (hb hby at_81) rfl  k) ?_
      show Goes _ _ _ _ _ _ _ (T74.setTop (mkF m 83 #[.val (.int p0), .val (.int p1), .val (.int p2), .val (.int p3), .val (.int p4), .val (.int p5), .val (.int (1 : Int32)), .val (.int ((((p5.toUInt32 >>> ((2 : Int32) &&& 31).toUInt32).toInt32) &&& (3 : Int32)) % (2 : Int32))), .val (.int (1 : Int32)), .val (.ref b64), .unset, .unset] [(.int (1 : Int32))]))
      refine Goes.step (fun _ k => XS.iconst X74.here hx rfl (hb hby at_83) k) ?_
      show Goes _ _ _ _ _ _ _ (T74.setTop (mkF m 84 #[.val (.int p0), .val (.int p1), .val (.int p2), .val (.int p3), .val (.int p4), .val (.int p5), .val (.int (1 : Int32)), .val (.int ((((p5.toUInt32 >>> ((2 : Int32) &&& 31).toUInt32).toInt32) &&& (3 : Int32)) % (2 : Int32))), .val (.int (1 : Int32)), .val (.ref b64), .unset, .unset] [(.int (3 : Int32)), (.int (1 : Int32))]))
      refine Goes.step (fun _ k => XS.icmpYes X74.here hx rfl (pc0 := 84) (pc' := 102) rfl (hb hby at_84) rfl (tlt (by decide : (1 : Int32) < (3 : Int32))).1 (by decide) (by decide) k) ?_
      show Goes _ _ _ _ _ _ _ (T74.setTop (mkF m 102 #[.val (.int p0), .val (.int p1), .val (.int p2), .val (.int p3), .val (.int p4), .val (.int p5), .val (.int (1 : Int32)), .val (.int ((((p5.toUInt32 >>> ((2 : Int32) &&& 31).toUInt32).toInt32) &&& (3 : Int32)) % (2 : Int32))), .val (.int (1 : Int32)), .val (.ref b64), .unset, .unset] []))
      refine Goes.step (fun _ k => XS.aload X74.here hx rfl (hb hby at_102) rfl rfl k) ?_
      show Goes _ _ _ _ _ _ _ (T74.setTop (mkF m 104 #[.val (.int p0), .val (.int p1), .val (.int p2), .val (.int p3), .val (.int p4), .val (.int p5), .val (.int (1 : Int32)), .val (.int ((((p5.toUInt32 >>> ((2 : Int32) &&& 31).toUInt32).toInt32) &&& (3 : Int32)) % (2 : Int32))), .val (.int (1 : Int32)), .val (.ref b64), .unset, .unset] [(.ref b64)]))
      obtain ⟨cq82, kq82, q82a, q82b, q82c⟩ := isOf hZ rfl v74_0_3
      obtain ⟨_, _, ⟨T82, L82, k82, n82⟩, -, X82, ⟨Lc82, hQ82, l82, y82, z82⟩, st82⟩ := X74.virtualBack hx (y := (⟨"com/example/hailwise/hailwise/NodeQueue", "isEmpty", "()Z"⟩ : MethodName)) (z := (⟨"com/example/hailwise/hailwise/NodeQueue", "isEmpty", "()Z"⟩ : MethodName)) hown (mvT hZ (hw _ (List.mem_of_getElem? (i := 22) rfl))) (mvT hZ (hw _ (List.mem_of_getElem? (i := 23) rfl))) (notFace_of_selects (args := #[]) (mvT hZ (hw _ (List.mem_of_getElem? (i := 25) rfl)))) (mvT hZ (hw _ (List.mem_of_getElem? (i := 25) rfl))) (mvT hZ (hw _ (List.mem_of_getElem? (i := 24) rfl))) (by decide) (backOf (W := 0) (rm4 l Z a0 hw [] b64 (1 : Int32) T74.heap n0 Z81 v74_0_2) hZ (hw _ (List.mem_of_getElem? (i := 26) rfl)) (hw _ (List.mem_of_getElem? (i := 2) rfl)) (by decide) (by decide)) q82a q82c (g := (mkF m 104 #[.val (.int p0), .val (.int p1), .val (.int p2), .val (.int p3), .val (.int p4), .val (.int p5), .val (.int (1 : Int32)), .val (.int ((((p5.toUInt32 >>> ((2 : Int32) &&& 31).toUInt32).toInt32) &&& (3 : Int32)) % (2 : Int32))), .val (.int (1 : Int32)), .val (.ref b64), .unset, .unset] [(.ref b64)])) rfl (by rw [hml]; rfl) (Steps.refl _) (argsL := []) (rest := []) (lenOf pd_2 rfl) rfl (by show 2 * 0 + _ ≤ _; exact Nat.le_of_eq rfl) (hb hby at_104) (fun _ _ => ⟨rfl, rfl, (by decide : 3 + 0 ≤ _), (by decide : 131 + 0 ≤ _)⟩)
      dsimp only [Pt.U, Pt.locs, Pt.cells, Pt.slots] at X82 l82 y82 z82 st82 hQ82
      subst l82 y82 z82
      obtain ⟨N82, eh82, hR82⟩ := hQ82
      have NA82 := Fr.app NA74 N82
      rcases hR82 with ⟨rfl, u82_0_0⟩ | ⟨rfl, u82_1_0⟩
      · exact absurd u82_0_0 (by decide : ¬ ((1 : Int32) = (0 : Int32)))
      · refine Goes.back st82 ?_
        show Goes _ _ _ _ _ _ _ (T82.setTop (mkF m 107 #[.val (.int p0), .val (.int p1), .val (.int p2), .val (.int p3), .val (.int p4), .val (.int p5), .val (.int (1 : Int32)), .val (.int ((((p5.toUInt32 >>> ((2 : Int32) &&& 31).toUInt32).toInt32) &&& (3 : Int32)) % (2 : Int32))), .val (.int (1 : Int32)), .val (.ref b64), .unset, .unset] [(.int (0 : Int32))]))
        refine Goes.step (fun _ k => XS.iload X82.here hx rfl (hb hby at_107) rfl  k) ?_
        show Goes _ _ _ _ _ _ _ (T82.setTop (mkF m 109 #[.val (.int p0), .val (.int p1), .val (.int p2), .val (.int p3), .val (.int p4), .val (.int p5), .val (.int (1 : Int32)), .val (.int ((((p5.toUInt32 >>> ((2 : Int32) &&& 31).toUInt32).toInt32) &&& (3 : Int32)) % (2 : Int32))), .val (.int (1 : Int32)), .val (.ref b64), .unset, .unset] [(.int (1 : Int32)), (.int (0 : Int32))]))
        refine Goes.step (fun _ k => XS.ifYes X82.here hx rfl (pc0 := 109) (pc' := 116) rfl (hb hby at_109) rfl ((if0 _ _).trans (feq (by decide : ¬ ((1 : Int32) = (0 : Int32)))).2) (by decide) (by decide) k) ?_
        show Goes _ _ _ _ _ _ _ (T82.setTop (mkF m 116 #[.val (.int p0), .val (.int p1), .val (.int p2), .val (.int p3), .val (.int p4), .val (.int p5), .val (.int (1 : Int32)), .val (.int ((((p5.toUInt32 >>> ((2 : Int32) &&& 31).toUInt32).toInt32) &&& (3 : Int32)) % (2 : Int32))), .val (.int (1 : Int32)), .val (.ref b64), .unset, .unset] [(.int (0 : Int32))]))
        refine Goes.step (fun _ k => XS.iconst X82.here hx rfl (hb hby at_116) k) ?_
        show Goes _ _ _ _ _ _ _ (T82.setTop (mkF m 117 #[.val (.int p0), .val (.int p1), .val (.int p2), .val (.int p3), .val (.int p4), .val (.int p5), .val (.int (1 : Int32)), .val (.int ((((p5.toUInt32 >>> ((2 : Int32) &&& 31).toUInt32).toInt32) &&& (3 : Int32)) % (2 : Int32))), .val (.int (1 : Int32)), .val (.ref b64), .unset, .unset] [(.int (0 : Int32)), (.int (0 : Int32))]))
        refine Goes.step (fun _ k => XS.icmpNo X82.here hx rfl (hb hby at_117) rfl (teq (by decide : (0 : Int32) = (0 : Int32))).2 k) ?_
        show Goes _ _ _ _ _ _ _ (T82.setTop (mkF m 120 #[.val (.int p0), .val (.int p1), .val (.int p2), .val (.int p3), .val (.int p4), .val (.int p5), .val (.int (1 : Int32)), .val (.int ((((p5.toUInt32 >>> ((2 : Int32) &&& 31).toUInt32).toInt32) &&& (3 : Int32)) % (2 : Int32))), .val (.int (1 : Int32)), .val (.ref b64), .unset, .unset] []))
        refine Goes.step (fun _ k => XS.iconst X82.here hx rfl (hb hby at_120) k) ?_
        show Goes _ _ _ _ _ _ _ (T82.setTop (mkF m 121 #[.val (.int p0), .val (.int p1), .val (.int p2), .val (.int p3), .val (.int p4), .val (.int p5), .val (.int (1 : Int32)), .val (.int ((((p5.toUInt32 >>> ((2 : Int32) &&& 31).toUInt32).toInt32) &&& (3 : Int32)) % (2 : Int32))), .val (.int (1 : Int32)), .val (.ref b64), .unset, .unset] [(.int (1 : Int32))]))
        refine Goes.step (fun _ k => XS.goto X82.here hx rfl (pc0 := 121) (pc' := 125) rfl (hb hby at_121) (by decide) (by decide) k) ?_
        show Goes _ _ _ _ _ _ _ (T82.setTop (mkF m 125 #[.val (.int p0), .val (.int p1), .val (.int p2), .val (.int p3), .val (.int p4), .val (.int p5), .val (.int (1 : Int32)), .val (.int ((((p5.toUInt32 >>> ((2 : Int32) &&& 31).toUInt32).toInt32) &&& (3 : Int32)) % (2 : Int32))), .val (.int (1 : Int32)), .val (.ref b64), .unset, .unset] [(.int (1 : Int32))]))
        refine Goes.step (fun _ k => XS.istore X82.here hx rfl (hb hby at_125) rfl (l' := #[.val (.int p0), .val (.int p1), .val (.int p2), .val (.int p3), .val (.int p4), .val (.int p5), .val (.int (1 : Int32)), .val (.int ((((p5.toUInt32 >>> ((2 : Int32) &&& 31).toUInt32).toInt32) &&& (3 : Int32)) % (2 : Int32))), .val (.int (1 : Int32)), .val (.ref b64), .val (.int (1 : Int32)), .unset]) rfl k) ?_
        show Goes _ _ _ _ _ _ _ (T82.setTop (mkF m 127 #[.val (.int p0), .val (.int p1), .val (.int p2), .val (.int p3), .val (.int p4), .val (.int p5), .val (.int (1 : Int32)), .val (.int ((((p5.toUInt32 >>> ((2 : Int32) &&& 31).toUInt32).toInt32) &&& (3 : Int32)) % (2 : Int32))), .val (.int (1 : Int32)), .val (.ref b64), .val (.int (1 : Int32)), .unset] []))
        generalize hg_m7 : ((((p5.toUInt32 >>> ((2 : Int32) &&& 31).toUInt32).toInt32) &&& (3 : Int32)) % (2 : Int32)) = m7
        show Goes _ _ _ _ _ _ _ (T82.setTop (mkF m 127 #[.val (.int p0), .val (.int p1), .val (.int p2), .val (.int p3), .val (.int p4), .val (.int p5), .val (.int (1 : Int32)), .val (.int m7), .val (.int (1 : Int32)), .val (.ref b64), .val (.int (1 : Int32)), .unset] []))
        rcases own_m2 hg_m7 with rfl | rfl
        · show Goes _ _ _ _ _ _ _ (T82.setTop (mkF m 127 #[.val (.int p0), .val (.int p1), .val (.int p2), .val (.int p3), .val (.int p4), .val (.int p5), .val (.int (1 : Int32)), .val (.int (0 : Int32)), .val (.int (1 : Int32)), .val (.ref b64), .val (.int (1 : Int32)), .unset] []))
          refine Goes.step (fun _ k => XS.iload X82.here hx rfl (hb hby at_127) rfl  k) ?_
          show Goes _ _ _ _ _ _ _ (T82.setTop (mkF m 129 #[.val (.int p0), .val (.int p1), .val (.int p2), .val (.int p3), .val (.int p4), .val (.int p5), .val (.int (1 : Int32)), .val (.int (0 : Int32)), .val (.int (1 : Int32)), .val (.ref b64), .val (.int (1 : Int32)), .unset] [(.int (0 : Int32))]))
          refine Goes.step (fun _ k => XS.iconst X82.here hx rfl (hb hby at_129) k) ?_
          show Goes _ _ _ _ _ _ _ (T82.setTop (mkF m 130 #[.val (.int p0), .val (.int p1), .val (.int p2), .val (.int p3), .val (.int p4), .val (.int p5), .val (.int (1 : Int32)), .val (.int (0 : Int32)), .val (.int (1 : Int32)), .val (.ref b64), .val (.int (1 : Int32)), .unset] [(.int (1 : Int32)), (.int (0 : Int32))]))
          refine Goes.step (fun _ k => XS.icmpYes X82.here hx rfl (pc0 := 130) (pc' := 139) rfl (hb hby at_130) rfl (tlt (by decide : (0 : Int32) < (1 : Int32))).1 (by decide) (by decide) k) ?_
          show Goes _ _ _ _ _ _ _ (T82.setTop (mkF m 139 #[.val (.int p0), .val (.int p1), .val (.int p2), .val (.int p3), .val (.int p4), .val (.int p5), .val (.int (1 : Int32)), .val (.int (0 : Int32)), .val (.int (1 : Int32)), .val (.ref b64), .val (.int (1 : Int32)), .unset] []))
          refine Goes.step (fun _ k => XS.iload X82.here hx rfl (hb hby at_139) rfl  k) ?_
          show Goes _ _ _ _ _ _ _ (T82.setTop (mkF m 141 #[.val (.int p0), .val (.int p1), .val (.int p2), .val (.int p3), .val (.int p4), .val (.int p5), .val (.int (1 : Int32)), .val (.int (0 : Int32)), .val (.int (1 : Int32)), .val (.ref b64), .val (.int (1 : Int32)), .unset] [(.int (0 : Int32))]))
          refine Goes.step (fun _ k => XS.iconst X82.here hx rfl (hb hby at_141) k) ?_
          show Goes _ _ _ _ _ _ _ (T82.setTop (mkF m 142 #[.val (.int p0), .val (.int p1), .val (.int p2), .val (.int p3), .val (.int p4), .val (.int p5), .val (.int (1 : Int32)), .val (.int (0 : Int32)), .val (.int (1 : Int32)), .val (.ref b64), .val (.int (1 : Int32)), .unset] [(.int (2 : Int32)), (.int (0 : Int32))]))
          refine Goes.step (fun _ k => XS.icmpYes X82.here hx rfl (pc0 := 142) (pc' := 151) rfl (hb hby at_142) rfl (tlt (by decide : (0 : Int32) < (2 : Int32))).1 (by decide) (by decide) k) ?_
          show Goes _ _ _ _ _ _ _ (T82.setTop (mkF m 151 #[.val (.int p0), .val (.int p1), .val (.int p2), .val (.int p3), .val (.int p4), .val (.int p5), .val (.int (1 : Int32)), .val (.int (0 : Int32)), .val (.int (1 : Int32)), .val (.ref b64), .val (.int (1 : Int32)), .unset] []))
          refine Goes.step (fun _ k => XS.iload X82.here hx rfl (hb hby at_151) rfl  k) ?_
          show Goes _ _ _ _ _ _ _ (T82.setTop (mkF m 153 #[.val (.int p0), .val (.int p1), .val (.int p2), .val (.int p3), .val (.int p4), .val (.int p5), .val (.int (1 : Int32)), .val (.int (0 : Int32)), .val (.int (1 : Int32)), .val (.ref b64), .val (.int (1 : Int32)), .unset] [(.int (0 : Int32))]))
          refine Goes.step (fun _ k => XS.iconst X82.here hx rfl (hb hby at_153) k) ?_
          show Goes _ _ _ _ _ _ _ (T82.setTop (mkF m 154 #[.val (.int p0), .val (.int p1), .val (.int p2), .val (.int p3), .val (.int p4), .val (.int p5), .val (.int (1 : Int32)), .val (.int (0 : Int32)), .val (.int (1 : Int32)), .val (.ref b64), .val (.int (1 : Int32)), .unset] [(.int (3 : Int32)), (.int (0 : Int32))]))
          refine Goes.step (fun _ k => XS.icmpYes X82.here hx rfl (pc0 := 154) (pc' := 163) rfl (hb hby at_154) rfl (tlt (by decide : (0 : Int32) < (3 : Int32))).1 (by decide) (by decide) k) ?_
          show Goes _ _ _ _ _ _ _ (T82.setTop (mkF m 163 #[.val (.int p0), .val (.int p1), .val (.int p2), .val (.int p3), .val (.int p4), .val (.int p5), .val (.int (1 : Int32)), .val (.int (0 : Int32)), .val (.int (1 : Int32)), .val (.ref b64), .val (.int (1 : Int32)), .unset] []))
          refine Goes.step (fun _ k => XS.iload X82.here hx rfl (hb hby at_163) rfl  k) ?_
          show Goes _ _ _ _ _ _ _ (T82.setTop (mkF m 165 #[.val (.int p0), .val (.int p1), .val (.int p2), .val (.int p3), .val (.int p4), .val (.int p5), .val (.int (1 : Int32)), .val (.int (0 : Int32)), .val (.int (1 : Int32)), .val (.ref b64), .val (.int (1 : Int32)), .unset] [(.int (1 : Int32))]))
          refine Goes.step (fun _ k => XS.ifNo X82.here hx rfl (hb hby at_165) rfl ((if0 _ _).trans (feq (by decide : ¬ ((1 : Int32) = (0 : Int32)))).1) k) ?_
          show Goes _ _ _ _ _ _ _ (T82.setTop (mkF m 168 #[.val (.int p0), .val (.int p1), .val (.int p2), .val (.int p3), .val (.int p4), .val (.int p5), .val (.int (1 : Int32)), .val (.int (0 : Int32)), .val (.int (1 : Int32)), .val (.ref b64), .val (.int (1 : Int32)), .unset] []))
          refine Goes.step (fun _ k => XS.aload X82.here hx rfl (hb hby at_168) rfl rfl k) ?_
          show Goes _ _ _ _ _ _ _ (T82.setTop (mkF m 170 #[.val (.int p0), .val (.int p1), .val (.int p2), .val (.int p3), .val (.int p4), .val (.int p5), .val (.int (1 : Int32)), .val (.int (0 : Int32)), .val (.int (1 : Int32)), .val (.ref b64), .val (.int (1 : Int32)), .unset] [(.ref b64)]))
          obtain ⟨cq83, kq83, q83a, q83b, q83c⟩ := isOf hZ eh82 v74_0_3
          obtain ⟨_, _, ⟨T83, L83, k83, n83⟩, -, X83, ⟨Lc83, hQ83, l83, y83, z83⟩, st83⟩ := X82.virtualBack hx (y := (⟨"com/example/hailwise/hailwise/NodeQueue", "clear", "()V"⟩ : MethodName)) (z := (⟨"com/example/hailwise/hailwise/NodeQueue", "clear", "()V"⟩ : MethodName)) hown (mvT hZ (hw _ (List.mem_of_getElem? (i := 32) rfl))) (mvT hZ (hw _ (List.mem_of_getElem? (i := 33) rfl))) (notFace_of_selects (args := #[]) (mvT hZ (hw _ (List.mem_of_getElem? (i := 35) rfl)))) (mvT hZ (hw _ (List.mem_of_getElem? (i := 35) rfl))) (mvT hZ (hw _ (List.mem_of_getElem? (i := 34) rfl))) (by decide) (backOf (W := 0) (rm6 l Z a0 hw [] b64 r66_0_0 r66_0_1 (1 : Int32) T74.heap n0 Z81 v74_0_0 v74_0_1 v74_0_2 v74_0_3 g_b64) hZ (hw _ (List.mem_of_getElem? (i := 36) rfl)) (hw _ (List.mem_of_getElem? (i := 2) rfl)) (by decide) (by decide)) q83a q83c (g := (mkF m 170 #[.val (.int p0), .val (.int p1), .val (.int p2), .val (.int p3), .val (.int p4), .val (.int p5), .val (.int (1 : Int32)), .val (.int (0 : Int32)), .val (.int (1 : Int32)), .val (.ref b64), .val (.int (1 : Int32)), .unset] [(.ref b64)])) rfl (by rw [hml]; rfl) (Steps.refl _) (argsL := []) (rest := []) (lenOf pd_0 rfl) rfl (by show 2 * 0 + _ ≤ _; exact Nat.le_of_eq rfl) (hb hby at_170) (fun _ _ => ⟨rfl, eh82, (by decide : 3 + 0 ≤ _), (by decide : 131 + 0 ≤ _)⟩)
          dsimp only [Pt.U, Pt.locs, Pt.cells, Pt.slots] at X83 l83 y83 z83 st83 hQ83
          subst l83 y83 z83
          obtain ⟨N83, KK83, hR83⟩ := hQ83
          have NA83 := Fr.app NA82 N83
          have f84 := v74_0_3.keep KK83
          have f88 := v74_0_4.keep KK83 (ninS (Ne.symm ne72) nin0)
          have f89 := v74_0_5.keep KK83 (ninS (Ne.symm ne73) nin0)
          have K90 : Keep h0 T83.heap [] := K81.trans KK83 (allS (Or.inr sz_b64) all0)
          have Z90 : n0 ≤ T83.heap.size := Nat.le_trans Z81 KK83.1
          obtain ⟨rfl, v83_0_0, v83_0_1, v83_0_2, v83_0_3⟩ := hR83
          refine Goes.back st83 ?_
          show Goes _ _ _ _ _ _ _ (T83.setTop (mkF m 173 #[.val (.int p0), .val (.int p1), .val (.int p2), .val (.int p3), .val (.int p4), .val (.int p5), .val (.int (1 : Int32)), .val (.int (0 : Int32)), .val (.int (1 : Int32)), .val (.ref b64), .val (.int (1 : Int32)), .unset] []))
          refine Goes.step (fun _ k => XS.iload X83.here hx rfl (hb hby at_173) rfl  k) ?_
          show Goes _ _ _ _ _ _ _ (T83.setTop (mkF m 175 #[.val (.int p0), .val (.int p1), .val (.int p2), .val (.int p3), .val (.int p4), .val (.int p5), .val (.int (1 : Int32)), .val (.int (0 : Int32)), .val (.int (1 : Int32)), .val (.ref b64), .val (.int (1 : Int32)), .unset] [(.int (1 : Int32))]))
          refine Goes.step (fun _ k => XS.ifYes X83.here hx rfl (pc0 := 175) (pc' := 185) rfl (hb hby at_175) rfl ((if0 _ _).trans (feq (by decide : ¬ ((1 : Int32) = (0 : Int32)))).2) (by decide) (by decide) k) ?_
          show Goes _ _ _ _ _ _ _ (T83.setTop (mkF m 185 #[.val (.int p0), .val (.int p1), .val (.int p2), .val (.int p3), .val (.int p4), .val (.int p5), .val (.int (1 : Int32)), .val (.int (0 : Int32)), .val (.int (1 : Int32)), .val (.ref b64), .val (.int (1 : Int32)), .unset] []))
          refine Goes.step (fun _ k => XS.iconst X83.here hx rfl (hb hby at_185) k) ?_
          show Goes _ _ _ _ _ _ _ (T83.setTop (mkF m 186 #[.val (.int p0), .val (.int p1), .val (.int p2), .val (.int p3), .val (.int p4), .val (.int p5), .val (.int (1 : Int32)), .val (.int (0 : Int32)), .val (.int (1 : Int32)), .val (.ref b64), .val (.int (1 : Int32)), .unset] [(.int (1 : Int32))]))
          refine Goes.step (fun _ k => XS.goto X83.here hx rfl (pc0 := 186) (pc' := 190) rfl (hb hby at_186) (by decide) (by decide) k) ?_
          show Goes _ _ _ _ _ _ _ (T83.setTop (mkF m 190 #[.val (.int p0), .val (.int p1), .val (.int p2), .val (.int p3), .val (.int p4), .val (.int p5), .val (.int (1 : Int32)), .val (.int (0 : Int32)), .val (.int (1 : Int32)), .val (.ref b64), .val (.int (1 : Int32)), .unset] [(.int (1 : Int32))]))
          refine Goes.step (fun _ k => XS.istore X83.here hx rfl (hb hby at_190) rfl (l' := #[.val (.int p0), .val (.int p1), .val (.int p2), .val (.int p3), .val (.int p4), .val (.int p5), .val (.int (1 : Int32)), .val (.int (0 : Int32)), .val (.int (1 : Int32)), .val (.ref b64), .val (.int (1 : Int32)), .val (.int (1 : Int32))]) rfl k) ?_
          show Goes _ _ _ _ _ _ _ (T83.setTop (mkF m 192 #[.val (.int p0), .val (.int p1), .val (.int p2), .val (.int p3), .val (.int p4), .val (.int p5), .val (.int (1 : Int32)), .val (.int (0 : Int32)), .val (.int (1 : Int32)), .val (.ref b64), .val (.int (1 : Int32)), .val (.int (1 : Int32))] []))
          refine Goes.step (fun _ k => XS.iload X83.here hx rfl (hb hby at_192) rfl  k) ?_
          show Goes _ _ _ _ _ _ _ (T83.setTop (mkF m 194 #[.val (.int p0), .val (.int p1), .val (.int p2), .val (.int p3), .val (.int p4), .val (.int p5), .val (.int (1 : Int32)), .val (.int (0 : Int32)), .val (.int (1 : Int32)), .val (.ref b64), .val (.int (1 : Int32)), .val (.int (1 : Int32))] [(.int (1 : Int32))]))
          refine Goes.step (fun _ k => XS.ifNo X83.here hx rfl (hb hby at_194) rfl ((if0 _ _).trans (feq (by decide : ¬ ((1 : Int32) = (0 : Int32)))).1) k) ?_
          show Goes _ _ _ _ _ _ _ (T83.setTop (mkF m 197 #[.val (.int p0), .val (.int p1), .val (.int p2), .val (.int p3), .val (.int p4), .val (.int p5), .val (.int (1 : Int32)), .val (.int (0 : Int32)), .val (.int (1 : Int32)), .val (.ref b64), .val (.int (1 : Int32)), .val (.int (1 : Int32))] []))
          refine Goes.step (fun _ k => XS.aload X83.here hx rfl (hb hby at_197) rfl rfl k) ?_
          show Goes _ _ _ _ _ _ _ (T83.setTop (mkF m 199 #[.val (.int p0), .val (.int p1), .val (.int p2), .val (.int p3), .val (.int p4), .val (.int p5), .val (.int (1 : Int32)), .val (.int (0 : Int32)), .val (.int (1 : Int32)), .val (.ref b64), .val (.int (1 : Int32)), .val (.int (1 : Int32))] [(.ref b64)]))
          obtain ⟨cq91, kq91, q91a, q91b, q91c⟩ := isOf hZ rfl v83_0_3
          obtain ⟨_, _, ⟨T91, L91, k91, n91⟩, -, X91, ⟨Lc91, hQ91, l91, y91, z91⟩, st91⟩ := X83.virtualBack hx (y := (⟨"com/example/hailwise/hailwise/NodeQueue", "isEmpty", "()Z"⟩ : MethodName)) (z := (⟨"com/example/hailwise/hailwise/NodeQueue", "isEmpty", "()Z"⟩ : MethodName)) hown (mvT hZ (hw _ (List.mem_of_getElem? (i := 22) rfl))) (mvT hZ (hw _ (List.mem_of_getElem? (i := 23) rfl))) (notFace_of_selects (args := #[]) (mvT hZ (hw _ (List.mem_of_getElem? (i := 25) rfl)))) (mvT hZ (hw _ (List.mem_of_getElem? (i := 25) rfl))) (mvT hZ (hw _ (List.mem_of_getElem? (i := 24) rfl))) (by decide) (backOf (W := 0) (rm4 l Z a0 hw [] b64 (0 : Int32) T83.heap n0 Z90 v83_0_2) hZ (hw _ (List.mem_of_getElem? (i := 26) rfl)) (hw _ (List.mem_of_getElem? (i := 2) rfl)) (by decide) (by decide)) q91a q91c (g := (mkF m 199 #[.val (.int p0), .val (.int p1), .val (.int p2), .val (.int p3), .val (.int p4), .val (.int p5), .val (.int (1 : Int32)), .val (.int (0 : Int32)), .val (.int (1 : Int32)), .val (.ref b64), .val (.int (1 : Int32)), .val (.int (1 : Int32))] [(.ref b64)])) rfl (by rw [hml]; rfl) (Steps.refl _) (argsL := []) (rest := []) (lenOf pd_2 rfl) rfl (by show 2 * 0 + _ ≤ _; exact Nat.le_of_eq rfl) (hb hby at_199) (fun _ _ => ⟨rfl, rfl, (by decide : 3 + 0 ≤ _), (by decide : 131 + 0 ≤ _)⟩)
          dsimp only [Pt.U, Pt.locs, Pt.cells, Pt.slots] at X91 l91 y91 z91 st91 hQ91
          subst l91 y91 z91
          obtain ⟨N91, eh91, hR91⟩ := hQ91
          have NA91 := Fr.app NA83 N91
          rcases hR91 with ⟨rfl, u91_0_0⟩ | ⟨rfl, u91_1_0⟩
          · refine Goes.back st91 ?_
            show Goes _ _ _ _ _ _ _ (T91.setTop (mkF m 202 #[.val (.int p0), .val (.int p1), .val (.int p2), .val (.int p3), .val (.int p4), .val (.int p5), .val (.int (1 : Int32)), .val (.int (0 : Int32)), .val (.int (1 : Int32)), .val (.ref b64), .val (.int (1 : Int32)), .val (.int (1 : Int32))] [(.int (1 : Int32))]))
            refine Goes.step (fun _ k => XS.iload X91.here hx rfl (hb hby at_202) rfl  k) ?_
            show Goes _ _ _ _ _ _ _ (T91.setTop (mkF m 204 #[.val (.int p0), .val (.int p1), .val (.int p2), .val (.int p3), .val (.int p4), .val (.int p5), .val (.int (1 : Int32)), .val (.int (0 : Int32)), .val (.int (1 : Int32)), .val (.ref b64), .val (.int (1 : Int32)), .val (.int (1 : Int32))] [(.int (1 : Int32)), (.int (1 : Int32))]))
            refine Goes.step (fun _ k => XS.icmpNo X91.here hx rfl (hb hby at_204) rfl (teq (by decide : (1 : Int32) = (1 : Int32))).2 k) ?_
            show Goes _ _ _ _ _ _ _ (T91.setTop (mkF m 207 #[.val (.int p0), .val (.int p1), .val (.int p2), .val (.int p3), .val (.int p4), .val (.int p5), .val (.int (1 : Int32)), .val (.int (0 : Int32)), .val (.int (1 : Int32)), .val (.ref b64), .val (.int (1 : Int32)), .val (.int (1 : Int32))] []))
            refine Goes.step (fun _ k => XS.iconst X91.here hx rfl (hb hby at_207) k) ?_
            show Goes _ _ _ _ _ _ _ (T91.setTop (mkF m 208 #[.val (.int p0), .val (.int p1), .val (.int p2), .val (.int p3), .val (.int p4), .val (.int p5), .val (.int (1 : Int32)), .val (.int (0 : Int32)), .val (.int (1 : Int32)), .val (.ref b64), .val (.int (1 : Int32)), .val (.int (1 : Int32))] [(.int (1 : Int32))]))
            refine Goes.step (fun _ k => XS.goto X91.here hx rfl (pc0 := 208) (pc' := 212) rfl (hb hby at_208) (by decide) (by decide) k) ?_
            show Goes _ _ _ _ _ _ _ (T91.setTop (mkF m 212 #[.val (.int p0), .val (.int p1), .val (.int p2), .val (.int p3), .val (.int p4), .val (.int p5), .val (.int (1 : Int32)), .val (.int (0 : Int32)), .val (.int (1 : Int32)), .val (.ref b64), .val (.int (1 : Int32)), .val (.int (1 : Int32))] [(.int (1 : Int32))]))
            refine Goes.step (fun _ k => XS.istore X91.here hx rfl (hb hby at_212) rfl (l' := #[.val (.int p0), .val (.int p1), .val (.int p2), .val (.int p3), .val (.int p4), .val (.int p5), .val (.int (1 : Int32)), .val (.int (0 : Int32)), .val (.int (1 : Int32)), .val (.ref b64), .val (.int (1 : Int32)), .val (.int (1 : Int32))]) rfl k) ?_
            show Goes _ _ _ _ _ _ _ (T91.setTop (mkF m 214 #[.val (.int p0), .val (.int p1), .val (.int p2), .val (.int p3), .val (.int p4), .val (.int p5), .val (.int (1 : Int32)), .val (.int (0 : Int32)), .val (.int (1 : Int32)), .val (.ref b64), .val (.int (1 : Int32)), .val (.int (1 : Int32))] []))
            refine Goes.step (fun _ k => XS.iload X91.here hx rfl (hb hby at_214) rfl  k) ?_
            show Goes _ _ _ _ _ _ _ (T91.setTop (mkF m 216 #[.val (.int p0), .val (.int p1), .val (.int p2), .val (.int p3), .val (.int p4), .val (.int p5), .val (.int (1 : Int32)), .val (.int (0 : Int32)), .val (.int (1 : Int32)), .val (.ref b64), .val (.int (1 : Int32)), .val (.int (1 : Int32))] [(.int (1 : Int32))]))
            exact Goes.ret X91 hx (BodyLoose.notSynchronized Bd) Bd.returns rfl (Or.inl ⟨rfl, by simp, _, rfl⟩) (hb hby at_216) (by show Q0 Z p0 p1 p2 p3 p4 p5 h0 n0 (some (.int (1 : Int32))) T91.heap _; rw [eh91]; exact ⟨rfl, NA91⟩) (by decide) (by decide)
          · exact absurd (by decide : (0 : Int32) = (0 : Int32)) u91_1_0
        · show Goes _ _ _ _ _ _ _ (T82.setTop (mkF m 127 #[.val (.int p0), .val (.int p1), .val (.int p2), .val (.int p3), .val (.int p4), .val (.int p5), .val (.int (1 : Int32)), .val (.int (1 : Int32)), .val (.int (1 : Int32)), .val (.ref b64), .val (.int (1 : Int32)), .unset] []))
          refine Goes.step (fun _ k => XS.iload X82.here hx rfl (hb hby at_127) rfl  k) ?_
          show Goes _ _ _ _ _ _ _ (T82.setTop (mkF m 129 #[.val (.int p0), .val (.int p1), .val (.int p2), .val (.int p3), .val (.int p4), .val (.int p5), .val (.int (1 : Int32)), .val (.int (1 : Int32)), .val (.int (1 : Int32)), .val (.ref b64), .val (.int (1 : Int32)), .unset] [(.int (1 : Int32))]))
          refine Goes.step (fun _ k => XS.iconst X82.here hx rfl (hb hby at_129) k) ?_
          show Goes _ _ _ _ _ _ _ (T82.setTop (mkF m 130 #[.val (.int p0), .val (.int p1), .val (.int p2), .val (.int p3), .val (.int p4), .val (.int p5), .val (.int (1 : Int32)), .val (.int (1 : Int32)), .val (.int (1 : Int32)), .val (.ref b64), .val (.int (1 : Int32)), .unset] [(.int (1 : Int32)), (.int (1 : Int32))]))
          refine Goes.step (fun _ k => XS.icmpNo X82.here hx rfl (hb hby at_130) rfl (flt (by decide : ¬ ((1 : Int32) < (1 : Int32)))).1 k) ?_
          show Goes _ _ _ _ _ _ _ (T82.setTop (mkF m 133 #[.val (.int p0), .val (.int p1), .val (.int p2), .val (.int p3), .val (.int p4), .val (.int p5), .val (.int (1 : Int32)), .val (.int (1 : Int32)), .val (.int (1 : Int32)), .val (.ref b64), .val (.int (1 : Int32)), .unset] []))
          refine Goes.step (fun _ k => XS.aload X82.here hx rfl (hb hby at_133) rfl rfl k) ?_
          show Goes _ _ _ _ _ _ _ (T82.setTop (mkF m 135 #[.val (.int p0), .val (.int p1), .val (.int p2), .val (.int p3), .val (.int p4), .val (.int p5), .val (.int (1 : Int32)), .val (.int (1 : Int32)), .val (.int (1 : Int32)), .val (.ref b64), .val (.int (1 : Int32)), .unset] [(.ref b64)]))
          obtain ⟨cq92, kq92, q92a, q92b, q92c⟩ := isOf hZ eh82 v74_0_3
          obtain ⟨_, _, ⟨T92, L92, k92, n92⟩, -, X92, ⟨Lc92, hQ92, l92, y92, z92⟩, st92⟩ := X82.virtualBack hx (y := (⟨"com/example/hailwise/hailwise/NodeQueue", "poll", "()I"⟩ : MethodName)) (z := (⟨"com/example/hailwise/hailwise/NodeQueue", "poll", "()I"⟩ : MethodName)) hown (mvT hZ (hw _ (List.mem_of_getElem? (i := 27) rfl))) (mvT hZ (hw _ (List.mem_of_getElem? (i := 28) rfl))) (notFace_of_selects (args := #[]) (mvT hZ (hw _ (List.mem_of_getElem? (i := 30) rfl)))) (mvT hZ (hw _ (List.mem_of_getElem? (i := 30) rfl))) (mvT hZ (hw _ (List.mem_of_getElem? (i := 29) rfl))) (by decide) (backOf (W := 0) (rm5_1 l Z a0 hw [] b64 r66_0_0 r66_0_1 kk66_0_0 kk66_0_1 T74.heap n0 Z81 v74_0_0 v74_0_1 v74_0_2 v74_0_3 v74_0_4 v74_0_5 g_b64 g_r66_0_0 g_r66_0_1 ne72 ne73 (Ne.symm nn66_0_0)) hZ (hw _ (List.mem_of_getElem? (i := 31) rfl)) (hw _ (List.mem_of_getElem? (i := 2) rfl)) (by decide) (by decide)) q92a q92c (g := (mkF m 135 #[.val (.int p0), .val (.int p1), .val (.int p2), .val (.int p3), .val (.int p4), .val (.int p5), .val (.int (1 : Int32)), .val (.int (1 : Int32)), .val (.int (1 : Int32)), .val (.ref b64), .val (.int (1 : Int32)), .unset] [(.ref b64)])) rfl (by rw [hml]; rfl) (Steps.refl _) (argsL := []) (rest := []) (lenOf pd_3 rfl) rfl (by show 2 * 0 + _ ≤ _; exact Nat.le_of_eq rfl) (hb hby at_135) (fun _ _ => ⟨rfl, eh82, (by decide : 3 + 0 ≤ _), (by decide : 131 + 0 ≤ _)⟩)
          dsimp only [Pt.U, Pt.locs, Pt.cells, Pt.slots] at X92 l92 y92 z92 st92 hQ92
          subst l92 y92 z92
          obtain ⟨N92, KK92, hR92⟩ := hQ92
          have NA92 := Fr.app NA82 N92
          have f93 := v74_0_3.keep KK92
          have K99 : Keep h0 T92.heap [] := K81.trans KK92 (allS (Or.inr sz_b64) (allS (Or.inr sz_r66_0_0) (allS (Or.inr sz_r66_0_1) all0)))
          have Z99 : n0 ≤ T92.heap.size := Nat.le_trans Z81 KK92.1
          obtain ⟨rv92_0, rfl, v92_0_0, v92_0_1, v92_0_2, v92_0_3, v92_0_4, v92_0_5⟩ := hR92
          refine Goes.back st92 ?_
          show Goes _ _ _ _ _ _ _ (T92.setTop (mkF m 138 #[.val (.int p0), .val (.int p1), .val (.int p2), .val (.int p3), .val (.int p4), .val (.int p5), .val (.int (1 : Int32)), .val (.int (1 : Int32)), .val (.int (1 : Int32)), .val (.ref b64), .val (.int (1 : Int32)), .unset] [(.int rv92_0)]))
          refine Goes.step (fun _ k => XS.pop X92.here hx rfl (hb hby at_138) rfl rfl k) ?_
          show Goes _ _ _ _ _ _ _ (T92.setTop (mkF m 139 #[.val (.int p0), .val (.int p1), .val (.int p2), .val (.int p3), .val (.int p4), .val (.int p5), .val (.int (1 : Int32)), .val (.int (1 : Int32)), .val (.int (1 : Int32)), .val (.ref b64), .val (.int (1 : Int32)), .unset] []))
          refine Goes.step (fun _ k => XS.iload X92.here hx rfl (hb hby at_139) rfl  k) ?_
          show Goes _ _ _ _ _ _ _ (T92.setTop (mkF m 141 #[.val (.int p0), .val (.int p1), .val (.int p2), .val (.int p3), .val (.int p4), .val (.int p5), .val (.int (1 : Int32)), .val (.int (1 : Int32)), .val (.int (1 : Int32)), .val (.ref b64), .val (.int (1 : Int32)), .unset] [(.int (1 : Int32))]))
          refine Goes.step (fun _ k => XS.iconst X92.here hx rfl (hb hby at_141) k) ?_
          show Goes _ _ _ _ _ _ _ (T92.setTop (mkF m 142 #[.val (.int p0), .val (.int p1), .val (.int p2), .val (.int p3), .val (.int p4), .val (.int p5), .val (.int (1 : Int32)), .val (.int (1 : Int32)), .val (.int (1 : Int32)), .val (.ref b64), .val (.int (1 : Int32)), .unset] [(.int (2 : Int32)), (.int (1 : Int32))]))
          refine Goes.step (fun _ k => XS.icmpYes X92.here hx rfl (pc0 := 142) (pc' := 151) rfl (hb hby at_142) rfl (tlt (by decide : (1 : Int32) < (2 : Int32))).1 (by decide) (by decide) k) ?_
          show Goes _ _ _ _ _ _ _ (T92.setTop (mkF m 151 #[.val (.int p0), .val (.int p1), .val (.int p2), .val (.int p3), .val (.int p4), .val (.int p5), .val (.int (1 : Int32)), .val (.int (1 : Int32)), .val (.int (1 : Int32)), .val (.ref b64), .val (.int (1 : Int32)), .unset] []))
          refine Goes.step (fun _ k => XS.iload X92.here hx rfl (hb hby at_151) rfl  k) ?_
          show Goes _ _ _ _ _ _ _ (T92.setTop (mkF m 153 #[.val (.int p0), .val (.int p1), .val (.int p2), .val (.int p3), .val (.int p4), .val (.int p5), .val (.int (1 : Int32)), .val (.int (1 : Int32)), .val (.int (1 : Int32)), .val (.ref b64), .val (.int (1 : Int32)), .unset] [(.int (1 : Int32))]))
          refine Goes.step (fun _ k => XS.iconst X92.here hx rfl (hb hby at_153) k) ?_
          show Goes _ _ _ _ _ _ _ (T92.setTop (mkF m 154 #[.val (.int p0), .val (.int p1), .val (.int p2), .val (.int p3), .val (.int p4), .val (.int p5), .val (.int (1 : Int32)), .val (.int (1 : Int32)), .val (.int (1 : Int32)), .val (.ref b64), .val (.int (1 : Int32)), .unset] [(.int (3 : Int32)), (.int (1 : Int32))]))
          refine Goes.step (fun _ k => XS.icmpYes X92.here hx rfl (pc0 := 154) (pc' := 163) rfl (hb hby at_154) rfl (tlt (by decide : (1 : Int32) < (3 : Int32))).1 (by decide) (by decide) k) ?_
          show Goes _ _ _ _ _ _ _ (T92.setTop (mkF m 163 #[.val (.int p0), .val (.int p1), .val (.int p2), .val (.int p3), .val (.int p4), .val (.int p5), .val (.int (1 : Int32)), .val (.int (1 : Int32)), .val (.int (1 : Int32)), .val (.ref b64), .val (.int (1 : Int32)), .unset] []))
          refine Goes.step (fun _ k => XS.iload X92.here hx rfl (hb hby at_163) rfl  k) ?_
          show Goes _ _ _ _ _ _ _ (T92.setTop (mkF m 165 #[.val (.int p0), .val (.int p1), .val (.int p2), .val (.int p3), .val (.int p4), .val (.int p5), .val (.int (1 : Int32)), .val (.int (1 : Int32)), .val (.int (1 : Int32)), .val (.ref b64), .val (.int (1 : Int32)), .unset] [(.int (1 : Int32))]))
          refine Goes.step (fun _ k => XS.ifNo X92.here hx rfl (hb hby at_165) rfl ((if0 _ _).trans (feq (by decide : ¬ ((1 : Int32) = (0 : Int32)))).1) k) ?_
          show Goes _ _ _ _ _ _ _ (T92.setTop (mkF m 168 #[.val (.int p0), .val (.int p1), .val (.int p2), .val (.int p3), .val (.int p4), .val (.int p5), .val (.int (1 : Int32)), .val (.int (1 : Int32)), .val (.int (1 : Int32)), .val (.ref b64), .val (.int (1 : Int32)), .unset] []))
          refine Goes.step (fun _ k => XS.aload X92.here hx rfl (hb hby at_168) rfl rfl k) ?_
          show Goes _ _ _ _ _ _ _ (T92.setTop (mkF m 170 #[.val (.int p0), .val (.int p1), .val (.int p2), .val (.int p3), .val (.int p4), .val (.int p5), .val (.int (1 : Int32)), .val (.int (1 : Int32)), .val (.int (1 : Int32)), .val (.ref b64), .val (.int (1 : Int32)), .unset] [(.ref b64)]))
          obtain ⟨cq100, kq100, q100a, q100b, q100c⟩ := isOf hZ rfl v92_0_3
          obtain ⟨_, _, ⟨T100, L100, k100, n100⟩, -, X100, ⟨Lc100, hQ100, l100, y100, z100⟩, st100⟩ := X92.virtualBack hx (y := (⟨"com/example/hailwise/hailwise/NodeQueue", "clear", "()V"⟩ : MethodName)) (z := (⟨"com/example/hailwise/hailwise/NodeQueue", "clear", "()V"⟩ : MethodName)) hown (mvT hZ (hw _ (List.mem_of_getElem? (i := 32) rfl))) (mvT hZ (hw _ (List.mem_of_getElem? (i := 33) rfl))) (notFace_of_selects (args := #[]) (mvT hZ (hw _ (List.mem_of_getElem? (i := 35) rfl)))) (mvT hZ (hw _ (List.mem_of_getElem? (i := 35) rfl))) (mvT hZ (hw _ (List.mem_of_getElem? (i := 34) rfl))) (by decide) (backOf (W := 0) (rm6 l Z a0 hw [] b64 r66_0_0 r66_0_1 (0 : Int32) T92.heap n0 Z99 v92_0_0 v92_0_1 v92_0_2 v92_0_3 g_b64) hZ (hw _ (List.mem_of_getElem? (i := 36) rfl)) (hw _ (List.mem_of_getElem? (i := 2) rfl)) (by decide) (by decide)) q100a q100c (g := (mkF m 170 #[.val (.int p0), .val (.int p1), .val (.int p2), .val (.int p3), .val (.int p4), .val (.int p5), .val (.int (1 : Int32)), .val (.int (1 : Int32)), .val (.int (1 : Int32)), .val (.ref b64), .val (.int (1 : Int32)), .unset] [(.ref b64)])) rfl (by rw [hml]; rfl) (Steps.refl _) (argsL := []) (rest := []) (lenOf pd_0 rfl) rfl (by show 2 * 0 + _ ≤ _; exact Nat.le_of_eq rfl) (hb hby at_170) (fun _ _ => ⟨rfl, rfl, (by decide : 3 + 0 ≤ _), (by decide : 131 + 0 ≤ _)⟩)
          dsimp only [Pt.U, Pt.locs, Pt.cells, Pt.slots] at X100 l100 y100 z100 st100 hQ100
          subst l100 y100 z100
          obtain ⟨N100, KK100, hR100⟩ := hQ100
          have NA100 := Fr.app NA92 N100
          have f101 := v92_0_3.keep KK100
          have f105 := v92_0_4.keep KK100 (ninS (Ne.symm ne72) nin0)
          have f106 := v92_0_5.keep KK100 (ninS (Ne.symm ne73) nin0)
          have K107 : Keep h0 T100.heap [] := K99.trans KK100 (allS (Or.inr sz_b64) all0)
          have Z107 : n0 ≤ T100.heap.size := Nat.le_trans Z99 KK100.1
          obtain ⟨rfl, v100_0_0, v100_0_1, v100_0_2, v100_0_3⟩ := hR100
          refine Goes.back st100 ?_
          show Goes _ _ _ _ _ _ _ (T100.setTop (mkF m 173 #[.val (.int p0), .val (.int p1), .val (.int p2), .val (.int p3), .val (.int p4), .val (.int p5), .val (.int (1 : Int32)), .val (.int (1 : Int32)), .val (.int (1 : Int32)), .val (.ref b64), .val (.int (1 : Int32)), .unset] []))
          refine Goes.step (fun _ k => XS.iload X100.here hx rfl (hb hby at_173) rfl  k) ?_
          show Goes _ _ _ _ _ _ _ (T100.setTop (mkF m 175 #[.val (.int p0), .val (.int p1), .val (.int p2), .val (.int p3), .val (.int p4), .val (.int p5), .val (.int (1 : Int32)), .val (.int (1 : Int32)), .val (.int (1 : Int32)), .val (.ref b64), .val (.int (1 : Int32)), .unset] [(.int (1 : Int32))]))
          refine Goes.step (fun _ k => XS.ifYes X100.here hx rfl (pc0 := 175) (pc' := 185) rfl (hb hby at_175) rfl ((if0 _ _).trans (feq (by decide : ¬ ((1 : Int32) = (0 : Int32)))).2) (by decide) (by decide) k) ?_
          show Goes _ _ _ _ _ _ _ (T100.setTop (mkF m 185 #[.val (.int p0), .val (.int p1), .val (.int p2), .val (.int p3), .val (.int p4), .val (.int p5), .val (.int (1 : Int32)), .val (.int (1 : Int32)), .val (.int (1 : Int32)), .val (.ref b64), .val (.int (1 : Int32)), .unset] []))
          refine Goes.step (fun _ k => XS.iconst X100.here hx rfl (hb hby at_185) k) ?_
          show Goes _ _ _ _ _ _ _ (T100.setTop (mkF m 186 #[.val (.int p0), .val (.int p1), .val (.int p2), .val (.int p3), .val (.int p4), .val (.int p5), .val (.int (1 : Int32)), .val (.int (1 : Int32)), .val (.int (1 : Int32)), .val (.ref b64), .val (.int (1 : Int32)), .unset] [(.int (1 : Int32))]))
          refine Goes.step (fun _ k => XS.goto X100.here hx rfl (pc0 := 186) (pc' := 190) rfl (hb hby at_186) (by decide) (by decide) k) ?_
          show Goes _ _ _ _ _ _ _ (T100.setTop (mkF m 190 #[.val (.int p0), .val (.int p1), .val (.int p2), .val (.int p3), .val (.int p4), .val (.int p5), .val (.int (1 : Int32)), .val (.int (1 : Int32)), .val (.int (1 : Int32)), .val (.ref b64), .val (.int (1 : Int32)), .unset] [(.int (1 : Int32))]))
          refine Goes.step (fun _ k => XS.istore X100.here hx rfl (hb hby at_190) rfl (l' := #[.val (.int p0), .val (.int p1), .val (.int p2), .val (.int p3), .val (.int p4), .val (.int p5), .val (.int (1 : Int32)), .val (.int (1 : Int32)), .val (.int (1 : Int32)), .val (.ref b64), .val (.int (1 : Int32)), .val (.int (1 : Int32))]) rfl k) ?_
          show Goes _ _ _ _ _ _ _ (T100.setTop (mkF m 192 #[.val (.int p0), .val (.int p1), .val (.int p2), .val (.int p3), .val (.int p4), .val (.int p5), .val (.int (1 : Int32)), .val (.int (1 : Int32)), .val (.int (1 : Int32)), .val (.ref b64), .val (.int (1 : Int32)), .val (.int (1 : Int32))] []))
          refine Goes.step (fun _ k => XS.iload X100.here hx rfl (hb hby at_192) rfl  k) ?_
          show Goes _ _ _ _ _ _ _ (T100.setTop (mkF m 194 #[.val (.int p0), .val (.int p1), .val (.int p2), .val (.int p3), .val (.int p4), .val (.int p5), .val (.int (1 : Int32)), .val (.int (1 : Int32)), .val (.int (1 : Int32)), .val (.ref b64), .val (.int (1 : Int32)), .val (.int (1 : Int32))] [(.int (1 : Int32))]))
          refine Goes.step (fun _ k => XS.ifNo X100.here hx rfl (hb hby at_194) rfl ((if0 _ _).trans (feq (by decide : ¬ ((1 : Int32) = (0 : Int32)))).1) k) ?_
          show Goes _ _ _ _ _ _ _ (T100.setTop (mkF m 197 #[.val (.int p0), .val (.int p1), .val (.int p2), .val (.int p3), .val (.int p4), .val (.int p5), .val (.int (1 : Int32)), .val (.int (1 : Int32)), .val (.int (1 : Int32)), .val (.ref b64), .val (.int (1 : Int32)), .val (.int (1 : Int32))] []))
          refine Goes.step (fun _ k => XS.aload X100.here hx rfl (hb hby at_197) rfl rfl k) ?_
          show Goes _ _ _ _ _ _ _ (T100.setTop (mkF m 199 #[.val (.int p0), .val (.int p1), .val (.int p2), .val (.int p3), .val (.int p4), .val (.int p5), .val (.int (1 : Int32)), .val (.int (1 : Int32)), .val (.int (1 : Int32)), .val (.ref b64), .val (.int (1 : Int32)), .val (.int (1 : Int32))] [(.ref b64)]))
          obtain ⟨cq108, kq108, q108a, q108b, q108c⟩ := isOf hZ rfl v100_0_3
          obtain ⟨_, _, ⟨T108, L108, k108, n108⟩, -, X108, ⟨Lc108, hQ108, l108, y108, z108⟩, st108⟩ := X100.virtualBack hx (y := (⟨"com/example/hailwise/hailwise/NodeQueue", "isEmpty", "()Z"⟩ : MethodName)) (z := (⟨"com/example/hailwise/hailwise/NodeQueue", "isEmpty", "()Z"⟩ : MethodName)) hown (mvT hZ (hw _ (List.mem_of_getElem? (i := 22) rfl))) (mvT hZ (hw _ (List.mem_of_getElem? (i := 23) rfl))) (notFace_of_selects (args := #[]) (mvT hZ (hw _ (List.mem_of_getElem? (i := 25) rfl)))) (mvT hZ (hw _ (List.mem_of_getElem? (i := 25) rfl))) (mvT hZ (hw _ (List.mem_of_getElem? (i := 24) rfl))) (by decide) (backOf (W := 0) (rm4 l Z a0 hw [] b64 (0 : Int32) T100.heap n0 Z107 v100_0_2) hZ (hw _ (List.mem_of_getElem? (i := 26) rfl)) (hw _ (List.mem_of_getElem? (i := 2) rfl)) (by decide) (by decide)) q108a q108c (g := (mkF m 199 #[.val (.int p0), .val (.int p1), .val (.int p2), .val (.int p3), .val (.int p4), .val (.int p5), .val (.int (1 : Int32)), .val (.int (1 : Int32)), .val (.int (1 : Int32)), .val (.ref b64), .val (.int (1 : Int32)), .val (.int (1 : Int32))] [(.ref b64)])) rfl (by rw [hml]; rfl) (Steps.refl _) (argsL := []) (rest := []) (lenOf pd_2 rfl) rfl (by show 2 * 0 + _ ≤ _; exact Nat.le_of_eq rfl) (hb hby at_199) (fun _ _ => ⟨rfl, rfl, (by decide : 3 + 0 ≤ _), (by decide : 131 + 0 ≤ _)⟩)
          dsimp only [Pt.U, Pt.locs, Pt.cells, Pt.slots] at X108 l108 y108 z108 st108 hQ108
          subst l108 y108 z108
          obtain ⟨N108, eh108, hR108⟩ := hQ108
          have NA108 := Fr.app NA100 N108
          rcases hR108 with ⟨rfl, u108_0_0⟩ | ⟨rfl, u108_1_0⟩
          · refine Goes.back st108 ?_
            show Goes _ _ _ _ _ _ _ (T108.setTop (mkF m 202 #[.val (.int p0), .val (.int p1), .val (.int p2), .val (.int p3), .val (.int p4), .val (.int p5), .val (.int (1 : Int32)), .val (.int (1 : Int32)), .val (.int (1 : Int32)), .val (.ref b64), .val (.int (1 : Int32)), .val (.int (1 : Int32))] [(.int (1 : Int32))]))
            refine Goes.step (fun _ k => XS.iload X108.here hx rfl (hb hby at_202) rfl  k) ?_
            show Goes _ _ _ _ _ _ _ (T108.setTop (mkF m 204 #[.val (.int p0), .val (.int p1), .val (.int p2), .val (.int p3), .val (.int p4), .val (.int p5), .val (.int (1 : Int32)), .val (.int (1 : Int32)), .val (.int (1 : Int32)), .val (.ref b64), .val (.int (1 : Int32)), .val (.int (1 : Int32))] [(.int (1 : Int32)), (.int (1 : Int32))]))
            refine Goes.step (fun _ k => XS.icmpNo X108.here hx rfl (hb hby at_204) rfl (teq (by decide : (1 : Int32) = (1 : Int32))).2 k) ?_
            show Goes _ _ _ _ _ _ _ (T108.setTop (mkF m 207 #[.val (.int p0), .val (.int p1), .val (.int p2), .val (.int p3), .val (.int p4), .val (.int p5), .val (.int (1 : Int32)), .val (.int (1 : Int32)), .val (.int (1 : Int32)), .val (.ref b64), .val (.int (1 : Int32)), .val (.int (1 : Int32))] []))
            refine Goes.step (fun _ k => XS.iconst X108.here hx rfl (hb hby at_207) k) ?_
            show Goes _ _ _ _ _ _ _ (T108.setTop (mkF m 208 #[.val (.int p0), .val (.int p1), .val (.int p2), .val (.int p3), .val (.int p4), .val (.int p5), .val (.int (1 : Int32)), .val (.int (1 : Int32)), .val (.int (1 : Int32)), .val (.ref b64), .val (.int (1 : Int32)), .val (.int (1 : Int32))] [(.int (1 : Int32))]))
            refine Goes.step (fun _ k => XS.goto X108.here hx rfl (pc0 := 208) (pc' := 212) rfl (hb hby at_208) (by decide) (by decide) k) ?_
            show Goes _ _ _ _ _ _ _ (T108.setTop (mkF m 212 #[.val (.int p0), .val (.int p1), .val (.int p2), .val (.int p3), .val (.int p4), .val (.int p5), .val (.int (1 : Int32)), .val (.int (1 : Int32)), .val (.int (1 : Int32)), .val (.ref b64), .val (.int (1 : Int32)), .val (.int (1 : Int32))] [(.int (1 : Int32))]))
            refine Goes.step (fun _ k => XS.istore X108.here hx rfl (hb hby at_212) rfl (l' := #[.val (.int p0), .val (.int p1), .val (.int p2), .val (.int p3), .val (.int p4), .val (.int p5), .val (.int (1 : Int32)), .val (.int (1 : Int32)), .val (.int (1 : Int32)), .val (.ref b64), .val (.int (1 : Int32)), .val (.int (1 : Int32))]) rfl k) ?_
            show Goes _ _ _ _ _ _ _ (T108.setTop (mkF m 214 #[.val (.int p0), .val (.int p1), .val (.int p2), .val (.int p3), .val (.int p4), .val (.int p5), .val (.int (1 : Int32)), .val (.int (1 : Int32)), .val (.int (1 : Int32)), .val (.ref b64), .val (.int (1 : Int32)), .val (.int (1 : Int32))] []))
            refine Goes.step (fun _ k => XS.iload X108.here hx rfl (hb hby at_214) rfl  k) ?_
            show Goes _ _ _ _ _ _ _ (T108.setTop (mkF m 216 #[.val (.int p0), .val (.int p1), .val (.int p2), .val (.int p3), .val (.int p4), .val (.int p5), .val (.int (1 : Int32)), .val (.int (1 : Int32)), .val (.int (1 : Int32)), .val (.ref b64), .val (.int (1 : Int32)), .val (.int (1 : Int32))] [(.int (1 : Int32))]))
            exact Goes.ret X108 hx (BodyLoose.notSynchronized Bd) Bd.returns rfl (Or.inl ⟨rfl, by simp, _, rfl⟩) (hb hby at_216) (by show Q0 Z p0 p1 p2 p3 p4 p5 h0 n0 (some (.int (1 : Int32))) T108.heap _; rw [eh108]; exact ⟨rfl, NA108⟩) (by decide) (by decide)
          · exact absurd (by decide : (0 : Int32) = (0 : Int32)) u108_1_0
  · show Goes _ _ _ _ _ _ _ (s₁.setTop (mkF m 6 #[.val (.int p0), .val (.int p1), .val (.int p2), .val (.int p3), .val (.int p4), .val (.int p5), .val (.int (2 : Int32)), .unset, .unset, .unset, .unset, .unset] []))
    refine Goes.step (fun _ k => XS.iload X0.here hx rfl (hb hby at_6) rfl  k) ?_
    show Goes _ _ _ _ _ _ _ (s₁.setTop (mkF m 8 #[.val (.int p0), .val (.int p1), .val (.int p2), .val (.int p3), .val (.int p4), .val (.int p5), .val (.int (2 : Int32)), .unset, .unset, .unset, .unset, .unset] [(.int p5)]))
    refine Goes.step (fun _ k => XS.iconst X0.here hx rfl (hb hby at_8) k) ?_
    show Goes _ _ _ _ _ _ _ (s₁.setTop (mkF m 9 #[.val (.int p0), .val (.int p1), .val (.int p2), .val (.int p3), .val (.int p4), .val (.int p5), .val (.int (2 : Int32)), .unset, .unset, .unset, .unset, .unset] [(.int (2 : Int32)), (.int p5)]))
    refine Goes.step (fun _ k => XS.iushr X0.here hx rfl (hb hby at_9) rfl k) ?_
    show Goes _ _ _ _ _ _ _ (s₁.setTop (mkF m 10 #[.val (.int p0), .val (.int p1), .val (.int p2), .val (.int p3), .val (.int p4), .val (.int p5), .val (.int (2 : Int32)), .unset, .unset, .unset, .unset, .unset] [(.int ((p5.toUInt32 >>> ((2 : Int32) &&& 31).toUInt32).toInt32))]))
    refine Goes.step (fun _ k => XS.iconst X0.here hx rfl (hb hby at_10) k) ?_
    show Goes _ _ _ _ _ _ _ (s₁.setTop (mkF m 11 #[.val (.int p0), .val (.int p1), .val (.int p2), .val (.int p3), .val (.int p4), .val (.int p5), .val (.int (2 : Int32)), .unset, .unset, .unset, .unset, .unset] [(.int (3 : Int32)), (.int ((p5.toUInt32 >>> ((2 : Int32) &&& 31).toUInt32).toInt32))]))
    refine Goes.step (fun _ k => XS.iand X0.here hx rfl (hb hby at_11) rfl k) ?_
    show Goes _ _ _ _ _ _ _ (s₁.setTop (mkF m 12 #[.val (.int p0), .val (.int p1), .val (.int p2), .val (.int p3), .val (.int p4), .val (.int p5), .val (.int (2 : Int32)), .unset, .unset, .unset, .unset, .unset] [(.int (((p5.toUInt32 >>> ((2 : Int32) &&& 31).toUInt32).toInt32) &&& (3 : Int32)))]))
    refine Goes.step (fun _ k => XS.iload X0.here hx rfl (hb hby at_12) rfl  k) ?_
    show Goes _ _ _ _ _ _ _ (s₁.setTop (mkF m 14 #[.val (.int p0), .val (.int p1), .val (.int p2), .val (.int p3), .val (.int p4), .val (.int p5), .val (.int (2 : Int32)), .unset, .unset, .unset, .unset, .unset] [(.int (2 : Int32)), (.int (((p5.toUInt32 >>> ((2 : Int32) &&& 31).toUInt32).toInt32) &&& (3 : Int32)))]))
    refine Goes.step (fun _ k => XS.iconst X0.here hx rfl (hb hby at_14) k) ?_
    show Goes _ _ _ _ _ _ _ (s₁.setTop (mkF m 15 #[.val (.int p0), .val (.int p1), .val (.int p2), .val (.int p3), .val (.int p4), .val (.int p5), .val (.int (2 : Int32)), .unset, .unset, .unset, .unset, .unset] [(.int (1 : Int32)), (.int (2 : Int32)), (.int (((p5.toUInt32 >>> ((2 : Int32) &&& 31).toUInt32).toInt32) &&& (3 : Int32)))]))
    refine Goes.step (fun _ k => XS.iadd X0.here hx rfl (hb hby at_15) rfl k) ?_
    show Goes _ _ _ _ _ _ _ (s₁.setTop (mkF m 16 #[.val (.int p0), .val (.int p1), .val (.int p2), .val (.int p3), .val (.int p4), .val (.int p5), .val (.int (2 : Int32)), .unset, .unset, .unset, .unset, .unset] [(.int (3 : Int32)), (.int (((p5.toUInt32 >>> ((2 : Int32) &&& 31).toUInt32).toInt32) &&& (3 : Int32)))]))
    refine Goes.step (fun _ k => iremM X0 hx rfl (hb hby at_16) rfl (by decide) k) ?_
    show Goes _ _ _ _ _ _ _ (s₁.setTop (mkF m 17 #[.val (.int p0), .val (.int p1), .val (.int p2), .val (.int p3), .val (.int p4), .val (.int p5), .val (.int (2 : Int32)), .unset, .unset, .unset, .unset, .unset] [(.int ((((p5.toUInt32 >>> ((2 : Int32) &&& 31).toUInt32).toInt32) &&& (3 : Int32)) % (3 : Int32)))]))
    refine Goes.step (fun _ k => XS.istore X0.here hx rfl (hb hby at_17) rfl (l' := #[.val (.int p0), .val (.int p1), .val (.int p2), .val (.int p3), .val (.int p4), .val (.int p5), .val (.int (2 : Int32)), .val (.int ((((p5.toUInt32 >>> ((2 : Int32) &&& 31).toUInt32).toInt32) &&& (3 : Int32)) % (3 : Int32))), .unset, .unset, .unset, .unset]) rfl k) ?_
    show Goes _ _ _ _ _ _ _ (s₁.setTop (mkF m 19 #[.val (.int p0), .val (.int p1), .val (.int p2), .val (.int p3), .val (.int p4), .val (.int p5), .val (.int (2 : Int32)), .val (.int ((((p5.toUInt32 >>> ((2 : Int32) &&& 31).toUInt32).toInt32) &&& (3 : Int32)) % (3 : Int32))), .unset, .unset, .unset, .unset] []))
    refine Goes.step (fun _ k => XS.iload X0.here hx rfl (hb hby at_19) rfl  k) ?_
    show Goes _ _ _ _ _ _ _ (s₁.setTop (mkF m 21 #[.val (.int p0), .val (.int p1), .val (.int p2), .val (.int p3), .val (.int p4), .val (.int p5), .val (.int (2 : Int32)), .val (.int ((((p5.toUInt32 >>> ((2 : Int32) &&& 31).toUInt32).toInt32) &&& (3 : Int32)) % (3 : Int32))), .unset, .unset, .unset, .unset] [(.int p5)]))
    refine Goes.step (fun _ k => XS.iconst X0.here hx rfl (hb hby at_21) k) ?_
    show Goes _ _ _ _ _ _ _ (s₁.setTop (mkF m 22 #[.val (.int p0), .val (.int p1), .val (.int p2), .val (.int p3), .val (.int p4), .val (.int p5), .val (.int (2 : Int32)), .val (.int ((((p5.toUInt32 >>> ((2 : Int32) &&& 31).toUInt32).toInt32) &&& (3 : Int32)) % (3 : Int32))), .unset, .unset, .unset, .unset] [(.int (4 : Int32)), (.int p5)]))
    refine Goes.step (fun _ k => XS.iushr X0.here hx rfl (hb hby at_22) rfl k) ?_
    show Goes _ _ _ _ _ _ _ (s₁.setTop (mkF m 23 #[.val (.int p0), .val (.int p1), .val (.int p2), .val (.int p3), .val (.int p4), .val (.int p5), .val (.int (2 : Int32)), .val (.int ((((p5.toUInt32 >>> ((2 : Int32) &&& 31).toUInt32).toInt32) &&& (3 : Int32)) % (3 : Int32))), .unset, .unset, .unset, .unset] [(.int ((p5.toUInt32 >>> ((4 : Int32) &&& 31).toUInt32).toInt32))]))
    refine Goes.step (fun _ k => XS.iconst X0.here hx rfl (hb hby at_23) k) ?_
    show Goes _ _ _ _ _ _ _ (s₁.setTop (mkF m 24 #[.val (.int p0), .val (.int p1), .val (.int p2), .val (.int p3), .val (.int p4), .val (.int p5), .val (.int (2 : Int32)), .val (.int ((((p5.toUInt32 >>> ((2 : Int32) &&& 31).toUInt32).toInt32) &&& (3 : Int32)) % (3 : Int32))), .unset, .unset, .unset, .unset] [(.int (1 : Int32)), (.int ((p5.toUInt32 >>> ((4 : Int32) &&& 31).toUInt32).toInt32))]))
    refine Goes.step (fun _ k => XS.iand X0.here hx rfl (hb hby at_24) rfl k) ?_
    show Goes _ _ _ _ _ _ _ (s₁.setTop (mkF m 25 #[.val (.int p0), .val (.int p1), .val (.int p2), .val (.int p3), .val (.int p4), .val (.int p5), .val (.int (2 : Int32)), .val (.int ((((p5.toUInt32 >>> ((2 : Int32) &&& 31).toUInt32).toInt32) &&& (3 : Int32)) % (3 : Int32))), .unset, .unset, .unset, .unset] [(.int (((p5.toUInt32 >>> ((4 : Int32) &&& 31).toUInt32).toInt32) &&& (1 : Int32)))]))
    by_cases c25_109 : (((p5.toUInt32 >>> ((4 : Int32) &&& 31).toUInt32).toInt32) &&& (1 : Int32)) = (0 : Int32)
    · refine Goes.step (fun _ k => XS.ifYes X0.here hx rfl (pc0 := 25) (pc' := 32) rfl (hb hby at_25) rfl ((if0 _ _).trans (teq c25_109).1) (by decide) (by decide) k) ?_
      show Goes _ _ _ _ _ _ _ (s₁.setTop (mkF m 32 #[.val (.int p0), .val (.int p1), .val (.int p2), .val (.int p3), .val (.int p4), .val (.int p5), .val (.int (2 : Int32)), .val (.int ((((p5.toUInt32 >>> ((2 : Int32) &&& 31).toUInt32).toInt32) &&& (3 : Int32)) % (3 : Int32))), .unset, .unset, .unset, .unset] []))
      refine Goes.step (fun _ k => XS.iconst X0.here hx rfl (hb hby at_32) k) ?_
      show Goes _ _ _ _ _ _ _ (s₁.setTop (mkF m 33 #[.val (.int p0), .val (.int p1), .val (.int p2), .val (.int p3), .val (.int p4), .val (.int p5), .val (.int (2 : Int32)), .val (.int ((((p5.toUInt32 >>> ((2 : Int32) &&& 31).toUInt32).toInt32) &&& (3 : Int32)) % (3 : Int32))), .unset, .unset, .unset, .unset] [(.int (0 : Int32))]))
      refine Goes.step (fun _ k => XS.istore X0.here hx rfl (hb hby at_33) rfl (l' := #[.val (.int p0), .val (.int p1), .val (.int p2), .val (.int p3), .val (.int p4), .val (.int p5), .val (.int (2 : Int32)), .val (.int ((((p5.toUInt32 >>> ((2 : Int32) &&& 31).toUInt32).toInt32) &&& (3 : Int32)) % (3 : Int32))), .val (.int (0 : Int32)), .unset, .unset, .unset]) rfl k) ?_
      show Goes _ _ _ _ _ _ _ (s₁.setTop (mkF m 35 #[.val (.int p0), .val (.int p1), .val (.int p2), .val (.int p3), .val (.int p4), .val (.int p5), .val (.int (2 : Int32)), .val (.int ((((p5.toUInt32 >>> ((2 : Int32) &&& 31).toUInt32).toInt32) &&& (3 : Int32)) % (3 : Int32))), .val (.int (0 : Int32)), .unset, .unset, .unset] []))
      obtain ⟨T110, h110, X110, e110, E110, A110, D110, -, st110⟩ := newO X0 hx hZ hown (hw _ (List.mem_of_getElem? (i := 0) rfl)) (hw _ (List.mem_of_getElem? (i := 1) rfl)) (hw _ (List.mem_of_getElem? (i := 2) rfl)) e0 (g := (mkF m 35 #[.val (.int p0), .val (.int p1), .val (.int p2), .val (.int p3), .val (.int p4), .val (.int p5), .val (.int (2 : Int32)), .val (.int ((((p5.toUInt32 >>> ((2 : Int32) &&& 31).toUInt32).toInt32) &&& (3 : Int32)) % (3 : Int32))), .val (.int (0 : Int32)), .unset, .unset, .unset] [])) rfl (hb hby at_35) (by decide) (by decide)
      obtain ⟨b110, g110⟩ : ∃ z, z = h0.size := ⟨_, rfl⟩
      rw [← g110] at A110 D110 st110
      refine Goes.step st110 ?_
      have g_b110 : n0 ≤ b110 := Nat.le_trans Z0 (Nat.le_of_eq g110.symm)
      have sz_b110 : h0.size ≤ b110 := Nat.le_trans K0.1 (Nat.le_of_eq g110.symm)
      have K111 : Keep h0 h110 [] := K0.ext E110
      have Z111 : n0 ≤ h110.size := Nat.le_trans Z0 E110.1
      have E_b110 := A110
      have F_nodes_b110 : Fld Z h110 b110 "com/example/hailwise/hailwise/NodeQueue" "nodes" "[I" .null := D110 (Or.inl (hw _ (List.mem_of_getElem? (i := 11) rfl))) (ty := (.array .int)) (by decide)
      have F_keys_b110 : Fld Z h110 b110 "com/example/hailwise/hailwise/NodeQueue" "keys" "[D" .null := D110 (Or.inl (hw _ (List.mem_of_getElem? (i := 14) rfl))) (ty := (.array .double)) (by decide)
      have F_size_b110 : Fld Z h110 b110 "com/example/hailwise/hailwise/NodeQueue" "size" "I" (.int (0 : Int32)) := D110 (Or.inl (hw _ (List.mem_of_getElem? (i := 21) rfl))) (ty := .int) (by decide)
      show Goes _ _ _ _ _ _ _ (T110.setTop (mkF m 38 #[.val (.int p0), .val (.int p1), .val (.int p2), .val (.int p3), .val (.int p4), .val (.int p5), .val (.int (2 : Int32)), .val (.int ((((p5.toUInt32 >>> ((2 : Int32) &&& 31).toUInt32).toInt32) &&& (3 : Int32)) % (3 : Int32))), .val (.int (0 : Int32)), .unset, .unset, .unset] [(.ref b110)]))
      refine Goes.step (fun _ k => XS.dup X110.here hx rfl (hb hby at_38) rfl rfl k) ?_
      show Goes _ _ _ _ _ _ _ (T110.setTop (mkF m 39 #[.val (.int p0), .val (.int p1), .val (.int p2), .val (.int p3), .val (.int p4), .val (.int p5), .val (.int (2 : Int32)), .val (.int ((((p5.toUInt32 >>> ((2 : Int32) &&& 31).toUInt32).toInt32) &&& (3 : Int32)) % (3 : Int32))), .val (.int (0 : Int32)), .unset, .unset, .unset] [(.ref b110), (.ref b110)]))
      obtain ⟨_, _, ⟨T112, L112, k112, n112⟩, -, X112, ⟨Lc112, hQ112, l112, y112, z112⟩, st112⟩ := X110.specialBack hx (y := (⟨"com/example/hailwise/hailwise/NodeQueue", "<init>", "()V"⟩ : MethodName)) rfl hown (mvT hZ (hw _ (List.mem_of_getElem? (i := 3) rfl))) (mvT hZ (hw _ (List.mem_of_getElem? (i := 4) rfl))) (mvT hZ (hw _ (List.mem_of_getElem? (i := 5) rfl))) (by decide) (backOf (W := 1) (rm1 l Z a0 hw [] b110 h110 n0 Z111 F_nodes_b110 F_keys_b110 F_size_b110 E_b110 g_b110) hZ (hw _ (List.mem_of_getElem? (i := 5) rfl)) (hw _ (List.mem_of_getElem? (i := 2) rfl)) (by decide) (by decide)) (g := (mkF m 39 #[.val (.int p0), .val (.int p1), .val (.int p2), .val (.int p3), .val (.int p4), .val (.int p5), .val (.int (2 : Int32)), .val (.int ((((p5.toUInt32 >>> ((2 : Int32) &&& 31).toUInt32).toInt32) &&& (3 : Int32)) % (3 : Int32))), .val (.int (0 : Int32)), .unset, .unset, .unset] [(.ref b110), (.ref b110)])) rfl (by rw [hml]; rfl) (Steps.refl _) (a := b110) (argsL := []) (rest := [(.ref b110)]) (lenOf pd_0 rfl) rfl (by show 2 * 0 + _ ≤ _; exact Nat.le_of_eq rfl) (hb hby at_39) (fun _ _ => ⟨rfl, e110, (by decide : 1 + 2 ≤ _), (by decide : 3 + 128 ≤ _)⟩)
      dsimp only [Pt.U, Pt.locs, Pt.cells, Pt.slots] at X112 l112 y112 z112 st112 hQ112
      subst l112 y112 z112
      obtain ⟨N112, KK112, hR112⟩ := hQ112
      have NA112 := Fr.app N0 N112
      have f113 := E_b110.keep KK112
      have K117 : Keep h0 T112.heap [] := K111.trans KK112 (allS (Or.inr sz_b110) all0)
      have Z117 : n0 ≤ T112.heap.size := Nat.le_trans Z111 KK112.1
      obtain ⟨r112_0_0, r112_0_1, kk112_0_0, kk112_0_1, rfl, g_r112_0_0, le_r112_0_0, g_r112_0_1, le_r112_0_1, nn112_0_0, v112_0_0, v112_0_1, v112_0_2, v112_0_3, v112_0_4, v112_0_5⟩ := hR112
      have ne118 : b110 ≠ r112_0_0 := Nat.ne_of_lt (Nat.lt_of_lt_of_le E_b110.lt le_r112_0_0)
      have sz_r112_0_0 : h0.size ≤ r112_0_0 := Nat.le_trans K111.1 le_r112_0_0
      have ne119 : b110 ≠ r112_0_1 := Nat.ne_of_lt (Nat.lt_of_lt_of_le E_b110.lt le_r112_0_1)
      have sz_r112_0_1 : h0.size ≤ r112_0_1 := Nat.le_trans K111.1 le_r112_0_1
      refine Goes.back st112 ?_
      show Goes _ _ _ _ _ _ _ (T112.setTop (mkF m 42 #[.val (.int p0), .val (.int p1), .val (.int p2), .val (.int p3), .val (.int p4), .val (.int p5), .val (.int (2 : Int32)), .val (.int ((((p5.toUInt32 >>> ((2 : Int32) &&& 31).toUInt32).toInt32) &&& (3 : Int32)) % (3 : Int32))), .val (.int (0 : Int32)), .unset, .unset, .unset] [(.ref b110)]))
      refine Goes.step (fun _ k => XS.astore X112.here hx rfl (hb hby at_42) rfl rfl (l' := #[.val (.int p0), .val (.int p1), .val (.int p2), .val (.int p3), .val (.int p4), .val (.int p5), .val (.int (2 : Int32)), .val (.int ((((p5.toUInt32 >>> ((2 : Int32) &&& 31).toUInt32).toInt32) &&& (3 : Int32)) % (3 : Int32))), .val (.int (0 : Int32)), .val (.ref b110), .unset, .unset]) rfl k) ?_
      show Goes _ _ _ _ _ _ _ (T112.setTop (mkF m 44 #[.val (.int p0), .val (.int p1), .val (.int p2), .val (.int p3), .val (.int p4), .val (.int p5), .val (.int (2 : Int32)), .val (.int ((((p5.toUInt32 >>> ((2 : Int32) &&& 31).toUInt32).toInt32) &&& (3 : Int32)) % (3 : Int32))), .val (.int (0 : Int32)), .val (.ref b110), .unset, .unset] []))
      refine Goes.step (fun _ k => XS.iload X112.here hx rfl (hb hby at_44) rfl  k) ?_
      show Goes _ _ _ _ _ _ _ (T112.setTop (mkF m 46 #[.val (.int p0), .val (.int p1), .val (.int p2), .val (.int p3), .val (.int p4), .val (.int p5), .val (.int (2 : Int32)), .val (.int ((((p5.toUInt32 >>> ((2 : Int32) &&& 31).toUInt32).toInt32) &&& (3 : Int32)) % (3 : Int32))), .val (.int (0 : Int32)), .val (.ref b110), .unset, .unset] [(.int (2 : Int32))]))
      refine Goes.step (fun _ k => XS.iconst X112.here hx rfl (hb hby at_46) k) ?_
      show Goes _ _ _ _ _ _ _ (T112.setTop (mkF m 47 #[.val (.int p0), .val (.int p1), .val (.int p2), .val (.int p3), .val (.int p4), .val (.int p5), .val (.int (2 : Int32)), .val (.int ((((p5.toUInt32 >>> ((2 : Int32) &&& 31).toUInt32).toInt32) &&& (3 : Int32)) % (3 : Int32))), .val (.int (0 : Int32)), .val (.ref b110), .unset, .unset] [(.int (1 : Int32)), (.int (2 : Int32))]))
      refine Goes.step (fun _ k => XS.icmpNo X112.here hx rfl (hb hby at_47) rfl (flt (by decide : ¬ ((2 : Int32) < (1 : Int32)))).1 k) ?_
      show Goes _ _ _ _ _ _ _ (T112.setTop (mkF m 50 #[.val (.int p0), .val (.int p1), .val (.int p2), .val (.int p3), .val (.int p4), .val (.int p5), .val (.int (2 : Int32)), .val (.int ((((p5.toUInt32 >>> ((2 : Int32) &&& 31).toUInt32).toInt32) &&& (3 : Int32)) % (3 : Int32))), .val (.int (0 : Int32)), .val (.ref b110), .unset, .unset] []))
      refine Goes.step (fun _ k => XS.aload X112.here hx rfl (hb hby at_50) rfl rfl k) ?_
      show Goes _ _ _ _ _ _ _ (T112.setTop (mkF m 52 #[.val (.int p0), .val (.int p1), .val (.int p2), .val (.int p3), .val (.int p4), .val (.int p5), .val (.int (2 : Int32)), .val (.int ((((p5.toUInt32 >>> ((2 : Int32) &&& 31).toUInt32).toInt32) &&& (3 : Int32)) % (3 : Int32))), .val (.int (0 : Int32)), .val (.ref b110), .unset, .unset] [(.ref b110)]))
      refine Goes.step (fun _ k => XS.iloadN X112.here hx rfl (hb hby at_52) rfl  k) ?_
      show Goes _ _ _ _ _ _ _ (T112.setTop (mkF m 53 #[.val (.int p0), .val (.int p1), .val (.int p2), .val (.int p3), .val (.int p4), .val (.int p5), .val (.int (2 : Int32)), .val (.int ((((p5.toUInt32 >>> ((2 : Int32) &&& 31).toUInt32).toInt32) &&& (3 : Int32)) % (3 : Int32))), .val (.int (0 : Int32)), .val (.ref b110), .unset, .unset] [(.int p0), (.ref b110)]))
      refine Goes.step (fun _ k => XS.iloadN X112.here hx rfl (hb hby at_53) rfl  k) ?_
      show Goes _ _ _ _ _ _ _ (T112.setTop (mkF m 54 #[.val (.int p0), .val (.int p1), .val (.int p2), .val (.int p3), .val (.int p4), .val (.int p5), .val (.int (2 : Int32)), .val (.int ((((p5.toUInt32 >>> ((2 : Int32) &&& 31).toUInt32).toInt32) &&& (3 : Int32)) % (3 : Int32))), .val (.int (0 : Int32)), .val (.ref b110), .unset, .unset] [(.int p3), (.int p0), (.ref b110)]))
      refine Goes.step (fun _ k => XS.sipush X112.here hx rfl (hb hby at_54) k) ?_
      show Goes _ _ _ _ _ _ _ (T112.setTop (mkF m 57 #[.val (.int p0), .val (.int p1), .val (.int p2), .val (.int p3), .val (.int p4), .val (.int p5), .val (.int (2 : Int32)), .val (.int ((((p5.toUInt32 >>> ((2 : Int32) &&& 31).toUInt32).toInt32) &&& (3 : Int32)) % (3 : Int32))), .val (.int (0 : Int32)), .val (.ref b110), .unset, .unset] [(.int (255 : Int32)), (.int p3), (.int p0), (.ref b110)]))
      refine Goes.step (fun _ k => XS.iand X112.here hx rfl (hb hby at_57) rfl k) ?_
      show Goes _ _ _ _ _ _ _ (T112.setTop (mkF m 58 #[.val (.int p0), .val (.int p1), .val (.int p2), .val (.int p3), .val (.int p4), .val (.int p5), .val (.int (2 : Int32)), .val (.int ((((p5.toUInt32 >>> ((2 : Int32) &&& 31).toUInt32).toInt32) &&& (3 : Int32)) % (3 : Int32))), .val (.int (0 : Int32)), .val (.ref b110), .unset, .unset] [(.int (p3 &&& (255 : Int32))), (.int p0), (.ref b110)]))
      refine Goes.step (fun _ k => XS.i2dS X112.here hx rfl (hb hby at_58) rfl rfl k) ?_
      show Goes _ _ _ _ _ _ _ (T112.setTop (mkF m 59 #[.val (.int p0), .val (.int p1), .val (.int p2), .val (.int p3), .val (.int p4), .val (.int p5), .val (.int (2 : Int32)), .val (.int ((((p5.toUInt32 >>> ((2 : Int32) &&& 31).toUInt32).toInt32) &&& (3 : Int32)) % (3 : Int32))), .val (.int (0 : Int32)), .val (.ref b110), .unset, .unset] [(.double (FP.i2d (p3 &&& (255 : Int32)))), (.int p0), (.ref b110)]))
      obtain ⟨cq120, kq120, q120a, q120b, q120c⟩ := isOf hZ rfl v112_0_3
      obtain ⟨_, _, ⟨T120, L120, k120, n120⟩, -, X120, ⟨Lc120, hQ120, l120, y120, z120⟩, st120⟩ := X112.virtualBack hx (y := (⟨"com/example/hailwise/hailwise/NodeQueue", "add", "(ID)V"⟩ : MethodName)) (z := (⟨"com/example/hailwise/hailwise/NodeQueue", "add", "(ID)V"⟩ : MethodName)) hown (mvT hZ (hw _ (List.mem_of_getElem? (i := 15) rfl))) (mvT hZ (hw _ (List.mem_of_getElem? (i := 16) rfl))) (notFace_of_selects (args := #[]) (mvT hZ (hw _ (List.mem_of_getElem? (i := 18) rfl)))) (mvT hZ (hw _ (List.mem_of_getElem? (i := 18) rfl))) (mvT hZ (hw _ (List.mem_of_getElem? (i := 17) rfl))) (by decide) (backOf (W := 0) (rm3_0 l Z a0 hw [] b110 p0 (FP.i2d (p3 &&& (255 : Int32))) r112_0_0 r112_0_1 kk112_0_0 kk112_0_1 T112.heap n0 Z117 v112_0_0 v112_0_1 v112_0_2 v112_0_3 v112_0_4 v112_0_5 g_b110 g_r112_0_0 g_r112_0_1 ne118 ne119 (Ne.symm nn112_0_0)) hZ (hw _ (List.mem_of_getElem? (i := 19) rfl)) (hw _ (List.mem_of_getElem? (i := 2) rfl)) (by decide) (by decide)) q120a q120c (g := (mkF m 59 #[.val (.int p0), .val (.int p1), .val (.int p2), .val (.int p3), .val (.int p4), .val (.int p5), .val (.int (2 : Int32)), .val (.int ((((p5.toUInt32 >>> ((2 : Int32) &&& 31).toUInt32).toInt32) &&& (3 : Int32)) % (3 : Int32))), .val (.int (0 : Int32)), .val (.ref b110), .unset, .unset] [(.double (FP.i2d (p3 &&& (255 : Int32)))), (.int p0), (.ref b110)])) rfl (by rw [hml]; rfl) (Steps.refl _) (argsL := [(.int p0), (.double (FP.i2d (p3 &&& (255 : Int32))))]) (rest := []) (lenOf pd_1 rfl) rfl (by show 2 * 0 + _ ≤ _; exact Nat.le_of_eq rfl) (hb hby at_59) (fun _ _ => ⟨rfl, rfl, (by decide : 3 + 0 ≤ _), (by decide : 131 + 0 ≤ _)⟩)
      dsimp only [Pt.U, Pt.locs, Pt.cells, Pt.slots] at X120 l120 y120 z120 st120 hQ120
      subst l120 y120 z120
      obtain ⟨N120, KK120, hR120⟩ := hQ120
      have NA120 := Fr.app NA112 N120
      have f121 := v112_0_3.keep KK120
      have K127 : Keep h0 T120.heap [] := K117.trans KK120 (allS (Or.inr sz_b110) (allS (Or.inr sz_r112_0_0) (allS (Or.inr sz_r112_0_1) all0)))
      have Z127 : n0 ≤ T120.heap.size := Nat.le_trans Z117 KK120.1
      obtain ⟨rfl, v120_0_0, v120_0_1, v120_0_2, v120_0_3, v120_0_4, v120_0_5⟩ := hR120
      refine Goes.back st120 ?_
      show Goes _ _ _ _ _ _ _ (T120.setTop (mkF m 62 #[.val (.int p0), .val (.int p1), .val (.int p2), .val (.int p3), .val (.int p4), .val (.int p5), .val (.int (2 : Int32)), .val (.int ((((p5.toUInt32 >>> ((2 : Int32) &&& 31).toUInt32).toInt32) &&& (3 : Int32)) % (3 : Int32))), .val (.int (0 : Int32)), .val (.ref b110), .unset, .unset] []))
      refine Goes.step (fun _ k => XS.iload X120.here hx rfl (hb hby at_62) rfl  k) ?_
      show Goes _ _ _ _ _ _ _ (T120.setTop (mkF m 64 #[.val (.int p0), .val (.int p1), .val (.int p2), .val (.int p3), .val (.int p4), .val (.int p5), .val (.int (2 : Int32)), .val (.int ((((p5.toUInt32 >>> ((2 : Int32) &&& 31).toUInt32).toInt32) &&& (3 : Int32)) % (3 : Int32))), .val (.int (0 : Int32)), .val (.ref b110), .unset, .unset] [(.int (2 : Int32))]))
      refine Goes.step (fun _ k => XS.iconst X120.here hx rfl (hb hby at_64) k) ?_
      show Goes _ _ _ _ _ _ _ (T120.setTop (mkF m 65 #[.val (.int p0), .val (.int p1), .val (.int p2), .val (.int p3), .val (.int p4), .val (.int p5), .val (.int (2 : Int32)), .val (.int ((((p5.toUInt32 >>> ((2 : Int32) &&& 31).toUInt32).toInt32) &&& (3 : Int32)) % (3 : Int32))), .val (.int (0 : Int32)), .val (.ref b110), .unset, .unset] [(.int (2 : Int32)), (.int (2 : Int32))]))
      refine Goes.step (fun _ k => XS.icmpNo X120.here hx rfl (hb hby at_65) rfl (flt (by decide : ¬ ((2 : Int32) < (2 : Int32)))).1 k) ?_
      show Goes _ _ _ _ _ _ _ (T120.setTop (mkF m 68 #[.val (.int p0), .val (.int p1), .val (.int p2), .val (.int p3), .val (.int p4), .val (.int p5), .val (.int (2 : Int32)), .val (.int ((((p5.toUInt32 >>> ((2 : Int32) &&& 31).toUInt32).toInt32) &&& (3 : Int32)) % (3 : Int32))), .val (.int (0 : Int32)), .val (.ref b110), .unset, .unset] []))
      refine Goes.step (fun _ k => XS.aload X120.here hx rfl (hb hby at_68) rfl rfl k) ?_
      show Goes _ _ _ _ _ _ _ (T120.setTop (mkF m 70 #[.val (.int p0), .val (.int p1), .val (.int p2), .val (.int p3), .val (.int p4), .val (.int p5), .val (.int (2 : Int32)), .val (.int ((((p5.toUInt32 >>> ((2 : Int32) &&& 31).toUInt32).toInt32) &&& (3 : Int32)) % (3 : Int32))), .val (.int (0 : Int32)), .val (.ref b110), .unset, .unset] [(.ref b110)]))
      refine Goes.step (fun _ k => XS.iloadN X120.here hx rfl (hb hby at_70) rfl  k) ?_
      show Goes _ _ _ _ _ _ _ (T120.setTop (mkF m 71 #[.val (.int p0), .val (.int p1), .val (.int p2), .val (.int p3), .val (.int p4), .val (.int p5), .val (.int (2 : Int32)), .val (.int ((((p5.toUInt32 >>> ((2 : Int32) &&& 31).toUInt32).toInt32) &&& (3 : Int32)) % (3 : Int32))), .val (.int (0 : Int32)), .val (.ref b110), .unset, .unset] [(.int p1), (.ref b110)]))
      refine Goes.step (fun _ k => XS.iload X120.here hx rfl (hb hby at_71) rfl  k) ?_
      show Goes _ _ _ _ _ _ _ (T120.setTop (mkF m 73 #[.val (.int p0), .val (.int p1), .val (.int p2), .val (.int p3), .val (.int p4), .val (.int p5), .val (.int (2 : Int32)), .val (.int ((((p5.toUInt32 >>> ((2 : Int32) &&& 31).toUInt32).toInt32) &&& (3 : Int32)) % (3 : Int32))), .val (.int (0 : Int32)), .val (.ref b110), .unset, .unset] [(.int p4), (.int p1), (.ref b110)]))
      refine Goes.step (fun _ k => XS.sipush X120.here hx rfl (hb hby at_73) k) ?_
      show Goes _ _ _ _ _ _ _ (T120.setTop (mkF m 76 #[.val (.int p0), .val (.int p1), .val (.int p2), .val (.int p3), .val (.int p4), .val (.int p5), .val (.int (2 : Int32)), .val (.int ((((p5.toUInt32 >>> ((2 : Int32) &&& 31).toUInt32).toInt32) &&& (3 : Int32)) % (3 : Int32))), .val (.int (0 : Int32)), .val (.ref b110), .unset, .unset] [(.int (255 : Int32)), (.int p4), (.int p1), (.ref b110)]))
      refine Goes.step (fun _ k => XS.iand X120.here hx rfl (hb hby at_76) rfl k) ?_
      show Goes _ _ _ _ _ _ _ (T120.setTop (mkF m 77 #[.val (.int p0), .val (.int p1), .val (.int p2), .val (.int p3), .val (.int p4), .val (.int p5), .val (.int (2 : Int32)), .val (.int ((((p5.toUInt32 >>> ((2 : Int32) &&& 31).toUInt32).toInt32) &&& (3 : Int32)) % (3 : Int32))), .val (.int (0 : Int32)), .val (.ref b110), .unset, .unset] [(.int (p4 &&& (255 : Int32))), (.int p1), (.ref b110)]))
      refine Goes.step (fun _ k => XS.i2dS X120.here hx rfl (hb hby at_77) rfl rfl k) ?_
      show Goes _ _ _ _ _ _ _ (T120.setTop (mkF m 78 #[.val (.int p0), .val (.int p1), .val (.int p2), .val (.int p3), .val (.int p4), .val (.int p5), .val (.int (2 : Int32)), .val (.int ((((p5.toUInt32 >>> ((2 : Int32) &&& 31).toUInt32).toInt32) &&& (3 : Int32)) % (3 : Int32))), .val (.int (0 : Int32)), .val (.ref b110), .unset, .unset] [(.double (FP.i2d (p4 &&& (255 : Int32)))), (.int p1), (.ref b110)]))
      obtain ⟨cq128, kq128, q128a, q128b, q128c⟩ := isOf hZ rfl v120_0_3
      obtain ⟨_, _, ⟨T128, L128, k128, n128⟩, -, X128, ⟨Lc128, hQ128, l128, y128, z128⟩, st128⟩ := X120.virtualBack hx (y := (⟨"com/example/hailwise/hailwise/NodeQueue", "add", "(ID)V"⟩ : MethodName)) (z := (⟨"com/example/hailwise/hailwise/NodeQueue", "add", "(ID)V"⟩ : MethodName)) hown (mvT hZ (hw _ (List.mem_of_getElem? (i := 15) rfl))) (mvT hZ (hw _ (List.mem_of_getElem? (i := 16) rfl))) (notFace_of_selects (args := #[]) (mvT hZ (hw _ (List.mem_of_getElem? (i := 18) rfl)))) (mvT hZ (hw _ (List.mem_of_getElem? (i := 18) rfl))) (mvT hZ (hw _ (List.mem_of_getElem? (i := 17) rfl))) (by decide) (backOf (W := 0) (rm3_1 l Z a0 hw [] b110 p1 (FP.i2d (p4 &&& (255 : Int32))) r112_0_0 r112_0_1 kk112_0_0 kk112_0_1 T120.heap n0 Z127 v120_0_0 v120_0_1 v120_0_2 v120_0_3 v120_0_4 v120_0_5 g_b110 g_r112_0_0 g_r112_0_1 ne118 ne119 (Ne.symm nn112_0_0)) hZ (hw _ (List.mem_of_getElem? (i := 19) rfl)) (hw _ (List.mem_of_getElem? (i := 2) rfl)) (by decide) (by decide)) q128a q128c (g := (mkF m 78 #[.val (.int p0), .val (.int p1), .val (.int p2), .val (.int p3), .val (.int p4), .val (.int p5), .val (.int (2 : Int32)), .val (.int ((((p5.toUInt32 >>> ((2 : Int32) &&& 31).toUInt32).toInt32) &&& (3 : Int32)) % (3 : Int32))), .val (.int (0 : Int32)), .val (.ref b110), .unset, .unset] [(.double (FP.i2d (p4 &&& (255 : Int32)))), (.int p1), (.ref b110)])) rfl (by rw [hml]; rfl) (Steps.refl _) (argsL := [(.int p1), (.double (FP.i2d (p4 &&& (255 : Int32))))]) (rest := []) (lenOf pd_1 rfl) rfl (by show 2 * 0 + _ ≤ _; exact Nat.le_of_eq rfl) (hb hby at_78) (fun _ _ => ⟨rfl, rfl, (by decide : 3 + 0 ≤ _), (by decide : 131 + 0 ≤ _)⟩)
      dsimp only [Pt.U, Pt.locs, Pt.cells, Pt.slots] at X128 l128 y128 z128 st128 hQ128
      subst l128 y128 z128
      obtain ⟨N128, KK128, hR128⟩ := hQ128
      have NA128 := Fr.app NA120 N128
      have f129 := v120_0_3.keep KK128
      have K135 : Keep h0 T128.heap [] := K127.trans KK128 (allS (Or.inr sz_b110) (allS (Or.inr sz_r112_0_0) (allS (Or.inr sz_r112_0_1) all0)))
      have Z135 : n0 ≤ T128.heap.size := Nat.le_trans Z127 KK128.1
      obtain ⟨rfl, v128_0_0, v128_0_1, v128_0_2, v128_0_3, v128_0_4, v128_0_5⟩ := hR128
      refine Goes.back st128 ?_
      show Goes _ _ _ _ _ _ _ (T128.setTop (mkF m 81 #[.val (.int p0), .val (.int p1), .val (.int p2), .val (.int p3), .val (.int p4), .val (.int p5), .val (.int (2 : Int32)), .val (.int ((((p5.toUInt32 >>> ((2 : Int32) &&& 31).toUInt32).toInt32) &&& (3 : Int32)) % (3 : Int32))), .val (.int (0 : Int32)), .val (.ref b110), .unset, .unset] []))
      refine Goes.step (fun _ k => XS.iload X128.here hx rfl (hb hby at_81) rfl  k) ?_
      show Goes _ _ _ _ _ _ _ (T128.setTop (mkF m 83 #[.val (.int p0), .val (.int p1), .val (.int p2), .val (.int p3), .val (.int p4), .val (.int p5), .val (.int (2 : Int32)), .val (.int ((((p5.toUInt32 >>> ((2 : Int32) &&& 31).toUInt32).toInt32) &&& (3 : Int32)) % (3 : Int32))), .val (.int (0 : Int32)), .val (.ref b110), .unset, .unset] [(.int (2 : Int32))]))
      refine Goes.step (fun _ k => XS.iconst X128.here hx rfl (hb hby at_83) k) ?_
      show Goes _ _ _ _ _ _ _ (T128.setTop (mkF m 84 #[.val (.int p0), .val (.int p1), .val (.int p2), .val (.int p3), .val (.int p4), .val (.int p5), .val (.int (2 : Int32)), .val (.int ((((p5.toUInt32 >>> ((2 : Int32) &&& 31).toUInt32).toInt32) &&& (3 : Int32)) % (3 : Int32))), .val (.int (0 : Int32)), .val (.ref b110), .unset, .unset] [(.int (3 : Int32)), (.int (2 : Int32))]))
      refine Goes.step (fun _ k => XS.icmpYes X128.here hx rfl (pc0 := 84) (pc' := 102) rfl (hb hby at_84) rfl (tlt (by decide : (2 : Int32) < (3 : Int32))).1 (by decide) (by decide) k) ?_
      show Goes _ _ _ _ _ _ _ (T128.setTop (mkF m 102 #[.val (.int p0), .val (.int p1), .val (.int p2), .val (.int p3), .val (.int p4), .val (.int p5), .val (.int (2 : Int32)), .val (.int ((((p5.toUInt32 >>> ((2 : Int32) &&& 31).toUInt32).toInt32) &&& (3 : Int32)) % (3 : Int32))), .val (.int (0 : Int32)), .val (.ref b110), .unset, .unset] []))
      refine Goes.step (fun _ k => XS.aload X128.here hx rfl (hb hby at_102) rfl rfl k) ?_
      show Goes _ _ _ _ _ _ _ (T128.setTop (mkF m 104 #[.val (.int p0), .val (.int p1), .val (.int p2), .val (.int p3), .val (.int p4), .val (.int p5), .val (.int (2 : Int32)), .val (.int ((((p5.toUInt32 >>> ((2 : Int32) &&& 31).toUInt32).toInt32) &&& (3 : Int32)) % (3 : Int32))), .val (.int (0 : Int32)), .val (.ref b110), .unset, .unset] [(.ref b110)]))
      obtain ⟨cq136, kq136, q136a, q136b, q136c⟩ := isOf hZ rfl v128_0_3
      obtain ⟨_, _, ⟨T136, L136, k136, n136⟩, -, X136, ⟨Lc136, hQ136, l136, y136, z136⟩, st136⟩ := X128.virtualBack hx (y := (⟨"com/example/hailwise/hailwise/NodeQueue", "isEmpty", "()Z"⟩ : MethodName)) (z := (⟨"com/example/hailwise/hailwise/NodeQueue", "isEmpty", "()Z"⟩ : MethodName)) hown (mvT hZ (hw _ (List.mem_of_getElem? (i := 22) rfl))) (mvT hZ (hw _ (List.mem_of_getElem? (i := 23) rfl))) (notFace_of_selects (args := #[]) (mvT hZ (hw _ (List.mem_of_getElem? (i := 25) rfl)))) (mvT hZ (hw _ (List.mem_of_getElem? (i := 25) rfl))) (mvT hZ (hw _ (List.mem_of_getElem? (i := 24) rfl))) (by decide) (backOf (W := 0) (rm4 l Z a0 hw [] b110 (2 : Int32) T128.heap n0 Z135 v128_0_2) hZ (hw _ (List.mem_of_getElem? (i := 26) rfl)) (hw _ (List.mem_of_getElem? (i := 2) rfl)) (by decide) (by decide)) q136a q136c (g := (mkF m 104 #[.val (.int p0), .val (.int p1), .val (.int p2), .val (.int p3), .val (.int p4), .val (.int p5), .val (.int (2 : Int32)), .val (.int ((((p5.toUInt32 >>> ((2 : Int32) &&& 31).toUInt32).toInt32) &&& (3 : Int32)) % (3 : Int32))), .val (.int (0 : Int32)), .val (.ref b110), .unset, .unset] [(.ref b110)])) rfl (by rw [hml]; rfl) (Steps.refl _) (argsL := []) (rest := []) (lenOf pd_2 rfl) rfl (by show 2 * 0 + _ ≤ _; exact Nat.le_of_eq rfl) (hb hby at_104) (fun _ _ => ⟨rfl, rfl, (by decide : 3 + 0 ≤ _), (by decide : 131 + 0 ≤ _)⟩)
      dsimp only [Pt.U, Pt.locs, Pt.cells, Pt.slots] at X136 l136 y136 z136 st136 hQ136
      subst l136 y136 z136
      obtain ⟨N136, eh136, hR136⟩ := hQ136
      have NA136 := Fr.app NA128 N136
      rcases hR136 with ⟨rfl, u136_0_0⟩ | ⟨rfl, u136_1_0⟩
      · exact absurd u136_0_0 (by decide : ¬ ((2 : Int32) = (0 : Int32)))
      · refine Goes.back st136 ?_
        show Goes _ _ _ _ _ _ _ (T136.setTop (mkF m 107 #[.val (.int p0), .val (.int p1), .val (.int p2), .val (.int p3), .val (.int p4), .val (.int p5), .val (.int (2 : Int32)), .val (.int ((((p5.toUInt32 >>> ((2 : Int32) &&& 31).toUInt32).toInt32) &&& (3 : Int32)) % (3 : Int32))), .val (.int (0 : Int32)), .val (.ref b110), .unset, .unset] [(.int (0 : Int32))]))
        refine Goes.step (fun _ k => XS.iload X136.here hx rfl (hb hby at_107) rfl  k) ?_
        show Goes _ _ _ _ _ _ _ (T136.setTop (mkF m 109 #[.val (.int p0), .val (.int p1), .val (.int p2), .val (.int p3), .val (.int p4), .val (.int p5), .val (.int (2 : Int32)), .val (.int ((((p5.toUInt32 >>> ((2 : Int32) &&& 31).toUInt32).toInt32) &&& (3 : Int32)) % (3 : Int32))), .val (.int (0 : Int32)), .val (.ref b110), .unset, .unset] [(.int (2 : Int32)), (.int (0 : Int32))]))
        refine Goes.step (fun _ k => XS.ifYes X136.here hx rfl (pc0 := 109) (pc' := 116) rfl (hb hby at_109) rfl ((if0 _ _).trans (feq (by decide : ¬ ((2 : Int32) = (0 : Int32)))).2) (by decide) (by decide) k) ?_
        show Goes _ _ _ _ _ _ _ (T136.setTop (mkF m 116 #[.val (.int p0), .val (.int p1), .val (.int p2), .val (.int p3), .val (.int p4), .val (.int p5), .val (.int (2 : Int32)), .val (.int ((((p5.toUInt32 >>> ((2 : Int32) &&& 31).toUInt32).toInt32) &&& (3 : Int32)) % (3 : Int32))), .val (.int (0 : Int32)), .val (.ref b110), .unset, .unset] [(.int (0 : Int32))]))
        refine Goes.step (fun _ k => XS.iconst X136.here hx rfl (hb hby at_116) k) ?_
        show Goes _ _ _ _ _ _ _ (T136.setTop (mkF m 117 #[.val (.int p0), .val (.int p1), .val (.int p2), .val (.int p3), .val (.int p4), .val (.int p5), .val (.int (2 : Int32)), .val (.int ((((p5.toUInt32 >>> ((2 : Int32) &&& 31).toUInt32).toInt32) &&& (3 : Int32)) % (3 : Int32))), .val (.int (0 : Int32)), .val (.ref b110), .unset, .unset] [(.int (0 : Int32)), (.int (0 : Int32))]))
        refine Goes.step (fun _ k => XS.icmpNo X136.here hx rfl (hb hby at_117) rfl (teq (by decide : (0 : Int32) = (0 : Int32))).2 k) ?_
        show Goes _ _ _ _ _ _ _ (T136.setTop (mkF m 120 #[.val (.int p0), .val (.int p1), .val (.int p2), .val (.int p3), .val (.int p4), .val (.int p5), .val (.int (2 : Int32)), .val (.int ((((p5.toUInt32 >>> ((2 : Int32) &&& 31).toUInt32).toInt32) &&& (3 : Int32)) % (3 : Int32))), .val (.int (0 : Int32)), .val (.ref b110), .unset, .unset] []))
        refine Goes.step (fun _ k => XS.iconst X136.here hx rfl (hb hby at_120) k) ?_
        show Goes _ _ _ _ _ _ _ (T136.setTop (mkF m 121 #[.val (.int p0), .val (.int p1), .val (.int p2), .val (.int p3), .val (.int p4), .val (.int p5), .val (.int (2 : Int32)), .val (.int ((((p5.toUInt32 >>> ((2 : Int32) &&& 31).toUInt32).toInt32) &&& (3 : Int32)) % (3 : Int32))), .val (.int (0 : Int32)), .val (.ref b110), .unset, .unset] [(.int (1 : Int32))]))
        refine Goes.step (fun _ k => XS.goto X136.here hx rfl (pc0 := 121) (pc' := 125) rfl (hb hby at_121) (by decide) (by decide) k) ?_
        show Goes _ _ _ _ _ _ _ (T136.setTop (mkF m 125 #[.val (.int p0), .val (.int p1), .val (.int p2), .val (.int p3), .val (.int p4), .val (.int p5), .val (.int (2 : Int32)), .val (.int ((((p5.toUInt32 >>> ((2 : Int32) &&& 31).toUInt32).toInt32) &&& (3 : Int32)) % (3 : Int32))), .val (.int (0 : Int32)), .val (.ref b110), .unset, .unset] [(.int (1 : Int32))]))
        refine Goes.step (fun _ k => XS.istore X136.here hx rfl (hb hby at_125) rfl (l' := #[.val (.int p0), .val (.int p1), .val (.int p2), .val (.int p3), .val (.int p4), .val (.int p5), .val (.int (2 : Int32)), .val (.int ((((p5.toUInt32 >>> ((2 : Int32) &&& 31).toUInt32).toInt32) &&& (3 : Int32)) % (3 : Int32))), .val (.int (0 : Int32)), .val (.ref b110), .val (.int (1 : Int32)), .unset]) rfl k) ?_
        show Goes _ _ _ _ _ _ _ (T136.setTop (mkF m 127 #[.val (.int p0), .val (.int p1), .val (.int p2), .val (.int p3), .val (.int p4), .val (.int p5), .val (.int (2 : Int32)), .val (.int ((((p5.toUInt32 >>> ((2 : Int32) &&& 31).toUInt32).toInt32) &&& (3 : Int32)) % (3 : Int32))), .val (.int (0 : Int32)), .val (.ref b110), .val (.int (1 : Int32)), .unset] []))
        generalize hg_m7 : ((((p5.toUInt32 >>> ((2 : Int32) &&& 31).toUInt32).toInt32) &&& (3 : Int32)) % (3 : Int32)) = m7
        show Goes _ _ _ _ _ _ _ (T136.setTop (mkF m 127 #[.val (.int p0), .val (.int p1), .val (.int p2), .val (.int p3), .val (.int p4), .val (.int p5), .val (.int (2 : Int32)), .val (.int m7), .val (.int (0 : Int32)), .val (.ref b110), .val (.int (1 : Int32)), .unset] []))
        rcases own_m3 hg_m7 with rfl | rfl | rfl
        · show Goes _ _ _ _ _ _ _ (T136.setTop (mkF m 127 #[.val (.int p0), .val (.int p1), .val (.int p2), .val (.int p3), .val (.int p4), .val (.int p5), .val (.int (2 : Int32)), .val (.int (0 : Int32)), .val (.int (0 : Int32)), .val (.ref b110), .val (.int (1 : Int32)), .unset] []))
          refine Goes.step (fun _ k => XS.iload X136.here hx rfl (hb hby at_127) rfl  k) ?_
          show Goes _ _ _ _ _ _ _ (T136.setTop (mkF m 129 #[.val (.int p0), .val (.int p1), .val (.int p2), .val (.int p3), .val (.int p4), .val (.int p5), .val (.int (2 : Int32)), .val (.int (0 : Int32)), .val (.int (0 : Int32)), .val (.ref b110), .val (.int (1 : Int32)), .unset] [(.int (0 : Int32))]))
          refine Goes.step (fun _ k => XS.iconst X136.here hx rfl (hb hby at_129) k) ?_
          show Goes _ _ _ _ _ _ _ (T136.setTop (mkF m 130 #[.val (.int p0), .val (.int p1), .val (.int p2), .val (.int p3), .val (.int p4), .val (.int p5), .val (.int (2 : Int32)), .val (.int (0 : Int32)), .val (.int (0 : Int32)), .val (.ref b110), .val (.int (1 : Int32)), .unset] [(.int (1 : Int32)), (.int (0 : Int32))]))
          refine Goes.step (fun _ k => XS.icmpYes X136.here hx rfl (pc0 := 130) (pc' := 139) rfl (hb hby at_130) rfl (tlt (by decide : (0 : Int32) < (1 : Int32))).1 (by decide) (by decide) k) ?_
          show Goes _ _ _ _ _ _ _ (T136.setTop (mkF m 139 #[.val (.int p0), .val (.int p1), .val (.int p2), .val (.int p3), .val (.int p4), .val (.int p5), .val (.int (2 : Int32)), .val (.int (0 : Int32)), .val (.int (0 : Int32)), .val (.ref b110), .val (.int (1 : Int32)), .unset] []))
          refine Goes.step (fun _ k => XS.iload X136.here hx rfl (hb hby at_139) rfl  k) ?_
          show Goes _ _ _ _ _ _ _ (T136.setTop (mkF m 141 #[.val (.int p0), .val (.int p1), .val (.int p2), .val (.int p3), .val (.int p4), .val (.int p5), .val (.int (2 : Int32)), .val (.int (0 : Int32)), .val (.int (0 : Int32)), .val (.ref b110), .val (.int (1 : Int32)), .unset] [(.int (0 : Int32))]))
          refine Goes.step (fun _ k => XS.iconst X136.here hx rfl (hb hby at_141) k) ?_
          show Goes _ _ _ _ _ _ _ (T136.setTop (mkF m 142 #[.val (.int p0), .val (.int p1), .val (.int p2), .val (.int p3), .val (.int p4), .val (.int p5), .val (.int (2 : Int32)), .val (.int (0 : Int32)), .val (.int (0 : Int32)), .val (.ref b110), .val (.int (1 : Int32)), .unset] [(.int (2 : Int32)), (.int (0 : Int32))]))
          refine Goes.step (fun _ k => XS.icmpYes X136.here hx rfl (pc0 := 142) (pc' := 151) rfl (hb hby at_142) rfl (tlt (by decide : (0 : Int32) < (2 : Int32))).1 (by decide) (by decide) k) ?_
          show Goes _ _ _ _ _ _ _ (T136.setTop (mkF m 151 #[.val (.int p0), .val (.int p1), .val (.int p2), .val (.int p3), .val (.int p4), .val (.int p5), .val (.int (2 : Int32)), .val (.int (0 : Int32)), .val (.int (0 : Int32)), .val (.ref b110), .val (.int (1 : Int32)), .unset] []))
          refine Goes.step (fun _ k => XS.iload X136.here hx rfl (hb hby at_151) rfl  k) ?_
          show Goes _ _ _ _ _ _ _ (T136.setTop (mkF m 153 #[.val (.int p0), .val (.int p1), .val (.int p2), .val (.int p3), .val (.int p4), .val (.int p5), .val (.int (2 : Int32)), .val (.int (0 : Int32)), .val (.int (0 : Int32)), .val (.ref b110), .val (.int (1 : Int32)), .unset] [(.int (0 : Int32))]))
          refine Goes.step (fun _ k => XS.iconst X136.here hx rfl (hb hby at_153) k) ?_
          show Goes _ _ _ _ _ _ _ (T136.setTop (mkF m 154 #[.val (.int p0), .val (.int p1), .val (.int p2), .val (.int p3), .val (.int p4), .val (.int p5), .val (.int (2 : Int32)), .val (.int (0 : Int32)), .val (.int (0 : Int32)), .val (.ref b110), .val (.int (1 : Int32)), .unset] [(.int (3 : Int32)), (.int (0 : Int32))]))
          refine Goes.step (fun _ k => XS.icmpYes X136.here hx rfl (pc0 := 154) (pc' := 163) rfl (hb hby at_154) rfl (tlt (by decide : (0 : Int32) < (3 : Int32))).1 (by decide) (by decide) k) ?_
          show Goes _ _ _ _ _ _ _ (T136.setTop (mkF m 163 #[.val (.int p0), .val (.int p1), .val (.int p2), .val (.int p3), .val (.int p4), .val (.int p5), .val (.int (2 : Int32)), .val (.int (0 : Int32)), .val (.int (0 : Int32)), .val (.ref b110), .val (.int (1 : Int32)), .unset] []))
          refine Goes.step (fun _ k => XS.iload X136.here hx rfl (hb hby at_163) rfl  k) ?_
          show Goes _ _ _ _ _ _ _ (T136.setTop (mkF m 165 #[.val (.int p0), .val (.int p1), .val (.int p2), .val (.int p3), .val (.int p4), .val (.int p5), .val (.int (2 : Int32)), .val (.int (0 : Int32)), .val (.int (0 : Int32)), .val (.ref b110), .val (.int (1 : Int32)), .unset] [(.int (0 : Int32))]))
          refine Goes.step (fun _ k => XS.ifYes X136.here hx rfl (pc0 := 165) (pc' := 173) rfl (hb hby at_165) rfl ((if0 _ _).trans (teq (by decide : (0 : Int32) = (0 : Int32))).1) (by decide) (by decide) k) ?_
          show Goes _ _ _ _ _ _ _ (T136.setTop (mkF m 173 #[.val (.int p0), .val (.int p1), .val (.int p2), .val (.int p3), .val (.int p4), .val (.int p5), .val (.int (2 : Int32)), .val (.int (0 : Int32)), .val (.int (0 : Int32)), .val (.ref b110), .val (.int (1 : Int32)), .unset] []))
          refine Goes.step (fun _ k => XS.iload X136.here hx rfl (hb hby at_173) rfl  k) ?_
          show Goes _ _ _ _ _ _ _ (T136.setTop (mkF m 175 #[.val (.int p0), .val (.int p1), .val (.int p2), .val (.int p3), .val (.int p4), .val (.int p5), .val (.int (2 : Int32)), .val (.int (0 : Int32)), .val (.int (0 : Int32)), .val (.ref b110), .val (.int (1 : Int32)), .unset] [(.int (0 : Int32))]))
          refine Goes.step (fun _ k => XS.ifNo X136.here hx rfl (hb hby at_175) rfl ((if0 _ _).trans (teq (by decide : (0 : Int32) = (0 : Int32))).2) k) ?_
          show Goes _ _ _ _ _ _ _ (T136.setTop (mkF m 178 #[.val (.int p0), .val (.int p1), .val (.int p2), .val (.int p3), .val (.int p4), .val (.int p5), .val (.int (2 : Int32)), .val (.int (0 : Int32)), .val (.int (0 : Int32)), .val (.ref b110), .val (.int (1 : Int32)), .unset] []))
          refine Goes.step (fun _ k => XS.iload X136.here hx rfl (hb hby at_178) rfl  k) ?_
          show Goes _ _ _ _ _ _ _ (T136.setTop (mkF m 180 #[.val (.int p0), .val (.int p1), .val (.int p2), .val (.int p3), .val (.int p4), .val (.int p5), .val (.int (2 : Int32)), .val (.int (0 : Int32)), .val (.int (0 : Int32)), .val (.ref b110), .val (.int (1 : Int32)), .unset] [(.int (2 : Int32))]))
          refine Goes.step (fun _ k => XS.iload X136.here hx rfl (hb hby at_180) rfl  k) ?_
          show Goes _ _ _ _ _ _ _ (T136.setTop (mkF m 182 #[.val (.int p0), .val (.int p1), .val (.int p2), .val (.int p3), .val (.int p4), .val (.int p5), .val (.int (2 : Int32)), .val (.int (0 : Int32)), .val (.int (0 : Int32)), .val (.ref b110), .val (.int (1 : Int32)), .unset] [(.int (0 : Int32)), (.int (2 : Int32))]))
          refine Goes.step (fun _ k => XS.icmpYes X136.here hx rfl (pc0 := 182) (pc' := 189) rfl (hb hby at_182) rfl (feq (by decide : ¬ ((2 : Int32) = (0 : Int32)))).2 (by decide) (by decide) k) ?_
          show Goes _ _ _ _ _ _ _ (T136.setTop (mkF m 189 #[.val (.int p0), .val (.int p1), .val (.int p2), .val (.int p3), .val (.int p4), .val (.int p5), .val (.int (2 : Int32)), .val (.int (0 : Int32)), .val (.int (0 : Int32)), .val (.ref b110), .val (.int (1 : Int32)), .unset] []))
          refine Goes.step (fun _ k => XS.iconst X136.here hx rfl (hb hby at_189) k) ?_
          show Goes _ _ _ _ _ _ _ (T136.setTop (mkF m 190 #[.val (.int p0), .val (.int p1), .val (.int p2), .val (.int p3), .val (.int p4), .val (.int p5), .val (.int (2 : Int32)), .val (.int (0 : Int32)), .val (.int (0 : Int32)), .val (.ref b110), .val (.int (1 : Int32)), .unset] [(.int (0 : Int32))]))
          refine Goes.step (fun _ k => XS.istore X136.here hx rfl (hb hby at_190) rfl (l' := #[.val (.int p0), .val (.int p1), .val (.int p2), .val (.int p3), .val (.int p4), .val (.int p5), .val (.int (2 : Int32)), .val (.int (0 : Int32)), .val (.int (0 : Int32)), .val (.ref b110), .val (.int (1 : Int32)), .val (.int (0 : Int32))]) rfl k) ?_
          show Goes _ _ _ _ _ _ _ (T136.setTop (mkF m 192 #[.val (.int p0), .val (.int p1), .val (.int p2), .val (.int p3), .val (.int p4), .val (.int p5), .val (.int (2 : Int32)), .val (.int (0 : Int32)), .val (.int (0 : Int32)), .val (.ref b110), .val (.int (1 : Int32)), .val (.int (0 : Int32))] []))
          refine Goes.step (fun _ k => XS.iload X136.here hx rfl (hb hby at_192) rfl  k) ?_
          show Goes _ _ _ _ _ _ _ (T136.setTop (mkF m 194 #[.val (.int p0), .val (.int p1), .val (.int p2), .val (.int p3), .val (.int p4), .val (.int p5), .val (.int (2 : Int32)), .val (.int (0 : Int32)), .val (.int (0 : Int32)), .val (.ref b110), .val (.int (1 : Int32)), .val (.int (0 : Int32))] [(.int (1 : Int32))]))
          refine Goes.step (fun _ k => XS.ifNo X136.here hx rfl (hb hby at_194) rfl ((if0 _ _).trans (feq (by decide : ¬ ((1 : Int32) = (0 : Int32)))).1) k) ?_
          show Goes _ _ _ _ _ _ _ (T136.setTop (mkF m 197 #[.val (.int p0), .val (.int p1), .val (.int p2), .val (.int p3), .val (.int p4), .val (.int p5), .val (.int (2 : Int32)), .val (.int (0 : Int32)), .val (.int (0 : Int32)), .val (.ref b110), .val (.int (1 : Int32)), .val (.int (0 : Int32))] []))
          refine Goes.step (fun _ k => XS.aload X136.here hx rfl (hb hby at_197) rfl rfl k) ?_
          show Goes _ _ _ _ _ _ _ (T136.setTop (mkF m 199 #[.val (.int p0), .val (.int p1), .val (.int p2), .val (.int p3), .val (.int p4), .val (.int p5), .val (.int (2 : Int32)), .val (.int (0 : Int32)), .val (.int (0 : Int32)), .val (.ref b110), .val (.int (1 : Int32)), .val (.int (0 : Int32))] [(.ref b110)]))
          obtain ⟨cq137, kq137, q137a, q137b, q137c⟩ := isOf hZ eh136 v128_0_3
          obtain ⟨_, _, ⟨T137, L137, k137, n137⟩, -, X137, ⟨Lc137, hQ137, l137, y137, z137⟩, st137⟩ := X136.virtualBack hx (y := (⟨"com/example/hailwise/hailwise/NodeQueue", "isEmpty", "()Z"⟩ : MethodName)) (z := (⟨"com/example/hailwise/hailwise/NodeQueue", "isEmpty", "()Z"⟩ : MethodName)) hown (mvT hZ (hw _ (List.mem_of_getElem? (i := 22) rfl))) (mvT hZ (hw _ (List.mem_of_getElem? (i := 23) rfl))) (notFace_of_selects (args := #[]) (mvT hZ (hw _ (List.mem_of_getElem? (i := 25) rfl)))) (mvT hZ (hw _ (List.mem_of_getElem? (i := 25) rfl))) (mvT hZ (hw _ (List.mem_of_getElem? (i := 24) rfl))) (by decide) (backOf (W := 0) (rm4 l Z a0 hw [] b110 (2 : Int32) T128.heap n0 Z135 v128_0_2) hZ (hw _ (List.mem_of_getElem? (i := 26) rfl)) (hw _ (List.mem_of_getElem? (i := 2) rfl)) (by decide) (by decide)) q137a q137c (g := (mkF m 199 #[.val (.int p0), .val (.int p1), .val (.int p2), .val (.int p3), .val (.int p4), .val (.int p5), .val (.int (2 : Int32)), .val (.int (0 : Int32)), .val (.int (0 : Int32)), .val (.ref b110), .val (.int (1 : Int32)), .val (.int (0 : Int32))] [(.ref b110)])) rfl (by rw [hml]; rfl) (Steps.refl _) (argsL := []) (rest := []) (lenOf pd_2 rfl) rfl (by show 2 * 0 + _ ≤ _; exact Nat.le_of_eq rfl) (hb hby at_199) (fun _ _ => ⟨rfl, eh136, (by decide : 3 + 0 ≤ _), (by decide : 131 + 0 ≤ _)⟩)
          dsimp only [Pt.U, Pt.locs, Pt.cells, Pt.slots] at X137 l137 y137 z137 st137 hQ137
          subst l137 y137 z137
          obtain ⟨N137, eh137, hR137⟩ := hQ137
          have NA137 := Fr.app NA136 N137
          rcases hR137 with ⟨rfl, u137_0_0⟩ | ⟨rfl, u137_1_0⟩
          · exact absurd u137_0_0 (by decide : ¬ ((2 : Int32) = (0 : Int32)))
          · refine Goes.back st137 ?_
            show Goes _ _ _ _ _ _ _ (T137.setTop (mkF m 202 #[.val (.int p0), .val (.int p1), .val (.int p2), .val (.int p3), .val (.int p4), .val (.int p5), .val (.int (2 : Int32)), .val (.int (0 : Int32)), .val (.int (0 : Int32)), .val (.ref b110), .val (.int (1 : Int32)), .val (.int (0 : Int32))] [(.int (0 : Int32))]))
            refine Goes.step (fun _ k => XS.iload X137.here hx rfl (hb hby at_202) rfl  k) ?_
            show Goes _ _ _ _ _ _ _ (T137.setTop (mkF m 204 #[.val (.int p0), .val (.int p1), .val (.int p2), .val (.int p3), .val (.int p4), .val (.int p5), .val (.int (2 : Int32)), .val (.int (0 : Int32)), .val (.int (0 : Int32)), .val (.ref b110), .val (.int (1 : Int32)), .val (.int (0 : Int32))] [(.int (0 : Int32)), (.int (0 : Int32))]))
            refine Goes.step (fun _ k => XS.icmpNo X137.here hx rfl (hb hby at_204) rfl (teq (by decide : (0 : Int32) = (0 : Int32))).2 k) ?_
            show Goes _ _ _ _ _ _ _ (T137.setTop (mkF m 207 #[.val (.int p0), .val (.int p1), .val (.int p2), .val (.int p3), .val (.int p4), .val (.int p5), .val (.int (2 : Int32)), .val (.int (0 : Int32)), .val (.int (0 : Int32)), .val (.ref b110), .val (.int (1 : Int32)), .val (.int (0 : Int32))] []))
            refine Goes.step (fun _ k => XS.iconst X137.here hx rfl (hb hby at_207) k) ?_
            show Goes _ _ _ _ _ _ _ (T137.setTop (mkF m 208 #[.val (.int p0), .val (.int p1), .val (.int p2), .val (.int p3), .val (.int p4), .val (.int p5), .val (.int (2 : Int32)), .val (.int (0 : Int32)), .val (.int (0 : Int32)), .val (.ref b110), .val (.int (1 : Int32)), .val (.int (0 : Int32))] [(.int (1 : Int32))]))
            refine Goes.step (fun _ k => XS.goto X137.here hx rfl (pc0 := 208) (pc' := 212) rfl (hb hby at_208) (by decide) (by decide) k) ?_
            show Goes _ _ _ _ _ _ _ (T137.setTop (mkF m 212 #[.val (.int p0), .val (.int p1), .val (.int p2), .val (.int p3), .val (.int p4), .val (.int p5), .val (.int (2 : Int32)), .val (.int (0 : Int32)), .val (.int (0 : Int32)), .val (.ref b110), .val (.int (1 : Int32)), .val (.int (0 : Int32))] [(.int (1 : Int32))]))
            refine Goes.step (fun _ k => XS.istore X137.here hx rfl (hb hby at_212) rfl (l' := #[.val (.int p0), .val (.int p1), .val (.int p2), .val (.int p3), .val (.int p4), .val (.int p5), .val (.int (2 : Int32)), .val (.int (0 : Int32)), .val (.int (0 : Int32)), .val (.ref b110), .val (.int (1 : Int32)), .val (.int (0 : Int32))]) rfl k) ?_
            show Goes _ _ _ _ _ _ _ (T137.setTop (mkF m 214 #[.val (.int p0), .val (.int p1), .val (.int p2), .val (.int p3), .val (.int p4), .val (.int p5), .val (.int (2 : Int32)), .val (.int (0 : Int32)), .val (.int (0 : Int32)), .val (.ref b110), .val (.int (1 : Int32)), .val (.int (0 : Int32))] []))
            refine Goes.step (fun _ k => XS.iload X137.here hx rfl (hb hby at_214) rfl  k) ?_
            show Goes _ _ _ _ _ _ _ (T137.setTop (mkF m 216 #[.val (.int p0), .val (.int p1), .val (.int p2), .val (.int p3), .val (.int p4), .val (.int p5), .val (.int (2 : Int32)), .val (.int (0 : Int32)), .val (.int (0 : Int32)), .val (.ref b110), .val (.int (1 : Int32)), .val (.int (0 : Int32))] [(.int (1 : Int32))]))
            exact Goes.ret X137 hx (BodyLoose.notSynchronized Bd) Bd.returns rfl (Or.inl ⟨rfl, by simp, _, rfl⟩) (hb hby at_216) (by show Q0 Z p0 p1 p2 p3 p4 p5 h0 n0 (some (.int (1 : Int32))) T137.heap _; rw [eh137]; exact ⟨rfl, NA137⟩) (by decide) (by decide)
        · show Goes _ _ _ _ _ _ _ (T136.setTop (mkF m 127 #[.val (.int p0), .val (.int p1), .val (.int p2), .val (.int p3), .val (.int p4), .val (.int p5), .val (.int (2 : Int32)), .val (.int (1 : Int32)), .val (.int (0 : Int32)), .val (.ref b110), .val (.int (1 : Int32)), .unset] []))
          refine Goes.step (fun _ k => XS.iload X136.here hx rfl (hb hby at_127) rfl  k) ?_
          show Goes _ _ _ _ _ _ _ (T136.setTop (mkF m 129 #[.val (.int p0), .val (.int p1), .val (.int p2), .val (.int p3), .val (.int p4), .val (.int p5), .val (.int (2 : Int32)), .val (.int (1 : Int32)), .val (.int (0 : Int32)), .val (.ref b110), .val (.int (1 : Int32)), .unset] [(.int (1 : Int32))]))
          refine Goes.step (fun _ k => XS.iconst X136.here hx rfl (hb hby at_129) k) ?_
          show Goes _ _ _ _ _ _ _ (T136.setTop (mkF m 130 #[.val (.int p0), .val (.int p1), .val (.int p2), .val (.int p3), .val (.int p4), .val (.int p5), .val (.int (2 : Int32)), .val (.int (1 : Int32)), .val (.int (0 : Int32)), .val (.ref b110), .val (.int (1 : Int32)), .unset] [(.int (1 : Int32)), (.int (1 : Int32))]))
          refine Goes.step (fun _ k => XS.icmpNo X136.here hx rfl (hb hby at_130) rfl (flt (by decide : ¬ ((1 : Int32) < (1 : Int32)))).1 k) ?_
          show Goes _ _ _ _ _ _ _ (T136.setTop (mkF m 133 #[.val (.int p0), .val (.int p1), .val (.int p2), .val (.int p3), .val (.int p4), .val (.int p5), .val (.int (2 : Int32)), .val (.int (1 : Int32)), .val (.int (0 : Int32)), .val (.ref b110), .val (.int (1 : Int32)), .unset] []))
          refine Goes.step (fun _ k => XS.aload X136.here hx rfl (hb hby at_133) rfl rfl k) ?_
          show Goes _ _ _ _ _ _ _ (T136.setTop (mkF m 135 #[.val (.int p0), .val (.int p1), .val (.int p2), .val (.int p3), .val (.int p4), .val (.int p5), .val (.int (2 : Int32)), .val (.int (1 : Int32)), .val (.int (0 : Int32)), .val (.ref b110), .val (.int (1 : Int32)), .unset] [(.ref b110)]))
          obtain ⟨cq138, kq138, q138a, q138b, q138c⟩ := isOf hZ eh136 v128_0_3
          obtain ⟨_, _, ⟨T138, L138, k138, n138⟩, -, X138, ⟨Lc138, hQ138, l138, y138, z138⟩, st138⟩ := X136.virtualBack hx (y := (⟨"com/example/hailwise/hailwise/NodeQueue", "poll", "()I"⟩ : MethodName)) (z := (⟨"com/example/hailwise/hailwise/NodeQueue", "poll", "()I"⟩ : MethodName)) hown (mvT hZ (hw _ (List.mem_of_getElem? (i := 27) rfl))) (mvT hZ (hw _ (List.mem_of_getElem? (i := 28) rfl))) (notFace_of_selects (args := #[]) (mvT hZ (hw _ (List.mem_of_getElem? (i := 30) rfl)))) (mvT hZ (hw _ (List.mem_of_getElem? (i := 30) rfl))) (mvT hZ (hw _ (List.mem_of_getElem? (i := 29) rfl))) (by decide) (backOf (W := 0) (rm5_2 l Z a0 hw [] b110 r112_0_0 r112_0_1 kk112_0_0 kk112_0_1 T128.heap n0 Z135 v128_0_0 v128_0_1 v128_0_2 v128_0_3 v128_0_4 v128_0_5 g_b110 g_r112_0_0 g_r112_0_1 ne118 ne119 (Ne.symm nn112_0_0)) hZ (hw _ (List.mem_of_getElem? (i := 31) rfl)) (hw _ (List.mem_of_getElem? (i := 2) rfl)) (by decide) (by decide)) q138a q138c (g := (mkF m 135 #[.val (.int p0), .val (.int p1), .val (.int p2), .val (.int p3), .val (.int p4), .val (.int p5), .val (.int (2 : Int32)), .val (.int (1 : Int32)), .val (.int (0 : Int32)), .val (.ref b110), .val (.int (1 : Int32)), .unset] [(.ref b110)])) rfl (by rw [hml]; rfl) (Steps.refl _) (argsL := []) (rest := []) (lenOf pd_3 rfl) rfl (by show 2 * 0 + _ ≤ _; exact Nat.le_of_eq rfl) (hb hby at_135) (fun _ _ => ⟨rfl, eh136, (by decide : 3 + 0 ≤ _), (by decide : 131 + 0 ≤ _)⟩)
          dsimp only [Pt.U, Pt.locs, Pt.cells, Pt.slots] at X138 l138 y138 z138 st138 hQ138
          subst l138 y138 z138
          obtain ⟨N138, KK138, hR138⟩ := hQ138
          have NA138 := Fr.app NA136 N138
          have f139 := v128_0_3.keep KK138
          have K145 : Keep h0 T138.heap [] := K135.trans KK138 (allS (Or.inr sz_b110) (allS (Or.inr sz_r112_0_0) (allS (Or.inr sz_r112_0_1) all0)))
          have Z145 : n0 ≤ T138.heap.size := Nat.le_trans Z135 KK138.1
          obtain ⟨rv138_0, rfl, v138_0_0, v138_0_1, v138_0_2, v138_0_3, v138_0_4, v138_0_5⟩ := hR138
          refine Goes.back st138 ?_
          show Goes _ _ _ _ _ _ _ (T138.setTop (mkF m 138 #[.val (.int p0), .val (.int p1), .val (.int p2), .val (.int p3), .val (.int p4), .val (.int p5), .val (.int (2 : Int32)), .val (.int (1 : Int32)), .val (.int (0 : Int32)), .val (.ref b110), .val (.int (1 : Int32)), .unset] [(.int rv138_0)]))
          refine Goes.step (fun _ k => XS.pop X138.here hx rfl (hb hby at_138) rfl rfl k) ?_
          show Goes _ _ _ _ _ _ _ (T138.setTop (mkF m 139 #[.val (.int p0), .val (.int p1), .val (.int p2), .val (.int p3), .val (.int p4), .val (.int p5), .val (.int (2 : Int32)), .val (.int (1 : Int32)), .val (.int (0 : Int32)), .val (.ref b110), .val (.int (1 : Int32)), .unset] []))
          refine Goes.step (fun _ k => XS.iload X138.here hx rfl (hb hby at_139) rfl  k) ?_
          show Goes _ _ _ _ _ _ _ (T138.setTop (mkF m 141 #[.val (.int p0), .val (.int p1), .val (.int p2), .val (.int p3), .val (.int p4), .val (.int p5), .val (.int (2 : Int32)), .val (.int (1 : Int32)), .val (.int (0 : Int32)), .val (.ref b110), .val (.int (1 : Int32)), .unset] [(.int (1 : Int32))]))
          refine Goes.step (fun _ k => XS.iconst X138.here hx rfl (hb hby at_141) k) ?_
          show Goes _ _ _ _ _ _ _ (T138.setTop (mkF m 142 #[.val (.int p0), .val (.int p1), .val (.int p2), .val (.int p3), .val (.int p4), .val (.int p5), .val (.int (2 : Int32)), .val (.int (1 : Int32)), .val (.int (0 : Int32)), .val (.ref b110), .val (.int (1 : Int32)), .unset] [(.int (2 : Int32)), (.int (1 : Int32))]))
          refine Goes.step (fun _ k => XS.icmpYes X138.here hx rfl (pc0 := 142) (pc' := 151) rfl (hb hby at_142) rfl (tlt (by decide : (1 : Int32) < (2 : Int32))).1 (by decide) (by decide) k) ?_
          show Goes _ _ _ _ _ _ _ (T138.setTop (mkF m 151 #[.val (.int p0), .val (.int p1), .val (.int p2), .val (.int p3), .val (.int p4), .val (.int p5), .val (.int (2 : Int32)), .val (.int (1 : Int32)), .val (.int (0 : Int32)), .val (.ref b110), .val (.int (1 : Int32)), .unset] []))
          refine Goes.step (fun _ k => XS.iload X138.here hx rfl (hb hby at_151) rfl  k) ?_
          show Goes _ _ _ _ _ _ _ (T138.setTop (mkF m 153 #[.val (.int p0), .val (.int p1), .val (.int p2), .val (.int p3), .val (.int p4), .val (.int p5), .val (.int (2 : Int32)), .val (.int (1 : Int32)), .val (.int (0 : Int32)), .val (.ref b110), .val (.int (1 : Int32)), .unset] [(.int (1 : Int32))]))
          refine Goes.step (fun _ k => XS.iconst X138.here hx rfl (hb hby at_153) k) ?_
          show Goes _ _ _ _ _ _ _ (T138.setTop (mkF m 154 #[.val (.int p0), .val (.int p1), .val (.int p2), .val (.int p3), .val (.int p4), .val (.int p5), .val (.int (2 : Int32)), .val (.int (1 : Int32)), .val (.int (0 : Int32)), .val (.ref b110), .val (.int (1 : Int32)), .unset] [(.int (3 : Int32)), (.int (1 : Int32))]))
          refine Goes.step (fun _ k => XS.icmpYes X138.here hx rfl (pc0 := 154) (pc' := 163) rfl (hb hby at_154) rfl (tlt (by decide : (1 : Int32) < (3 : Int32))).1 (by decide) (by decide) k) ?_
          show Goes _ _ _ _ _ _ _ (T138.setTop (mkF m 163 #[.val (.int p0), .val (.int p1), .val (.int p2), .val (.int p3), .val (.int p4), .val (.int p5), .val (.int (2 : Int32)), .val (.int (1 : Int32)), .val (.int (0 : Int32)), .val (.ref b110), .val (.int (1 : Int32)), .unset] []))
          refine Goes.step (fun _ k => XS.iload X138.here hx rfl (hb hby at_163) rfl  k) ?_
          show Goes _ _ _ _ _ _ _ (T138.setTop (mkF m 165 #[.val (.int p0), .val (.int p1), .val (.int p2), .val (.int p3), .val (.int p4), .val (.int p5), .val (.int (2 : Int32)), .val (.int (1 : Int32)), .val (.int (0 : Int32)), .val (.ref b110), .val (.int (1 : Int32)), .unset] [(.int (0 : Int32))]))
          refine Goes.step (fun _ k => XS.ifYes X138.here hx rfl (pc0 := 165) (pc' := 173) rfl (hb hby at_165) rfl ((if0 _ _).trans (teq (by decide : (0 : Int32) = (0 : Int32))).1) (by decide) (by decide) k) ?_
          show Goes _ _ _ _ _ _ _ (T138.setTop (mkF m 173 #[.val (.int p0), .val (.int p1), .val (.int p2), .val (.int p3), .val (.int p4), .val (.int p5), .val (.int (2 : Int32)), .val (.int (1 : Int32)), .val (.int (0 : Int32)), .val (.ref b110), .val (.int (1 : Int32)), .unset] []))
          refine Goes.step (fun _ k => XS.iload X138.here hx rfl (hb hby at_173) rfl  k) ?_
          show Goes _ _ _ _ _ _ _ (T138.setTop (mkF m 175 #[.val (.int p0), .val (.int p1), .val (.int p2), .val (.int p3), .val (.int p4), .val (.int p5), .val (.int (2 : Int32)), .val (.int (1 : Int32)), .val (.int (0 : Int32)), .val (.ref b110), .val (.int (1 : Int32)), .unset] [(.int (0 : Int32))]))
          refine Goes.step (fun _ k => XS.ifNo X138.here hx rfl (hb hby at_175) rfl ((if0 _ _).trans (teq (by decide : (0 : Int32) = (0 : Int32))).2) k) ?_
          show Goes _ _ _ _ _ _ _ (T138.setTop (mkF m 178 #[.val (.int p0), .val (.int p1), .val (.int p2), .val (.int p3), .val (.int p4), .val (.int p5), .val (.int (2 : Int32)), .val (.int (1 : Int32)), .val (.int (0 : Int32)), .val (.ref b110), .val (.int (1 : Int32)), .unset] []))
          refine Goes.step (fun _ k => XS.iload X138.here hx rfl (hb hby at_178) rfl  k) ?_
          show Goes _ _ _ _ _ _ _ (T138.setTop (mkF m 180 #[.val (.int p0), .val (.int p1), .val (.int p2), .val (.int p3), .val (.int p4), .val (.int p5), .val (.int (2 : Int32)), .val (.int (1 : Int32)), .val (.int (0 : Int32)), .val (.ref b110), .val (.int (1 : Int32)), .unset] [(.int (2 : Int32))]))
          refine Goes.step (fun _ k => XS.iload X138.here hx rfl (hb hby at_180) rfl  k) ?_
          show Goes _ _ _ _ _ _ _ (T138.setTop (mkF m 182 #[.val (.int p0), .val (.int p1), .val (.int p2), .val (.int p3), .val (.int p4), .val (.int p5), .val (.int (2 : Int32)), .val (.int (1 : Int32)), .val (.int (0 : Int32)), .val (.ref b110), .val (.int (1 : Int32)), .unset] [(.int (1 : Int32)), (.int (2 : Int32))]))
          refine Goes.step (fun _ k => XS.icmpYes X138.here hx rfl (pc0 := 182) (pc' := 189) rfl (hb hby at_182) rfl (feq (by decide : ¬ ((2 : Int32) = (1 : Int32)))).2 (by decide) (by decide) k) ?_
          show Goes _ _ _ _ _ _ _ (T138.setTop (mkF m 189 #[.val (.int p0), .val (.int p1), .val (.int p2), .val (.int p3), .val (.int p4), .val (.int p5), .val (.int (2 : Int32)), .val (.int (1 : Int32)), .val (.int (0 : Int32)), .val (.ref b110), .val (.int (1 : Int32)), .unset] []))
          refine Goes.step (fun _ k => XS.iconst X138.here hx rfl (hb hby at_189) k) ?_
          show Goes _ _ _ _ _ _ _ (T138.setTop (mkF m 190 #[.val (.int p0), .val (.int p1), .val (.int p2), .val (.int p3), .val (.int p4), .val (.int p5), .val (.int (2 : Int32)), .val (.int (1 : Int32)), .val (.int (0 : Int32)), .val (.ref b110), .val (.int (1 : Int32)), .unset] [(.int (0 : Int32))]))
          refine Goes.step (fun _ k => XS.istore X138.here hx rfl (hb hby at_190) rfl (l' := #[.val (.int p0), .val (.int p1), .val (.int p2), .val (.int p3), .val (.int p4), .val (.int p5), .val (.int (2 : Int32)), .val (.int (1 : Int32)), .val (.int (0 : Int32)), .val (.ref b110), .val (.int (1 : Int32)), .val (.int (0 : Int32))]) rfl k) ?_
          show Goes _ _ _ _ _ _ _ (T138.setTop (mkF m 192 #[.val (.int p0), .val (.int p1), .val (.int p2), .val (.int p3), .val (.int p4), .val (.int p5), .val (.int (2 : Int32)), .val (.int (1 : Int32)), .val (.int (0 : Int32)), .val (.ref b110), .val (.int (1 : Int32)), .val (.int (0 : Int32))] []))
          refine Goes.step (fun _ k => XS.iload X138.here hx rfl (hb hby at_192) rfl  k) ?_
          show Goes _ _ _ _ _ _ _ (T138.setTop (mkF m 194 #[.val (.int p0), .val (.int p1), .val (.int p2), .val (.int p3), .val (.int p4), .val (.int p5), .val (.int (2 : Int32)), .val (.int (1 : Int32)), .val (.int (0 : Int32)), .val (.ref b110), .val (.int (1 : Int32)), .val (.int (0 : Int32))] [(.int (1 : Int32))]))
          refine Goes.step (fun _ k => XS.ifNo X138.here hx rfl (hb hby at_194) rfl ((if0 _ _).trans (feq (by decide : ¬ ((1 : Int32) = (0 : Int32)))).1) k) ?_
          show Goes _ _ _ _ _ _ _ (T138.setTop (mkF m 197 #[.val (.int p0), .val (.int p1), .val (.int p2), .val (.int p3), .val (.int p4), .val (.int p5), .val (.int (2 : Int32)), .val (.int (1 : Int32)), .val (.int (0 : Int32)), .val (.ref b110), .val (.int (1 : Int32)), .val (.int (0 : Int32))] []))
          refine Goes.step (fun _ k => XS.aload X138.here hx rfl (hb hby at_197) rfl rfl k) ?_
          show Goes _ _ _ _ _ _ _ (T138.setTop (mkF m 199 #[.val (.int p0), .val (.int p1), .val (.int p2), .val (.int p3), .val (.int p4), .val (.int p5), .val (.int (2 : Int32)), .val (.int (1 : Int32)), .val (.int (0 : Int32)), .val (.ref b110), .val (.int (1 : Int32)), .val (.int (0 : Int32))] [(.ref b110)]))
          obtain ⟨cq146, kq146, q146a, q146b, q146c⟩ := isOf hZ rfl v138_0_3
          obtain ⟨_, _, ⟨T146, L146, k146, n146⟩, -, X146, ⟨Lc146, hQ146, l146, y146, z146⟩, st146⟩ := X138.virtualBack hx (y := (⟨"com/example/hailwise/hailwise/NodeQueue", "isEmpty", "()Z"⟩ : MethodName)) (z := (⟨"com/example/hailwise/hailwise/NodeQueue", "isEmpty", "()Z"⟩ : MethodName)) hown (mvT hZ (hw _ (List.mem_of_getElem? (i := 22) rfl))) (mvT hZ (hw _ (List.mem_of_getElem? (i := 23) rfl))) (notFace_of_selects (args := #[]) (mvT hZ (hw _ (List.mem_of_getElem? (i := 25) rfl)))) (mvT hZ (hw _ (List.mem_of_getElem? (i := 25) rfl))) (mvT hZ (hw _ (List.mem_of_getElem? (i := 24) rfl))) (by decide) (backOf (W := 0) (rm4 l Z a0 hw [] b110 (1 : Int32) T138.heap n0 Z145 v138_0_2) hZ (hw _ (List.mem_of_getElem? (i := 26) rfl)) (hw _ (List.mem_of_getElem? (i := 2) rfl)) (by decide) (by decide)) q146a q146c (g := (mkF m 199 #[.val (.int p0), .val (.int p1), .val (.int p2), .val (.int p3), .val (.int p4), .val (.int p5), .val (.int (2 : Int32)), .val (.int (1 : Int32)), .val (.int (0 : Int32)), .val (.ref b110), .val (.int (1 : Int32)), .val (.int (0 : Int32))] [(.ref b110)])) rfl (by rw [hml]; rfl) (Steps.refl _) (argsL := []) (rest := []) (lenOf pd_2 rfl) rfl (by show 2 * 0 + _ ≤ _; exact Nat.le_of_eq rfl) (hb hby at_199) (fun _ _ => ⟨rfl, rfl, (by decide : 3 + 0 ≤ _), (by decide : 131 + 0 ≤ _)⟩)
          dsimp only [Pt.U, Pt.locs, Pt.cells, Pt.slots] at X146 l146 y146 z146 st146 hQ146
          subst l146 y146 z146
          obtain ⟨N146, eh146, hR146⟩ := hQ146
          have NA146 := Fr.app NA138 N146
          rcases hR146 with ⟨rfl, u146_0_0⟩ | ⟨rfl, u146_1_0⟩
          · exact absurd u146_0_0 (by decide : ¬ ((1 : Int32) = (0 : Int32)))
          · refine Goes.back st146 ?_
            show Goes _ _ _ _ _ _ _ (T146.setTop (mkF m 202 #[.val (.int p0), .val (.int p1), .val (.int p2), .val (.int p3), .val (.int p4), .val (.int p5), .val (.int (2 : Int32)), .val (.int (1 : Int32)), .val (.int (0 : Int32)), .val (.ref b110), .val (.int (1 : Int32)), .val (.int (0 : Int32))] [(.int (0 : Int32))]))
            refine Goes.step (fun _ k => XS.iload X146.here hx rfl (hb hby at_202) rfl  k) ?_
            show Goes _ _ _ _ _ _ _ (T146.setTop (mkF m 204 #[.val (.int p0), .val (.int p1), .val (.int p2), .val (.int p3), .val (.int p4), .val (.int p5), .val (.int (2 : Int32)), .val (.int (1 : Int32)), .val (.int (0 : Int32)), .val (.ref b110), .val (.int (1 : Int32)), .val (.int (0 : Int32))] [(.int (0 : Int32)), (.int (0 : Int32))]))
            refine Goes.step (fun _ k => XS.icmpNo X146.here hx rfl (hb hby at_204) rfl (teq (by decide : (0 : Int32) = (0 : Int32))).2 k) ?_
            show Goes _ _ _ _ _ _ _ (T146.setTop (mkF m 207 #[.val (.int p0), .val (.int p1), .val (.int p2), .val (.int p3), .val (.int p4), .val (.int p5), .val (.int (2 : Int32)), .val (.int (1 : Int32)), .val (.int (0 : Int32)), .val (.ref b110), .val (.int (1 : Int32)), .val (.int (0 : Int32))] []))
            refine Goes.step (fun _ k => XS.iconst X146.here hx rfl (hb hby at_207) k) ?_
            show Goes _ _ _ _ _ _ _ (T146.setTop (mkF m 208 #[.val (.int p0), .val (.int p1), .val (.int p2), .val (.int p3), .val (.int p4), .val (.int p5), .val (.int (2 : Int32)), .val (.int (1 : Int32)), .val (.int (0 : Int32)), .val (.ref b110), .val (.int (1 : Int32)), .val (.int (0 : Int32))] [(.int (1 : Int32))]))
            refine Goes.step (fun _ k => XS.goto X146.here hx rfl (pc0 := 208) (pc' := 212) rfl (hb hby at_208) (by decide) (by decide) k) ?_
            show Goes _ _ _ _ _ _ _ (T146.setTop (mkF m 212 #[.val (.int p0), .val (.int p1), .val (.int p2), .val (.int p3), .val (.int p4), .val (.int p5), .val (.int (2 : Int32)), .val (.int (1 : Int32)), .val (.int (0 : Int32)), .val (.ref b110), .val (.int (1 : Int32)), .val (.int (0 : Int32))] [(.int (1 : Int32))]))
            refine Goes.step (fun _ k => XS.istore X146.here hx rfl (hb hby at_212) rfl (l' := #[.val (.int p0), .val (.int p1), .val (.int p2), .val (.int p3), .val (.int p4), .val (.int p5), .val (.int (2 : Int32)), .val (.int (1 : Int32)), .val (.int (0 : Int32)), .val (.ref b110), .val (.int (1 : Int32)), .val (.int (0 : Int32))]) rfl k) ?_
            show Goes _ _ _ _ _ _ _ (T146.setTop (mkF m 214 #[.val (.int p0), .val (.int p1), .val (.int p2), .val (.int p3), .val (.int p4), .val (.int p5), .val (.int (2 : Int32)), .val (.int (1 : Int32)), .val (.int (0 : Int32)), .val (.ref b110), .val (.int (1 : Int32)), .val (.int (0 : Int32))] []))
            refine Goes.step (fun _ k => XS.iload X146.here hx rfl (hb hby at_214) rfl  k) ?_
            show Goes _ _ _ _ _ _ _ (T146.setTop (mkF m 216 #[.val (.int p0), .val (.int p1), .val (.int p2), .val (.int p3), .val (.int p4), .val (.int p5), .val (.int (2 : Int32)), .val (.int (1 : Int32)), .val (.int (0 : Int32)), .val (.ref b110), .val (.int (1 : Int32)), .val (.int (0 : Int32))] [(.int (1 : Int32))]))
            exact Goes.ret X146 hx (BodyLoose.notSynchronized Bd) Bd.returns rfl (Or.inl ⟨rfl, by simp, _, rfl⟩) (hb hby at_216) (by show Q0 Z p0 p1 p2 p3 p4 p5 h0 n0 (some (.int (1 : Int32))) T146.heap _; rw [eh146]; exact ⟨rfl, NA146⟩) (by decide) (by decide)
        · show Goes _ _ _ _ _ _ _ (T136.setTop (mkF m 127 #[.val (.int p0), .val (.int p1), .val (.int p2), .val (.int p3), .val (.int p4), .val (.int p5), .val (.int (2 : Int32)), .val (.int (2 : Int32)), .val (.int (0 : Int32)), .val (.ref b110), .val (.int (1 : Int32)), .unset] []))
          refine Goes.step (fun _ k => XS.iload X136.here hx rfl (hb hby at_127) rfl  k) ?_
          show Goes _ _ _ _ _ _ _ (T136.setTop (mkF m 129 #[.val (.int p0), .val (.int p1), .val (.int p2), .val (.int p3), .val (.int p4), .val (.int p5), .val (.int (2 : Int32)), .val (.int (2 : Int32)), .val (.int (0 : Int32)), .val (.ref b110), .val (.int (1 : Int32)), .unset] [(.int (2 : Int32))]))
          refine Goes.step (fun _ k => XS.iconst X136.here hx rfl (hb hby at_129) k) ?_
          show Goes _ _ _ _ _ _ _ (T136.setTop (mkF m 130 #[.val (.int p0), .val (.int p1), .val (.int p2), .val (.int p3), .val (.int p4), .val (.int p5), .val (.int (2 : Int32)), .val (.int (2 : Int32)), .val (.int (0 : Int32)), .val (.ref b110), .val (.int (1 : Int32)), .unset] [(.int (1 : Int32)), (.int (2 : Int32))]))
          refine Goes.step (fun _ k => XS.icmpNo X136.here hx rfl (hb hby at_130) rfl (flt (by decide : ¬ ((2 : Int32) < (1 : Int32)))).1 k) ?_
          show Goes _ _ _ _ _ _ _ (T136.setTop (mkF m 133 #[.val (.int p0), .val (.int p1), .val (.int p2), .val (.int p3), .val (.int p4), .val (.int p5), .val (.int (2 : Int32)), .val (.int (2 : Int32)), .val (.int (0 : Int32)), .val (.ref b110), .val (.int (1 : Int32)), .unset] []))
          refine Goes.step (fun _ k => XS.aload X136.here hx rfl (hb hby at_133) rfl rfl k) ?_
          show Goes _ _ _ _ _ _ _ (T136.setTop (mkF m 135 #[.val (.int p0), .val (.int p1), .val (.int p2), .val (.int p3), .val (.int p4), .val (.int p5), .val (.int (2 : Int32)), .val (.int (2 : Int32)), .val (.int (0 : Int32)), .val (.ref b110), .val (.int (1 : Int32)), .unset] [(.ref b110)]))
          obtain ⟨cq147, kq147, q147a, q147b, q147c⟩ := isOf hZ eh136 v128_0_3
          obtain ⟨_, _, ⟨T147, L147, k147, n147⟩, -, X147, ⟨Lc147, hQ147, l147, y147, z147⟩, st147⟩ := X136.virtualBack hx (y := (⟨"com/example/hailwise/hailwise/NodeQueue", "poll", "()I"⟩ : MethodName)) (z := (⟨"com/example/hailwise/hailwise/NodeQueue", "poll", "()I"⟩ : MethodName)) hown (mvT hZ (hw _ (List.mem_of_getElem? (i := 27) rfl))) (mvT hZ (hw _ (List.mem_of_getElem? (i := 28) rfl))) (notFace_of_selects (args := #[]) (mvT hZ (hw _ (List.mem_of_getElem? (i := 30) rfl)))) (mvT hZ (hw _ (List.mem_of_getElem? (i := 30) rfl))) (mvT hZ (hw _ (List.mem_of_getElem? (i := 29) rfl))) (by decide) (backOf (W := 0) (rm5_2 l Z a0 hw [] b110 r112_0_0 r112_0_1 kk112_0_0 kk112_0_1 T128.heap n0 Z135 v128_0_0 v128_0_1 v128_0_2 v128_0_3 v128_0_4 v128_0_5 g_b110 g_r112_0_0 g_r112_0_1 ne118 ne119 (Ne.symm nn112_0_0)) hZ (hw _ (List.mem_of_getElem? (i := 31) rfl)) (hw _ (List.mem_of_getElem? (i := 2) rfl)) (by decide) (by decide)) q147a q147c (g := (mkF m 135 #[.val (.int p0), .val (.int p1), .val (.int p2), .val (.int p3), .val (.int p4), .val (.int p5), .val (.int (2 : Int32)), .val (.int (2 : Int32)), .val (.int (0 : Int32)), .val (.ref b110), .val (.int (1 : Int32)), .unset] [(.ref b110)])) rfl (by rw [hml]; rfl) (Steps.refl _) (argsL := []) (rest := []) (lenOf pd_3 rfl) rfl (by show 2 * 0 + _ ≤ _; exact Nat.le_of_eq rfl) (hb hby at_135) (fun _ _ => ⟨rfl, eh136, (by decide : 3 + 0 ≤ _), (by decide : 131 + 0 ≤ _)⟩)
          dsimp only [Pt.U, Pt.locs, Pt.cells, Pt.slots] at X147 l147 y147 z147 st147 hQ147
          subst l147 y147 z147
          obtain ⟨N147, KK147, hR147⟩ := hQ147
          have NA147 := Fr.app NA136 N147
          have f148 := v128_0_3.keep KK147
          have K154 : Keep h0 T147.heap [] := K135.trans KK147 (allS (Or.inr sz_b110) (allS (Or.inr sz_r112_0_0) (allS (Or.inr sz_r112_0_1) all0)))
          have Z154 : n0 ≤ T147.heap.size := Nat.le_trans Z135 KK147.1
          obtain ⟨rv147_0, rfl, v147_0_0, v147_0_1, v147_0_2, v147_0_3, v147_0_4, v147_0_5⟩ := hR147
          refine Goes.back st147 ?_
          show Goes _ _ _ _ _ _ _ (T147.setTop (mkF m 138 #[.val (.int p0), .val (.int p1), .val (.int p2), .val (.int p3), .val (.int p4), .val (.int p5), .val (.int (2 : Int32)), .val (.int (2 : Int32)), .val (.int (0 : Int32)), .val (.ref b110), .val (.int (1 : Int32)), .unset] [(.int rv147_0)]))
          refine Goes.step (fun _ k => XS.pop X147.here hx rfl (hb hby at_138) rfl rfl k) ?_
          show Goes _ _ _ _ _ _ _ (T147.setTop (mkF m 139 #[.val (.int p0), .val (.int p1), .val (.int p2), .val (.int p3), .val (.int p4), .val (.int p5), .val (.int (2 : Int32)), .val (.int (2 : Int32)), .val (.int (0 : Int32)), .val (.ref b110), .val (.int (1 : Int32)), .unset] []))
          refine Goes.step (fun _ k => XS.iload X147.here hx rfl (hb hby at_139) rfl  k) ?_
          show Goes _ _ _ _ _ _ _ (T147.setTop (mkF m 141 #[.val (.int p0), .val (.int p1), .val (.int p2), .val (.int p3), .val (.int p4), .val (.int p5), .val (.int (2 : Int32)), .val (.int (2 : Int32)), .val (.int (0 : Int32)), .val (.ref b110), .val (.int (1 : Int32)), .unset] [(.int (2 : Int32))]))
          refine Goes.step (fun _ k => XS.iconst X147.here hx rfl (hb hby at_141) k) ?_
          show Goes _ _ _ _ _ _ _ (T147.setTop (mkF m 142 #[.val (.int p0), .val (.int p1), .val (.int p2), .val (.int p3), .val (.int p4), .val (.int p5), .val (.int (2 : Int32)), .val (.int (2 : Int32)), .val (.int (0 : Int32)), .val (.ref b110), .val (.int (1 : Int32)), .unset] [(.int (2 : Int32)), (.int (2 : Int32))]))
          refine Goes.step (fun _ k => XS.icmpNo X147.here hx rfl (hb hby at_142) rfl (flt (by decide : ¬ ((2 : Int32) < (2 : Int32)))).1 k) ?_
          show Goes _ _ _ _ _ _ _ (T147.setTop (mkF m 145 #[.val (.int p0), .val (.int p1), .val (.int p2), .val (.int p3), .val (.int p4), .val (.int p5), .val (.int (2 : Int32)), .val (.int (2 : Int32)), .val (.int (0 : Int32)), .val (.ref b110), .val (.int (1 : Int32)), .unset] []))
          refine Goes.step (fun _ k => XS.aload X147.here hx rfl (hb hby at_145) rfl rfl k) ?_
          show Goes _ _ _ _ _ _ _ (T147.setTop (mkF m 147 #[.val (.int p0), .val (.int p1), .val (.int p2), .val (.int p3), .val (.int p4), .val (.int p5), .val (.int (2 : Int32)), .val (.int (2 : Int32)), .val (.int (0 : Int32)), .val (.ref b110), .val (.int (1 : Int32)), .unset] [(.ref b110)]))
          obtain ⟨cq155, kq155, q155a, q155b, q155c⟩ := isOf hZ rfl v147_0_3
          obtain ⟨_, _, ⟨T155, L155, k155, n155⟩, -, X155, ⟨Lc155, hQ155, l155, y155, z155⟩, st155⟩ := X147.virtualBack hx (y := (⟨"com/example/hailwise/hailwise/NodeQueue", "poll", "()I"⟩ : MethodName)) (z := (⟨"com/example/hailwise/hailwise/NodeQueue", "poll", "()I"⟩ : MethodName)) hown (mvT hZ (hw _ (List.mem_of_getElem? (i := 27) rfl))) (mvT hZ (hw _ (List.mem_of_getElem? (i := 28) rfl))) (notFace_of_selects (args := #[]) (mvT hZ (hw _ (List.mem_of_getElem? (i := 30) rfl)))) (mvT hZ (hw _ (List.mem_of_getElem? (i := 30) rfl))) (mvT hZ (hw _ (List.mem_of_getElem? (i := 29) rfl))) (by decide) (backOf (W := 0) (rm5_1 l Z a0 hw [] b110 r112_0_0 r112_0_1 kk112_0_0 kk112_0_1 T147.heap n0 Z154 v147_0_0 v147_0_1 v147_0_2 v147_0_3 v147_0_4 v147_0_5 g_b110 g_r112_0_0 g_r112_0_1 ne118 ne119 (Ne.symm nn112_0_0)) hZ (hw _ (List.mem_of_getElem? (i := 31) rfl)) (hw _ (List.mem_of_getElem? (i := 2) rfl)) (by decide) (by decide)) q155a q155c (g := (mkF m 147 #[.val (.int p0), .val (.int p1), .val (.int p2), .val (.int p3), .val (.int p4), .val (.int p5), .val (.int (2 : Int32)), .val (.int (2 : Int32)), .val (.int (0 : Int32)), .val (.ref b110), .val (.int (1 : Int32)), .unset] [(.ref b110)])) rfl (by rw [hml]; rfl) (Steps.refl _) (argsL := []) (rest := []) (lenOf pd_3 rfl) rfl (by show 2 * 0 + _ ≤ _; exact Nat.le_of_eq rfl) (hb hby at_147) (fun _ _ => ⟨rfl, rfl, (by decide : 3 + 0 ≤ _), (by decide : 131 + 0 ≤ _)⟩)
          dsimp only [Pt.U, Pt.locs, Pt.cells, Pt.slots] at X155 l155 y155 z155 st155 hQ155
          subst l155 y155 z155
          obtain ⟨N155, KK155, hR155⟩ := hQ155
          have NA155 := Fr.app NA147 N155
          have f156 := v147_0_3.keep KK155
          have K162 : Keep h0 T155.heap [] := K154.trans KK155 (allS (Or.inr sz_b110) (allS (Or.inr sz_r112_0_0) (allS (Or.inr sz_r112_0_1) all0)))
          have Z162 : n0 ≤ T155.heap.size := Nat.le_trans Z154 KK155.1
          obtain ⟨rv155_0, rfl, v155_0_0, v155_0_1, v155_0_2, v155_0_3, v155_0_4, v155_0_5⟩ := hR155
          refine Goes.back st155 ?_
          show Goes _ _ _ _ _ _ _ (T155.setTop (mkF m 150 #[.val (.int p0), .val (.int p1), .val (.int p2), .val (.int p3), .val (.int p4), .val (.int p5), .val (.int (2 : Int32)), .val (.int (2 : Int32)), .val (.int (0 : Int32)), .val (.ref b110), .val (.int (1 : Int32)), .unset] [(.int rv155_0)]))
          refine Goes.step (fun _ k => XS.pop X155.here hx rfl (hb hby at_150) rfl rfl k) ?_
          show Goes _ _ _ _ _ _ _ (T155.setTop (mkF m 151 #[.val (.int p0), .val (.int p1), .val (.int p2), .val (.int p3), .val (.int p4), .val (.int p5), .val (.int (2 : Int32)), .val (.int (2 : Int32)), .val (.int (0 : Int32)), .val (.ref b110), .val (.int (1 : Int32)), .unset] []))
          refine Goes.step (fun _ k => XS.iload X155.here hx rfl (hb hby at_151) rfl  k) ?_
          show Goes _ _ _ _ _ _ _ (T155.setTop (mkF m 153 #[.val (.int p0), .val (.int p1), .val (.int p2), .val (.int p3), .val (.int p4), .val (.int p5), .val (.int (2 : Int32)), .val (.int (2 : Int32)), .val (.int (0 : Int32)), .val (.ref b110), .val (.int (1 : Int32)), .unset] [(.int (2 : Int32))]))
          refine Goes.step (fun _ k => XS.iconst X155.here hx rfl (hb hby at_153) k) ?_
          show Goes _ _ _ _ _ _ _ (T155.setTop (mkF m 154 #[.val (.int p0), .val (.int p1), .val (.int p2), .val (.int p3), .val (.int p4), .val (.int p5), .val (.int (2 : Int32)), .val (.int (2 : Int32)), .val (.int (0 : Int32)), .val (.ref b110), .val (.int (1 : Int32)), .unset] [(.int (3 : Int32)), (.int (2 : Int32))]))
          refine Goes.step (fun _ k => XS.icmpYes X155.here hx rfl (pc0 := 154) (pc' := 163) rfl (hb hby at_154) rfl (tlt (by decide : (2 : Int32) < (3 : Int32))).1 (by decide) (by decide) k) ?_
          show Goes _ _ _ _ _ _ _ (T155.setTop (mkF m 163 #[.val (.int p0), .val (.int p1), .val (.int p2), .val (.int p3), .val (.int p4), .val (.int p5), .val (.int (2 : Int32)), .val (.int (2 : Int32)), .val (.int (0 : Int32)), .val (.ref b110), .val (.int (1 : Int32)), .unset] []))
          refine Goes.step (fun _ k => XS.iload X155.here hx rfl (hb hby at_163) rfl  k) ?_
          show Goes _ _ _ _ _ _ _ (T155.setTop (mkF m 165 #[.val (.int p0), .val (.int p1), .val (.int p2), .val (.int p3), .val (.int p4), .val (.int p5), .val (.int (2 : Int32)), .val (.int (2 : Int32)), .val (.int (0 : Int32)), .val (.ref b110), .val (.int (1 : Int32)), .unset] [(.int (0 : Int32))]))
          refine Goes.step (fun _ k => XS.ifYes X155.here hx rfl (pc0 := 165) (pc' := 173) rfl (hb hby at_165) rfl ((if0 _ _).trans (teq (by decide : (0 : Int32) = (0 : Int32))).1) (by decide) (by decide) k) ?_
          show Goes _ _ _ _ _ _ _ (T155.setTop (mkF m 173 #[.val (.int p0), .val (.int p1), .val (.int p2), .val (.int p3), .val (.int p4), .val (.int p5), .val (.int (2 : Int32)), .val (.int (2 : Int32)), .val (.int (0 : Int32)), .val (.ref b110), .val (.int (1 : Int32)), .unset] []))
          refine Goes.step (fun _ k => XS.iload X155.here hx rfl (hb hby at_173) rfl  k) ?_
          show Goes _ _ _ _ _ _ _ (T155.setTop (mkF m 175 #[.val (.int p0), .val (.int p1), .val (.int p2), .val (.int p3), .val (.int p4), .val (.int p5), .val (.int (2 : Int32)), .val (.int (2 : Int32)), .val (.int (0 : Int32)), .val (.ref b110), .val (.int (1 : Int32)), .unset] [(.int (0 : Int32))]))
          refine Goes.step (fun _ k => XS.ifNo X155.here hx rfl (hb hby at_175) rfl ((if0 _ _).trans (teq (by decide : (0 : Int32) = (0 : Int32))).2) k) ?_
          show Goes _ _ _ _ _ _ _ (T155.setTop (mkF m 178 #[.val (.int p0), .val (.int p1), .val (.int p2), .val (.int p3), .val (.int p4), .val (.int p5), .val (.int (2 : Int32)), .val (.int (2 : Int32)), .val (.int (0 : Int32)), .val (.ref b110), .val (.int (1 : Int32)), .unset] []))
          refine Goes.step (fun _ k => XS.iload X155.here hx rfl (hb hby at_178) rfl  k) ?_
          show Goes _ _ _ _ _ _ _ (T155.setTop (mkF m 180 #[.val (.int p0), .val (.int p1), .val (.int p2), .val (.int p3), .val (.int p4), .val (.int p5), .val (.int (2 : Int32)), .val (.int (2 : Int32)), .val (.int (0 : Int32)), .val (.ref b110), .val (.int (1 : Int32)), .unset] [(.int (2 : Int32))]))
          refine Goes.step (fun _ k => XS.iload X155.here hx rfl (hb hby at_180) rfl  k) ?_
          show Goes _ _ _ _ _ _ _ (T155.setTop (mkF m 182 #[.val (.int p0), .val (.int p1), .val (.int p2), .val (.int p3), .val (.int p4), .val (.int p5), .val (.int (2 : Int32)), .val (.int (2 : Int32)), .val (.int (0 : Int32)), .val (.ref b110), .val (.int (1 : Int32)), .unset] [(.int (2 : Int32)), (.int (2 : Int32))]))
          refine Goes.step (fun _ k => XS.icmpNo X155.here hx rfl (hb hby at_182) rfl (teq (by decide : (2 : Int32) = (2 : Int32))).2 k) ?_
          show Goes _ _ _ _ _ _ _ (T155.setTop (mkF m 185 #[.val (.int p0), .val (.int p1), .val (.int p2), .val (.int p3), .val (.int p4), .val (.int p5), .val (.int (2 : Int32)), .val (.int (2 : Int32)), .val (.int (0 : Int32)), .val (.ref b110), .val (.int (1 : Int32)), .unset] []))
          refine Goes.step (fun _ k => XS.iconst X155.here hx rfl (hb hby at_185) k) ?_
          show Goes _ _ _ _ _ _ _ (T155.setTop (mkF m 186 #[.val (.int p0), .val (.int p1), .val (.int p2), .val (.int p3), .val (.int p4), .val (.int p5), .val (.int (2 : Int32)), .val (.int (2 : Int32)), .val (.int (0 : Int32)), .val (.ref b110), .val (.int (1 : Int32)), .unset] [(.int (1 : Int32))]))
          refine Goes.step (fun _ k => XS.goto X155.here hx rfl (pc0 := 186) (pc' := 190) rfl (hb hby at_186) (by decide) (by decide) k) ?_
          show Goes _ _ _ _ _ _ _ (T155.setTop (mkF m 190 #[.val (.int p0), .val (.int p1), .val (.int p2), .val (.int p3), .val (.int p4), .val (.int p5), .val (.int (2 : Int32)), .val (.int (2 : Int32)), .val (.int (0 : Int32)), .val (.ref b110), .val (.int (1 : Int32)), .unset] [(.int (1 : Int32))]))
          refine Goes.step (fun _ k => XS.istore X155.here hx rfl (hb hby at_190) rfl (l' := #[.val (.int p0), .val (.int p1), .val (.int p2), .val (.int p3), .val (.int p4), .val (.int p5), .val (.int (2 : Int32)), .val (.int (2 : Int32)), .val (.int (0 : Int32)), .val (.ref b110), .val (.int (1 : Int32)), .val (.int (1 : Int32))]) rfl k) ?_
          show Goes _ _ _ _ _ _ _ (T155.setTop (mkF m 192 #[.val (.int p0), .val (.int p1), .val (.int p2), .val (.int p3), .val (.int p4), .val (.int p5), .val (.int (2 : Int32)), .val (.int (2 : Int32)), .val (.int (0 : Int32)), .val (.ref b110), .val (.int (1 : Int32)), .val (.int (1 : Int32))] []))
          refine Goes.step (fun _ k => XS.iload X155.here hx rfl (hb hby at_192) rfl  k) ?_
          show Goes _ _ _ _ _ _ _ (T155.setTop (mkF m 194 #[.val (.int p0), .val (.int p1), .val (.int p2), .val (.int p3), .val (.int p4), .val (.int p5), .val (.int (2 : Int32)), .val (.int (2 : Int32)), .val (.int (0 : Int32)), .val (.ref b110), .val (.int (1 : Int32)), .val (.int (1 : Int32))] [(.int (1 : Int32))]))
          refine Goes.step (fun _ k => XS.ifNo X155.here hx rfl (hb hby at_194) rfl ((if0 _ _).trans (feq (by decide : ¬ ((1 : Int32) = (0 : Int32)))).1) k) ?_
          show Goes _ _ _ _ _ _ _ (T155.setTop (mkF m 197 #[.val (.int p0), .val (.int p1), .val (.int p2), .val (.int p3), .val (.int p4), .val (.int p5), .val (.int (2 : Int32)), .val (.int (2 : Int32)), .val (.int (0 : Int32)), .val (.ref b110), .val (.int (1 : Int32)), .val (.int (1 : Int32))] []))
          refine Goes.step (fun _ k => XS.aload X155.here hx rfl (hb hby at_197) rfl rfl k) ?_
          show Goes _ _ _ _ _ _ _ (T155.setTop (mkF m 199 #[.val (.int p0), .val (.int p1), .val (.int p2), .val (.int p3), .val (.int p4), .val (.int p5), .val (.int (2 : Int32)), .val (.int (2 : Int32)), .val (.int (0 : Int32)), .val (.ref b110), .val (.int (1 : Int32)), .val (.int (1 : Int32))] [(.ref b110)]))
          obtain ⟨cq163, kq163, q163a, q163b, q163c⟩ := isOf hZ rfl v155_0_3
          obtain ⟨_, _, ⟨T163, L163, k163, n163⟩, -, X163, ⟨Lc163, hQ163, l163, y163, z163⟩, st163⟩ := X155.virtualBack hx (y := (⟨"com/example/hailwise/hailwise/NodeQueue", "isEmpty", "()Z"⟩ : MethodName)) (z := (⟨"com/example/hailwise/hailwise/NodeQueue", "isEmpty", "()Z"⟩ : MethodName)) hown (mvT hZ (hw _ (List.mem_of_getElem? (i := 22) rfl))) (mvT hZ (hw _ (List.mem_of_getElem? (i := 23) rfl))) (notFace_of_selects (args := #[]) (mvT hZ (hw _ (List.mem_of_getElem? (i := 25) rfl)))) (mvT hZ (hw _ (List.mem_of_getElem? (i := 25) rfl))) (mvT hZ (hw _ (List.mem_of_getElem? (i := 24) rfl))) (by decide) (backOf (W := 0) (rm4 l Z a0 hw [] b110 (0 : Int32) T155.heap n0 Z162 v155_0_2) hZ (hw _ (List.mem_of_getElem? (i := 26) rfl)) (hw _ (List.mem_of_getElem? (i := 2) rfl)) (by decide) (by decide)) q163a q163c (g := (mkF m 199 #[.val (.int p0), .val (.int p1), .val (.int p2), .val (.int p3), .val (.int p4), .val (.int p5), .val (.int (2 : Int32)), .val (.int (2 : Int32)), .val (.int (0 : Int32)), .val (.ref b110), .val (.int (1 : Int32)), .val (.int (1 : Int32))] [(.ref b110)])) rfl (by rw [hml]; rfl) (Steps.refl _) (argsL := []) (rest := []) (lenOf pd_2 rfl) rfl (by show 2 * 0 + _ ≤ _; exact Nat.le_of_eq rfl) (hb hby at_199) (fun _ _ => ⟨rfl, rfl, (by decide : 3 + 0 ≤ _), (by decide : 131 + 0 ≤ _)⟩)
          dsimp only [Pt.U, Pt.locs, Pt.cells, Pt.slots] at X163 l163 y163 z163 st163 hQ163
          subst l163 y163 z163
          obtain ⟨N163, eh163, hR163⟩ := hQ163
          have NA163 := Fr.app NA155 N163
          rcases hR163 with ⟨rfl, u163_0_0⟩ | ⟨rfl, u163_1_0⟩
          · refine Goes.back st163 ?_
            show Goes _ _ _ _ _ _ _ (T163.setTop (mkF m 202 #[.val (.int p0), .val (.int p1), .val (.int p2), .val (.int p3), .val (.int p4), .val (.int p5), .val (.int (2 : Int32)), .val (.int (2 : Int32)), .val (.int (0 : Int32)), .val (.ref b110), .val (.int (1 : Int32)), .val (.int (1 : Int32))] [(.int (1 : Int32))]))
            refine Goes.step (fun _ k => XS.iload X163.here hx rfl (hb hby at_202) rfl  k) ?_
            show Goes _ _ _ _ _ _ _ (T163.setTop (mkF m 204 #[.val (.int p0), .val (.int p1), .val (.int p2), .val (.int p3), .val (.int p4), .val (.int p5), .val (.int (2 : Int32)), .val (.int (2 : Int32)), .val (.int (0 : Int32)), .val (.ref b110), .val (.int (1 : Int32)), .val (.int (1 : Int32))] [(.int (1 : Int32)), (.int (1 : Int32))]))
            refine Goes.step (fun _ k => XS.icmpNo X163.here hx rfl (hb hby at_204) rfl (teq (by decide : (1 : Int32) = (1 : Int32))).2 k) ?_
            show Goes _ _ _ _ _ _ _ (T163.setTop (mkF m 207 #[.val (.int p0), .val (.int p1), .val (.int p2), .val (.int p3), .val (.int p4), .val (.int p5), .val (.int (2 : Int32)), .val (.int (2 : Int32)), .val (.int (0 : Int32)), .val (.ref b110), .val (.int (1 : Int32)), .val (.int (1 : Int32))] []))
            refine Goes.step (fun _ k => XS.iconst X163.here hx rfl (hb hby at_207) k) ?_
            show Goes _ _ _ _ _ _ _ (T163.setTop (mkF m 208 #[.val (.int p0), .val (.int p1), .val (.int p2), .val (.int p3), .val (.int p4), .val (.int p5), .val (.int (2 : Int32)), .val (.int (2 : Int32)), .val (.int (0 : Int32)), .val (.ref b110), .val (.int (1 : Int32)), .val (.int (1 : Int32))] [(.int (1 : Int32))]))
            refine Goes.step (fun _ k => XS.goto X163.here hx rfl (pc0 := 208) (pc' := 212) rfl (hb hby at_208) (by decide) (by decide) k) ?_
            show Goes _ _ _ _ _ _ _ (T163.setTop (mkF m 212 #[.val (.int p0), .val (.int p1), .val (.int p2), .val (.int p3), .val (.int p4), .val (.int p5), .val (.int (2 : Int32)), .val (.int (2 : Int32)), .val (.int (0 : Int32)), .val (.ref b110), .val (.int (1 : Int32)), .val (.int (1 : Int32))] [(.int (1 : Int32))]))
            refine Goes.step (fun _ k => XS.istore X163.here hx rfl (hb hby at_212) rfl (l' := #[.val (.int p0), .val (.int p1), .val (.int p2), .val (.int p3), .val (.int p4), .val (.int p5), .val (.int (2 : Int32)), .val (.int (2 : Int32)), .val (.int (0 : Int32)), .val (.ref b110), .val (.int (1 : Int32)), .val (.int (1 : Int32))]) rfl k) ?_
            show Goes _ _ _ _ _ _ _ (T163.setTop (mkF m 214 #[.val (.int p0), .val (.int p1), .val (.int p2), .val (.int p3), .val (.int p4), .val (.int p5), .val (.int (2 : Int32)), .val (.int (2 : Int32)), .val (.int (0 : Int32)), .val (.ref b110), .val (.int (1 : Int32)), .val (.int (1 : Int32))] []))
            refine Goes.step (fun _ k => XS.iload X163.here hx rfl (hb hby at_214) rfl  k) ?_
            show Goes _ _ _ _ _ _ _ (T163.setTop (mkF m 216 #[.val (.int p0), .val (.int p1), .val (.int p2), .val (.int p3), .val (.int p4), .val (.int p5), .val (.int (2 : Int32)), .val (.int (2 : Int32)), .val (.int (0 : Int32)), .val (.ref b110), .val (.int (1 : Int32)), .val (.int (1 : Int32))] [(.int (1 : Int32))]))
            exact Goes.ret X163 hx (BodyLoose.notSynchronized Bd) Bd.returns rfl (Or.inl ⟨rfl, by simp, _, rfl⟩) (hb hby at_216) (by show Q0 Z p0 p1 p2 p3 p4 p5 h0 n0 (some (.int (1 : Int32))) T163.heap _; rw [eh163]; exact ⟨rfl, NA163⟩) (by decide) (by decide)
          · exact absurd (by decide : (0 : Int32) = (0 : Int32)) u163_1_0
    · refine Goes.step (fun _ k => XS.ifNo X0.here hx rfl (hb hby at_25) rfl ((if0 _ _).trans (feq c25_109).1) k) ?_
      show Goes _ _ _ _ _ _ _ (s₁.setTop (mkF m 28 #[.val (.int p0), .val (.int p1), .val (.int p2), .val (.int p3), .val (.int p4), .val (.int p5), .val (.int (2 : Int32)), .val (.int ((((p5.toUInt32 >>> ((2 : Int32) &&& 31).toUInt32).toInt32) &&& (3 : Int32)) % (3 : Int32))), .unset, .unset, .unset, .unset] []))
      refine Goes.step (fun _ k => XS.iconst X0.here hx rfl (hb hby at_28) k) ?_
      show Goes _ _ _ _ _ _ _ (s₁.setTop (mkF m 29 #[.val (.int p0), .val (.int p1), .val (.int p2), .val (.int p3), .val (.int p4), .val (.int p5), .val (.int (2 : Int32)), .val (.int ((((p5.toUInt32 >>> ((2 : Int32) &&& 31).toUInt32).toInt32) &&& (3 : Int32)) % (3 : Int32))), .unset, .unset, .unset, .unset] [(.int (1 : Int32))]))
      refine Goes.step (fun _ k => XS.goto X0.here hx rfl (pc0 := 29) (pc' := 33) rfl (hb hby at_29) (by decide) (by decide) k) ?_
      show Goes _ _ _ _ _ _ _ (s₁.setTop (mkF m 33 #[.val (.int p0), .val (.int p1), .val (.int p2), .val (.int p3), .val (.int p4), .val (.int p5), .val (.int (2 : Int32)), .val (.int ((((p5.toUInt32 >>> ((2 : Int32) &&& 31).toUInt32).toInt32) &&& (3 : Int32)) % (3 : Int32))), .unset, .unset, .unset, .unset] [(.int (1 : Int32))]))
      refine Goes.step (fun _ k => XS.istore X0.here hx rfl (hb hby at_33) rfl (l' := #[.val (.int p0), .val (.int p1), .val (.int p2), .val (.int p3), .val (.int p4), .val (.int p5), .val (.int (2 : Int32)), .val (.int ((((p5.toUInt32 >>> ((2 : Int32) &&& 31).toUInt32).toInt32) &&& (3 : Int32)) % (3 : Int32))), .val (.int (1 : Int32)), .unset, .unset, .unset]) rfl k) ?_
      show Goes _ _ _ _ _ _ _ (s₁.setTop (mkF m 35 #[.val (.int p0), .val (.int p1), .val (.int p2), .val (.int p3), .val (.int p4), .val (.int p5), .val (.int (2 : Int32)), .val (.int ((((p5.toUInt32 >>> ((2 : Int32) &&& 31).toUInt32).toInt32) &&& (3 : Int32)) % (3 : Int32))), .val (.int (1 : Int32)), .unset, .unset, .unset] []))
      obtain ⟨T164, h164, X164, e164, E164, A164, D164, -, st164⟩ := newO X0 hx hZ hown (hw _ (List.mem_of_getElem? (i := 0) rfl)) (hw _ (List.mem_of_getElem? (i := 1) rfl)) (hw _ (List.mem_of_getElem? (i := 2) rfl)) e0 (g := (mkF m 35 #[.val (.int p0), .val (.int p1), .val (.int p2), .val (.int p3), .val (.int p4), .val (.int p5), .val (.int (2 : Int32)), .val (.int ((((p5.toUInt32 >>> ((2 : Int32) &&& 31).toUInt32).toInt32) &&& (3 : Int32)) % (3 : Int32))), .val (.int (1 : Int32)), .unset, .unset, .unset] [])) rfl (hb hby at_35) (by decide) (by decide)
      obtain ⟨b164, g164⟩ : ∃ z, z = h0.size := ⟨_, rfl⟩
      rw [← g164] at A164 D164 st164
      refine Goes.step st164 ?_
      have g_b164 : n0 ≤ b164 := Nat.le_trans Z0 (Nat.le_of_eq g164.symm)
      have sz_b164 : h0.size ≤ b164 := Nat.le_trans K0.1 (Nat.le_of_eq g164.symm)
      have K165 : Keep h0 h164 [] := K0.ext E164
      have Z165 : n0 ≤ h164.size := Nat.le_trans Z0 E164.1
      have E_b164 := A164
      have F_nodes_b164 : Fld Z h164 b164 "com/example/hailwise/hailwise/NodeQueue" "nodes" "[I" .null := D164 (Or.inl (hw _ (List.mem_of_getElem? (i := 11) rfl))) (ty := (.array .int)) (by decide)
      have F_keys_b164 : Fld Z h164 b164 "com/example/hailwise/hailwise/NodeQueue" "keys" "[D" .null := D164 (Or.inl (hw _ (List.mem_of_getElem? (i := 14) rfl))) (ty := (.array .double)) (by decide)
      have F_size_b164 : Fld Z h164 b164 "com/example/hailwise/hailwise/NodeQueue" "size" "I" (.int (0 : Int32)) := D164 (Or.inl (hw _ (List.mem_of_getElem? (i := 21) rfl))) (ty := .int) (by decide)
      show Goes _ _ _ _ _ _ _ (T164.setTop (mkF m 38 #[.val (.int p0), .val (.int p1), .val (.int p2), .val (.int p3), .val (.int p4), .val (.int p5), .val (.int (2 : Int32)), .val (.int ((((p5.toUInt32 >>> ((2 : Int32) &&& 31).toUInt32).toInt32) &&& (3 : Int32)) % (3 : Int32))), .val (.int (1 : Int32)), .unset, .unset, .unset] [(.ref b164)]))
      refine Goes.step (fun _ k => XS.dup X164.here hx rfl (hb hby at_38) rfl rfl k) ?_
      show Goes _ _ _ _ _ _ _ (T164.setTop (mkF m 39 #[.val (.int p0), .val (.int p1), .val (.int p2), .val (.int p3), .val (.int p4), .val (.int p5), .val (.int (2 : Int32)), .val (.int ((((p5.toUInt32 >>> ((2 : Int32) &&& 31).toUInt32).toInt32) &&& (3 : Int32)) % (3 : Int32))), .val (.int (1 : Int32)), .unset, .unset, .unset] [(.ref b164), (.ref b164)]))
      obtain ⟨_, _, ⟨T166, L166, k166, n166⟩, -, X166, ⟨Lc166, hQ166, l166, y166, z166⟩, st166⟩ := X164.specialBack hx (y := (⟨"com/example/hailwise/hailwise/NodeQueue", "<init>", "()V"⟩ : MethodName)) rfl hown (mvT hZ (hw _ (List.mem_of_getElem? (i := 3) rfl))) (mvT hZ (hw _ (List.mem_of_getElem? (i := 4) rfl))) (mvT hZ (hw _ (List.mem_of_getElem? (i := 5) rfl))) (by decide) (backOf (W := 1) (rm1 l Z a0 hw [] b164 h164 n0 Z165 F_nodes_b164 F_keys_b164 F_size_b164 E_b164 g_b164) hZ (hw _ (List.mem_of_getElem? (i := 5) rfl)) (hw _ (List.mem_of_getElem? (i := 2) rfl)) (by decide) (by decide)) (g := (mkF m 39 #[.val (.int p0), .val (.int p1), .val (.int p2), .val (.int p3), .val (.int p4), .val (.int p5), .val (.int (2 : Int32)), .val (.int ((((p5.toUInt32 >>> ((2 : Int32) &&& 31).toUInt32).toInt32) &&& (3 : Int32)) % (3 : Int32))), .val (.int (1 : Int32)), .unset, .unset, .unset] [(.ref b164), (.ref b164)])) rfl (by rw [hml]; rfl) (Steps.refl _) (a := b164) (argsL := []) (rest := [(.ref b164)]) (lenOf pd_0 rfl) rfl (by show 2 * 0 + _ ≤ _; exact Nat.le_of_eq rfl) (hb hby at_39) (fun _ _ => ⟨rfl, e164, (by decide : 1 + 2 ≤ _), (by decide : 3 + 128 ≤ _)⟩)
      dsimp only [Pt.U, Pt.locs, Pt.cells, Pt.slots] at X166 l166 y166 z166 st166 hQ166
      subst l166 y166 z166
      obtain ⟨N166, KK166, hR166⟩ := hQ166
      have NA166 := Fr.app N0 N166
      have f167 := E_b164.keep KK166
      have K171 : Keep h0 T166.heap [] := K165.trans KK166 (allS (Or.inr sz_b164) all0)
      have Z171 : n0 ≤ T166.heap.size := Nat.le_trans Z165 KK166.1
      obtain ⟨r166_0_0, r166_0_1, kk166_0_0, kk166_0_1, rfl, g_r166_0_0, le_r166_0_0, g_r166_0_1, le_r166_0_1, nn166_0_0, v166_0_0, v166_0_1, v166_0_2, v166_0_3, v166_0_4, v166_0_5⟩ := hR166
      have ne172 : b164 ≠ r166_0_0 := Nat.ne_of_lt (Nat.lt_of_lt_of_le E_b164.lt le_r166_0_0)
      have sz_r166_0_0 : h0.size ≤ r166_0_0 := Nat.le_trans K165.1 le_r166_0_0
      have ne173 : b164 ≠ r166_0_1 := Nat.ne_of_lt (Nat.lt_of_lt_of_le E_b164.lt le_r166_0_1)
      have sz_r166_0_1 : h0.size ≤ r166_0_1 := Nat.le_trans K165.1 le_r166_0_1
      refine Goes.back st166 ?_
      show Goes _ _ _ _ _ _ _ (T166.setTop (mkF m 42 #[.val (.int p0), .val (.int p1), .val (.int p2), .val (.int p3), .val (.int p4), .val (.int p5), .val (.int (2 : Int32)), .val (.int ((((p5.toUInt32 >>> ((2 : Int32) &&& 31).toUInt32).toInt32) &&& (3 : Int32)) % (3 : Int32))), .val (.int (1 : Int32)), .unset, .unset, .unset] [(.ref b164)]))
      refine Goes.step (fun _ k => XS.astore X166.here hx rfl (hb hby at_42) rfl rfl (l' := #[.val (.int p0), .val (.int p1), .val (.int p2), .val (.int p3), .val (.int p4), .val (.int p5), .val (.int (2 : Int32)), .val (.int ((((p5.toUInt32 >>> ((2 : Int32) &&& 31).toUInt32).toInt32) &&& (3 : Int32)) % (3 : Int32))), .val (.int (1 : Int32)), .val (.ref b164), .unset, .unset]) rfl k) ?_
      show Goes _ _ _ _ _ _ _ (T166.setTop (mkF m 44 #[.val (.int p0), .val (.int p1), .val (.int p2), .val (.int p3), .val (.int p4), .val (.int p5), .val (.int (2 : Int32)), .val (.int ((((p5.toUInt32 >>> ((2 : Int32) &&& 31).toUInt32).toInt32) &&& (3 : Int32)) % (3 : Int32))), .val (.int (1 : Int32)), .val (.ref b164), .unset, .unset] []))
      refine Goes.step (fun _ k => XS.iload X166.here hx rfl (hb hby at_44) rfl  k) ?_
      show Goes _ _ _ _ _ _ _ (T166.setTop (mkF m 46 #[.val (.int p0), .val (.int p1), .val (.int p2), .val (.int p3), .val (.int p4), .val (.int p5), .val (.int (2 : Int32)), .val (.int ((((p5.toUInt32 >>> ((2 : Int32) &&& 31).toUInt32).toInt32) &&& (3 : Int32)) % (3 : Int32))), .val (.int (1 : Int32)), .val (.ref b164), .unset, .unset] [(.int (2 : Int32))]))
      refine Goes.step (fun _ k => XS.iconst X166.here hx rfl (hb hby at_46) k) ?_
      show Goes _ _ _ _ _ _ _ (T166.setTop (mkF m 47 #[.val (.int p0), .val (.int p1), .val (.int p2), .val (.int p3), .val (.int p4), .val (.int p5), .val (.int (2 : Int32)), .val (.int ((((p5.toUInt32 >>> ((2 : Int32) &&& 31).toUInt32).toInt32) &&& (3 : Int32)) % (3 : Int32))), .val (.int (1 : Int32)), .val (.ref b164), .unset, .unset] [(.int (1 : Int32)), (.int (2 : Int32))]))
      refine Goes.step (fun _ k => XS.icmpNo X166.here hx rfl (hb hby at_47) rfl (flt (by decide : ¬ ((2 : Int32) < (1 : Int32)))).1 k) ?_
      show Goes _ _ _ _ _ _ _ (T166.setTop (mkF m 50 #[.val (.int p0), .val (.int p1), .val (.int p2), .val (.int p3), .val (.int p4), .val (.int p5), .val (.int (2 : Int32)), .val (.int ((((p5.toUInt32 >>> ((2 : Int32) &&& 31).toUInt32).toInt32) &&& (3 : Int32)) % (3 : Int32))), .val (.int (1 : Int32)), .val (.ref b164), .unset, .unset] []))
      refine Goes.step (fun _ k => XS.aload X166.here hx rfl (hb hby at_50) rfl rfl k) ?_
      show Goes _ _ _ _ _ _ _ (T166.setTop (mkF m 52 #[.val (.int p0), .val (.int p1), .val (.int p2), .val (.int p3), .val (.int p4), .val (.int p5), .val (.int (2 : Int32)), .val (.int ((((p5.toUInt32 >>> ((2 : Int32) &&& 31).toUInt32).toInt32) &&& (3 : Int32)) % (3 : Int32))), .val (.int (1 : Int32)), .val (.ref b164), .unset, .unset] [(.ref b164)]))
      refine Goes.step (fun _ k => XS.iloadN X166.here hx rfl (hb hby at_52) rfl  k) ?_
      show Goes _ _ _ _ _ _ _ (T166.setTop (mkF m 53 #[.val (.int p0), .val (.int p1), .val (.int p2), .val (.int p3), .val (.int p4), .val (.int p5), .val (.int (2 : Int32)), .val (.int ((((p5.toUInt32 >>> ((2 : Int32) &&& 31).toUInt32).toInt32) &&& (3 : Int32)) % (3 : Int32))), .val (.int (1 : Int32)), .val (.ref b164), .unset, .unset] [(.int p0), (.ref b164)]))
      refine Goes.step (fun _ k => XS.iloadN X166.here hx rfl (hb hby at_53) rfl  k) ?_
      show Goes _ _ _ _ _ _ _ (T166.setTop (mkF m 54 #[.val (.int p0), .val (.int p1), .val (.int p2), .val (.int p3), .val (.int p4), .val (.int p5), .val (.int (2 : Int32)), .val (.int ((((p5.toUInt32 >>> ((2 : Int32) &&& 31).toUInt32).toInt32) &&& (3 : Int32)) % (3 : Int32))), .val (.int (1 : Int32)), .val (.ref b164), .unset, .unset] [(.int p3), (.int p0), (.ref b164)]))
      refine Goes.step (fun _ k => XS.sipush X166.here hx rfl (hb hby at_54) k) ?_
      show Goes _ _ _ _ _ _ _ (T166.setTop (mkF m 57 #[.val (.int p0), .val (.int p1), .val (.int p2), .val (.int p3), .val (.int p4), .val (.int p5), .val (.int (2 : Int32)), .val (.int ((((p5.toUInt32 >>> ((2 : Int32) &&& 31).toUInt32).toInt32) &&& (3 : Int32)) % (3 : Int32))), .val (.int (1 : Int32)), .val (.ref b164), .unset, .unset] [(.int (255 : Int32)), (.int p3), (.int p0), (.ref b164)]))
      refine Goes.step (fun _ k => XS.iand X166.here hx rfl (hb hby at_57) rfl k) ?_
      show Goes _ _ _ _ _ _ _ (T166.setTop (mkF m 58 #[.val (.int p0), .val (.int p1), .val (.int p2), .val (.int p3), .val (.int p4), .val (.int p5), .val (.int (2 : Int32)), .val (.int ((((p5.toUInt32 >>> ((2 : Int32) &&& 31).toUInt32).toInt32) &&& (3 : Int32)) % (3 : Int32))), .val (.int (1 : Int32)), .val (.ref b164), .unset, .unset] [(.int (p3 &&& (255 : Int32))), (.int p0), (.ref b164)]))
      refine Goes.step (fun _ k => XS.i2dS X166.here hx rfl (hb hby at_58) rfl rfl k) ?_
      show Goes _ _ _ _ _ _ _ (T166.setTop (mkF m 59 #[.val (.int p0), .val (.int p1), .val (.int p2), .val (.int p3), .val (.int p4), .val (.int p5), .val (.int (2 : Int32)), .val (.int ((((p5.toUInt32 >>> ((2 : Int32) &&& 31).toUInt32).toInt32) &&& (3 : Int32)) % (3 : Int32))), .val (.int (1 : Int32)), .val (.ref b164), .unset, .unset] [(.double (FP.i2d (p3 &&& (255 : Int32)))), (.int p0), (.ref b164)]))
      obtain ⟨cq174, kq174, q174a, q174b, q174c⟩ := isOf hZ rfl v166_0_3
      obtain ⟨_, _, ⟨T174, L174, k174, n174⟩, -, X174, ⟨Lc174, hQ174, l174, y174, z174⟩, st174⟩ := X166.virtualBack hx (y := (⟨"com/example/hailwise/hailwise/NodeQueue", "add", "(ID)V"⟩ : MethodName)) (z := (⟨"com/example/hailwise/hailwise/NodeQueue", "add", "(ID)V"⟩ : MethodName)) hown (mvT hZ (hw _ (List.mem_of_getElem? (i := 15) rfl))) (mvT hZ (hw _ (List.mem_of_getElem? (i := 16) rfl))) (notFace_of_selects (args := #[]) (mvT hZ (hw _ (List.mem_of_getElem? (i := 18) rfl)))) (mvT hZ (hw _ (List.mem_of_getElem? (i := 18) rfl))) (mvT hZ (hw _ (List.mem_of_getElem? (i := 17) rfl))) (by decide) (backOf (W := 0) (rm3_0 l Z a0 hw [] b164 p0 (FP.i2d (p3 &&& (255 : Int32))) r166_0_0 r166_0_1 kk166_0_0 kk166_0_1 T166.heap n0 Z171 v166_0_0 v166_0_1 v166_0_2 v166_0_3 v166_0_4 v166_0_5 g_b164 g_r166_0_0 g_r166_0_1 ne172 ne173 (Ne.symm nn166_0_0)) hZ (hw _ (List.mem_of_getElem? (i := 19) rfl)) (hw _ (List.mem_of_getElem? (i := 2) rfl)) (by decide) (by decide)) q174a q174c (g := (mkF m 59 #[.val (.int p0), .val (.int p1), .val (.int p2), .val (.int p3), .val (.int p4), .val (.int p5), .val (.int (2 : Int32)), .val (.int ((((p5.toUInt32 >>> ((2 : Int32) &&& 31).toUInt32).toInt32) &&& (3 : Int32)) % (3 : Int32))), .val (.int (1 : Int32)), .val (.ref b164), .unset, .unset] [(.double (FP.i2d (p3 &&& (255 : Int32)))), (.int p0), (.ref b164)])) rfl (by rw [hml]; rfl) (Steps.refl _) (argsL := [(.int p0), (.double (FP.i2d (p3 &&& (255 : Int32))))]) (rest := []) (lenOf pd_1 rfl) rfl (by show 2 * 0 + _ ≤ _; exact Nat.le_of_eq rfl) (hb hby at_59) (fun _ _ => ⟨rfl, rfl, (by decide : 3 + 0 ≤ _), (by decide : 131 + 0 ≤ _)⟩)
      dsimp only [Pt.U, Pt.locs, Pt.cells, Pt.slots] at X174 l174 y174 z174 st174 hQ174
      subst l174 y174 z174
      obtain ⟨N174, KK174, hR174⟩ := hQ174
      have NA174 := Fr.app NA166 N174
      have f175 := v166_0_3.keep KK174
      have K181 : Keep h0 T174.heap [] := K171.trans KK174 (allS (Or.inr sz_b164) (allS (Or.inr sz_r166_0_0) (allS (Or.inr sz_r166_0_1) all0)))
      have Z181 : n0 ≤ T174.heap.size := Nat.le_trans Z171 KK174.1
      obtain ⟨rfl, v174_0_0, v174_0_1, v174_0_2, v174_0_3, v174_0_4, v174_0_5⟩ := hR174
      refine Goes.back st174 ?_
      show Goes _ _ _ _ _ _ _ (T174.setTop (mkF m 62 #[.val (.int p0), .val (.int p1), .val (.int p2), .val (.int p3), .val (.int p4), .val (.int p5), .val (.int (2 : Int32)), .val (.int ((((p5.toUInt32 >>> ((2 : Int32) &&& 31).toUInt32).toInt32) &&& (3 : Int32)) % (3 : Int32))), .val (.int (1 : Int32)), .val (.ref b164), .unset, .unset] []))
      refine Goes.step (fun _ k => XS.iload X174.here hx rfl (hb hby at_62) rfl  k) ?_
      show Goes _ _ _ _ _ _ _ (T174.setTop (mkF m 64 #[.val (.int p0), .val (.int p1), .val (.int p2), .val (.int p3), .val (.int p4), .val (.int p5), .val (.int (2 : Int32)), .val (.int ((((p5.toUInt32 >>> ((2 : Int32) &&& 31).toUInt32).toInt32) &&& (3 : Int32)) % (3 : Int32))), .val (.int (1 : Int32)), .val (.ref b164), .unset, .unset] [(.int (2 : Int32))]))
      refine Goes.step (fun _ k => XS.iconst X174.here hx rfl (hb hby at_64) k) ?_
      show Goes _ _ _ _ _ _ _ (T174.setTop (mkF m 65 #[.val (.int p0), .val (.int p1), .val (.int p2), .val (.int p3), .val (.int p4), .val (.int p5), .val (.int (2 : Int32)), .val (.int ((((p5.toUInt32 >>> ((2 : Int32) &&& 31).toUInt32).toInt32) &&& (3 : Int32)) % (3 : Int32))), .val (.int (1 : Int32)), .val (.ref b164), .unset, .unset] [(.int (2 : Int32)), (.int (2 : Int32))]))
      refine Goes.step (fun _ k => XS.icmpNo X174.here hx rfl (hb hby at_65) rfl (flt (by decide : ¬ ((2 : Int32) < (2 : Int32)))).1 k) ?_
      show Goes _ _ _ _ _ _ _ (T174.setTop (mkF m 68 #[.val (.int p0), .val (.int p1), .val (.int p2), .val (.int p3), .val (.int p4), .val (.int p5), .val (.int (2 : Int32)), .val (.int ((((p5.toUInt32 >>> ((2 : Int32) &&& 31).toUInt32).toInt32) &&& (3 : Int32)) % (3 : Int32))), .val (.int (1 : Int32)), .val (.ref b164), .unset, .unset] []))
      refine Goes.step (fun _ k => XS.aload X174.here hx rfl (hb hby at_68) rfl rfl k) ?_
      show Goes _ _ _ _ _ _ _ (T174.setTop (mkF m 70 #[.val (.int p0), .val (.int p1), .val (.int p2), .val (.int p3), .val (.int p4), .val (.int p5), .val (.int (2 : Int32)), .val (.int ((((p5.toUInt32 >>> ((2 : Int32) &&& 31).toUInt32).toInt32) &&& (3 : Int32)) % (3 : Int32))), .val (.int (1 : Int32)), .val (.ref b164), .unset, .unset] [(.ref b164)]))
      refine Goes.step (fun _ k => XS.iloadN X174.here hx rfl (hb hby at_70) rfl  k) ?_
      show Goes _ _ _ _ _ _ _ (T174.setTop (mkF m 71 #[.val (.int p0), .val (.int p1), .val (.int p2), .val (.int p3), .val (.int p4), .val (.int p5), .val (.int (2 : Int32)), .val (.int ((((p5.toUInt32 >>> ((2 : Int32) &&& 31).toUInt32).toInt32) &&& (3 : Int32)) % (3 : Int32))), .val (.int (1 : Int32)), .val (.ref b164), .unset, .unset] [(.int p1), (.ref b164)]))
      refine Goes.step (fun _ k => XS.iload X174.here hx rfl (hb hby at_71) rfl  k) ?_
      show Goes _ _ _ _ _ _ _ (T174.setTop (mkF m 73 #[.val (.int p0), .val (.int p1), .val (.int p2), .val (.int p3), .val (.int p4), .val (.int p5), .val (.int (2 : Int32)), .val (.int ((((p5.toUInt32 >>> ((2 : Int32) &&& 31).toUInt32).toInt32) &&& (3 : Int32)) % (3 : Int32))), .val (.int (1 : Int32)), .val (.ref b164), .unset, .unset] [(.int p4), (.int p1), (.ref b164)]))
      refine Goes.step (fun _ k => XS.sipush X174.here hx rfl (hb hby at_73) k) ?_
      show Goes _ _ _ _ _ _ _ (T174.setTop (mkF m 76 #[.val (.int p0), .val (.int p1), .val (.int p2), .val (.int p3), .val (.int p4), .val (.int p5), .val (.int (2 : Int32)), .val (.int ((((p5.toUInt32 >>> ((2 : Int32) &&& 31).toUInt32).toInt32) &&& (3 : Int32)) % (3 : Int32))), .val (.int (1 : Int32)), .val (.ref b164), .unset, .unset] [(.int (255 : Int32)), (.int p4), (.int p1), (.ref b164)]))
      refine Goes.step (fun _ k => XS.iand X174.here hx rfl (hb hby at_76) rfl k) ?_
      show Goes _ _ _ _ _ _ _ (T174.setTop (mkF m 77 #[.val (.int p0), .val (.int p1), .val (.int p2), .val (.int p3), .val (.int p4), .val (.int p5), .val (.int (2 : Int32)), .val (.int ((((p5.toUInt32 >>> ((2 : Int32) &&& 31).toUInt32).toInt32) &&& (3 : Int32)) % (3 : Int32))), .val (.int (1 : Int32)), .val (.ref b164), .unset, .unset] [(.int (p4 &&& (255 : Int32))), (.int p1), (.ref b164)]))
      refine Goes.step (fun _ k => XS.i2dS X174.here hx rfl (hb hby at_77) rfl rfl k) ?_
      show Goes _ _ _ _ _ _ _ (T174.setTop (mkF m 78 #[.val (.int p0), .val (.int p1), .val (.int p2), .val (.int p3), .val (.int p4), .val (.int p5), .val (.int (2 : Int32)), .val (.int ((((p5.toUInt32 >>> ((2 : Int32) &&& 31).toUInt32).toInt32) &&& (3 : Int32)) % (3 : Int32))), .val (.int (1 : Int32)), .val (.ref b164), .unset, .unset] [(.double (FP.i2d (p4 &&& (255 : Int32)))), (.int p1), (.ref b164)]))
      obtain ⟨cq182, kq182, q182a, q182b, q182c⟩ := isOf hZ rfl v174_0_3
      obtain ⟨_, _, ⟨T182, L182, k182, n182⟩, -, X182, ⟨Lc182, hQ182, l182, y182, z182⟩, st182⟩ := X174.virtualBack hx (y := (⟨"com/example/hailwise/hailwise/NodeQueue", "add", "(ID)V"⟩ : MethodName)) (z := (⟨"com/example/hailwise/hailwise/NodeQueue", "add", "(ID)V"⟩ : MethodName)) hown (mvT hZ (hw _ (List.mem_of_getElem? (i := 15) rfl))) (mvT hZ (hw _ (List.mem_of_getElem? (i := 16) rfl))) (notFace_of_selects (args := #[]) (mvT hZ (hw _ (List.mem_of_getElem? (i := 18) rfl)))) (mvT hZ (hw _ (List.mem_of_getElem? (i := 18) rfl))) (mvT hZ (hw _ (List.mem_of_getElem? (i := 17) rfl))) (by decide) (backOf (W := 0) (rm3_1 l Z a0 hw [] b164 p1 (FP.i2d (p4 &&& (255 : Int32))) r166_0_0 r166_0_1 kk166_0_0 kk166_0_1 T174.heap n0 Z181 v174_0_0 v174_0_1 v174_0_2 v174_0_3 v174_0_4 v174_0_5 g_b164 g_r166_0_0 g_r166_0_1 ne172 ne173 (Ne.symm nn166_0_0)) hZ (hw _ (List.mem_of_getElem? (i := 19) rfl)) (hw _ (List.mem_of_getElem? (i := 2) rfl)) (by decide) (by decide)) q182a q182c (g := (mkF m 78 #[.val (.int p0), .val (.int p1), .val (.int p2), .val (.int p3), .val (.int p4), .val (.int p5), .val (.int (2 : Int32)), .val (.int ((((p5.toUInt32 >>> ((2 : Int32) &&& 31).toUInt32).toInt32) &&& (3 : Int32)) % (3 : Int32))), .val (.int (1 : Int32)), .val (.ref b164), .unset, .unset] [(.double (FP.i2d (p4 &&& (255 : Int32)))), (.int p1), (.ref b164)])) rfl (by rw [hml]; rfl) (Steps.refl _) (argsL := [(.int p1), (.double (FP.i2d (p4 &&& (255 : Int32))))]) (rest := []) (lenOf pd_1 rfl) rfl (by show 2 * 0 + _ ≤ _; exact Nat.le_of_eq rfl) (hb hby at_78) (fun _ _ => ⟨rfl, rfl, (by decide : 3 + 0 ≤ _), (by decide : 131 + 0 ≤ _)⟩)
      dsimp only [Pt.U, Pt.locs, Pt.cells, Pt.slots] at X182 l182 y182 z182 st182 hQ182
      subst l182 y182 z182
      obtain ⟨N182, KK182, hR182⟩ := hQ182
      have NA182 := Fr.app NA174 N182
      have f183 := v174_0_3.keep KK182
      have K189 : Keep h0 T182.heap [] := K181.trans KK182 (allS (Or.inr sz_b164) (allS (Or.inr sz_r166_0_0) (allS (Or.inr sz_r166_0_1) all0)))
      have Z189 : n0 ≤ T182.heap.size := Nat.le_trans Z181 KK182.1
      obtain ⟨rfl, v182_0_0, v182_0_1, v182_0_2, v182_0_3, v182_0_4, v182_0_5⟩ := hR182
      refine Goes.back st182 ?_
      show Goes _ _ _ _ _ _ _ (T182.setTop (mkF m 81 #[.val (.int p0), .val (.int p1), .val (.int p2), .val (.int p3), .val (.int p4), .val (.int p5), .val (.int (2 : Int32)), .val (.int ((((p5.toUInt32 >>> ((2 : Int32) &&& 31).toUInt32).toInt32) &&& (3 : Int32)) % (3 : Int32))), .val (.int (1 : Int32)), .val (.ref b164), .unset, .unset] []))
      refine Goes.step (fun _ k => XS.iload X182.here hx rfl (hb hby at_81) rfl  k) ?_
      show Goes _ _ _ _ _ _ _ (T182.setTop (mkF m 83 #[.val (.int p0), .val (.int p1), .val (.int p2), .val (.int p3), .val (.int p4), .val (.int p5), .val (.int (2 : Int32)), .val (.int ((((p5.toUInt32 >>> ((2 : Int32) &&& 31).toUInt32).toInt32) &&& (3 : Int32)) % (3 : Int32))), .val (.int (1 : Int32)), .val (.ref b164), .unset, .unset] [(.int (2 : Int32))]))
      refine Goes.step (fun _ k => XS.iconst X182.here hx rfl (hb hby at_83) k) ?_
      show Goes _ _ _ _ _ _ _ (T182.setTop (mkF m 84 #[.val (.int p0), .val (.int p1), .val (.int p2), .val (.int p3), .val (.int p4), .val (.int p5), .val (.int (2 : Int32)), .val (.int ((((p5.toUInt32 >>> ((2 : Int32) &&& 31).toUInt32).toInt32) &&& (3 : Int32)) % (3 : Int32))), .val (.int (1 : Int32)), .val (.ref b164), .unset, .unset] [(.int (3 : Int32)), (.int (2 : Int32))]))
      refine Goes.step (fun _ k => XS.icmpYes X182.here hx rfl (pc0 := 84) (pc' := 102) rfl (hb hby at_84) rfl (tlt (by decide : (2 : Int32) < (3 : Int32))).1 (by decide) (by decide) k) ?_
      show Goes _ _ _ _ _ _ _ (T182.setTop (mkF m 102 #[.val (.int p0), .val (.int p1), .val (.int p2), .val (.int p3), .val (.int p4), .val (.int p5), .val (.int (2 : Int32)), .val (.int ((((p5.toUInt32 >>> ((2 : Int32) &&& 31).toUInt32).toInt32) &&& (3 : Int32)) % (3 : Int32))), .val (.int (1 : Int32)), .val (.ref b164), .unset, .unset] []))
      refine Goes.step (fun _ k => XS.aload X182.here hx rfl (hb hby at_102) rfl rfl k) ?_
      show Goes _ _ _ _ _ _ _ (T182.setTop (mkF m 104 #[.val (.int p0), .val (.int p1), .val (.int p2), .val (.int p3), .val (.int p4), .val (.int p5), .val (.int (2 : Int32)), .val (.int ((((p5.toUInt32 >>> ((2 : Int32) &&& 31).toUInt32).toInt32) &&& (3 : Int32)) % (3 : Int32))), .val (.int (1 : Int32)), .val (.ref b164), .unset, .unset] [(.ref b164)]))
      obtain ⟨cq190, kq190, q190a, q190b, q190c⟩ := isOf hZ rfl v182_0_3
      obtain ⟨_, _, ⟨T190, L190, k190, n190⟩, -, X190, ⟨Lc190, hQ190, l190, y190, z190⟩, st190⟩ := X182.virtualBack hx (y := (⟨"com/example/hailwise/hailwise/NodeQueue", "isEmpty", "()Z"⟩ : MethodName)) (z := (⟨"com/example/hailwise/hailwise/NodeQueue", "isEmpty", "()Z"⟩ : MethodName)) hown (mvT hZ (hw _ (List.mem_of_getElem? (i := 22) rfl))) (mvT hZ (hw _ (List.mem_of_getElem? (i := 23) rfl))) (notFace_of_selects (args := #[]) (mvT hZ (hw _ (List.mem_of_getElem? (i := 25) rfl)))) (mvT hZ (hw _ (List.mem_of_getElem? (i := 25) rfl))) (mvT hZ (hw _ (List.mem_of_getElem? (i := 24) rfl))) (by decide) (backOf (W := 0) (rm4 l Z a0 hw [] b164 (2 : Int32) T182.heap n0 Z189 v182_0_2) hZ (hw _ (List.mem_of_getElem? (i := 26) rfl)) (hw _ (List.mem_of_getElem? (i := 2) rfl)) (by decide) (by decide)) q190a q190c (g := (mkF m 104 #[.val (.int p0), .val (.int p1), .val (.int p2), .val (.int p3), .val (.int p4), .val (.int p5), .val (.int (2 : Int32)), .val (.int ((((p5.toUInt32 >>> ((2 : Int32) &&& 31).toUInt32).toInt32) &&& (3 : Int32)) % (3 : Int32))), .val (.int (1 : Int32)), .val (.ref b164), .unset, .unset] [(.ref b164)])) rfl (by rw [hml]; rfl) (Steps.refl _) (argsL := []) (rest := []) (lenOf pd_2 rfl) rfl (by show 2 * 0 + _ ≤ _; exact Nat.le_of_eq rfl) (hb hby at_104) (fun _ _ => ⟨rfl, rfl, (by decide : 3 + 0 ≤ _), (by decide : 131 + 0 ≤ _)⟩)
      dsimp only [Pt.U, Pt.locs, Pt.cells, Pt.slots] at X190 l190 y190 z190 st190 hQ190
      subst l190 y190 z190
      obtain ⟨N190, eh190, hR190⟩ := hQ190
      have NA190 := Fr.app NA182 N190
      rcases hR190 with ⟨rfl, u190_0_0⟩ | ⟨rfl, u190_1_0⟩
      · exact absurd u190_0_0 (by decide : ¬ ((2 : Int32) = (0 : Int32)))
      · refine Goes.back st190 ?_
        show Goes _ _ _ _ _ _ _ (T190.setTop (mkF m 107 #[.val (.int p0), .val (.int p1), .val (.int p2), .val (.int p3), .val (.int p4), .val (.int p5), .val (.int (2 : Int32)), .val (.int ((((p5.toUInt32 >>> ((2 : Int32) &&& 31).toUInt32).toInt32) &&& (3 : Int32)) % (3 : Int32))), .val (.int (1 : Int32)), .val (.ref b164), .unset, .unset] [(.int (0 : Int32))]))
        refine Goes.step (fun _ k => XS.iload X190.here hx rfl (hb hby at_107) rfl  k) ?_
        show Goes _ _ _ _ _ _ _ (T190.setTop (mkF m 109 #[.val (.int p0), .val (.int p1), .val (.int p2), .val (.int p3), .val (.int p4), .val (.int p5), .val (.int (2 : Int32)), .val (.int ((((p5.toUInt32 >>> ((2 : Int32) &&& 31).toUInt32).toInt32) &&& (3 : Int32)) % (3 : Int32))), .val (.int (1 : Int32)), .val (.ref b164), .unset, .unset] [(.int (2 : Int32)), (.int (0 : Int32))]))
        refine Goes.step (fun _ k => XS.ifYes X190.here hx rfl (pc0 := 109) (pc' := 116) rfl (hb hby at_109) rfl ((if0 _ _).trans (feq (by decide : ¬ ((2 : Int32) = (0 : Int32)))).2) (by decide) (by decide) k) ?_
        show Goes _ _ _ _ _ _ _ (T190.setTop (mkF m 116 #[.val (.int p0), .val (.int p1), .val (.int p2), .val (.int p3), .val (.int p4), .val (.int p5), .val (.int (2 : Int32)), .val (.int ((((p5.toUInt32 >>> ((2 : Int32) &&& 31).toUInt32).toInt32) &&& (3 : Int32)) % (3 : Int32))), .val (.int (1 : Int32)), .val (.ref b164), .unset, .unset] [(.int (0 : Int32))]))
        refine Goes.step (fun _ k => XS.iconst X190.here hx rfl (hb hby at_116) k) ?_
        show Goes _ _ _ _ _ _ _ (T190.setTop (mkF m 117 #[.val (.int p0), .val (.int p1), .val (.int p2), .val (.int p3), .val (.int p4), .val (.int p5), .val (.int (2 : Int32)), .val (.int ((((p5.toUInt32 >>> ((2 : Int32) &&& 31).toUInt32).toInt32) &&& (3 : Int32)) % (3 : Int32))), .val (.int (1 : Int32)), .val (.ref b164), .unset, .unset] [(.int (0 : Int32)), (.int (0 : Int32))]))
        refine Goes.step (fun _ k => XS.icmpNo X190.here hx rfl (hb hby at_117) rfl (teq (by decide : (0 : Int32) = (0 : Int32))).2 k) ?_
        show Goes _ _ _ _ _ _ _ (T190.setTop (mkF m 120 #[.val (.int p0), .val (.int p1), .val (.int p2), .val (.int p3), .val (.int p4), .val (.int p5), .val (.int (2 : Int32)), .val (.int ((((p5.toUInt32 >>> ((2 : Int32) &&& 31).toUInt32).toInt32) &&& (3 : Int32)) % (3 : Int32))), .val (.int (1 : Int32)), .val (.ref b164), .unset, .unset] []))
        refine Goes.step (fun _ k => XS.iconst X190.here hx rfl (hb hby at_120) k) ?_
        show Goes _ _ _ _ _ _ _ (T190.setTop (mkF m 121 #[.val (.int p0), .val (.int p1), .val (.int p2), .val (.int p3), .val (.int p4), .val (.int p5), .val (.int (2 : Int32)), .val (.int ((((p5.toUInt32 >>> ((2 : Int32) &&& 31).toUInt32).toInt32) &&& (3 : Int32)) % (3 : Int32))), .val (.int (1 : Int32)), .val (.ref b164), .unset, .unset] [(.int (1 : Int32))]))
        refine Goes.step (fun _ k => XS.goto X190.here hx rfl (pc0 := 121) (pc' := 125) rfl (hb hby at_121) (by decide) (by decide) k) ?_
        show Goes _ _ _ _ _ _ _ (T190.setTop (mkF m 125 #[.val (.int p0), .val (.int p1), .val (.int p2), .val (.int p3), .val (.int p4), .val (.int p5), .val (.int (2 : Int32)), .val (.int ((((p5.toUInt32 >>> ((2 : Int32) &&& 31).toUInt32).toInt32) &&& (3 : Int32)) % (3 : Int32))), .val (.int (1 : Int32)), .val (.ref b164), .unset, .unset] [(.int (1 : Int32))]))
        refine Goes.step (fun _ k => XS.istore X190.here hx rfl (hb hby at_125) rfl (l' := #[.val (.int p0), .val (.int p1), .val (.int p2), .val (.int p3), .val (.int p4), .val (.int p5), .val (.int (2 : Int32)), .val (.int ((((p5.toUInt32 >>> ((2 : Int32) &&& 31).toUInt32).toInt32) &&& (3 : Int32)) % (3 : Int32))), .val (.int (1 : Int32)), .val (.ref b164), .val (.int (1 : Int32)), .unset]) rfl k) ?_
        show Goes _ _ _ _ _ _ _ (T190.setTop (mkF m 127 #[.val (.int p0), .val (.int p1), .val (.int p2), .val (.int p3), .val (.int p4), .val (.int p5), .val (.int (2 : Int32)), .val (.int ((((p5.toUInt32 >>> ((2 : Int32) &&& 31).toUInt32).toInt32) &&& (3 : Int32)) % (3 : Int32))), .val (.int (1 : Int32)), .val (.ref b164), .val (.int (1 : Int32)), .unset] []))
        generalize hg_m7 : ((((p5.toUInt32 >>> ((2 : Int32) &&& 31).toUInt32).toInt32) &&& (3 : Int32)) % (3 : Int32)) = m7
        show Goes _ _ _ _ _ _ _ (T190.setTop (mkF m 127 #[.val (.int p0), .val (.int p1), .val (.int p2), .val (.int p3), .val (.int p4), .val (.int p5), .val (.int (2 : Int32)), .val (.int m7), .val (.int (1 : Int32)), .val (.ref b164), .val (.int (1 : Int32)), .unset] []))
        rcases own_m3 hg_m7 with rfl | rfl | rfl
        · show Goes _ _ _ _ _ _ _ (T190.setTop (mkF m 127 #[.val (.int p0), .val (.int p1), .val (.int p2), .val (.int p3), .val (.int p4), .val (.int p5), .val (.int (2 : Int32)), .val (.int (0 : Int32)), .val (.int (1 : Int32)), .val (.ref b164), .val (.int (1 : Int32)), .unset] []))
          refine Goes.step (fun _ k => XS.iload X190.here hx rfl (hb hby at_127) rfl  k) ?_
          show Goes _ _ _ _ _ _ _ (T190.setTop (mkF m 129 #[.val (.int p0), .val (.int p1), .val (.int p2), .val (.int p3), .val (.int p4), .val (.int p5), .val (.int (2 : Int32)), .val (.int (0 : Int32)), .val (.int (1 : Int32)), .val (.ref b164), .val (.int (1 : Int32)), .unset] [(.int (0 : Int32))]))
          refine Goes.step (fun _ k => XS.iconst X190.here hx rfl (hb hby at_129) k) ?_
          show Goes _ _ _ _ _ _ _ (T190.setTop (mkF m 130 #[.val (.int p0), .val (.int p1), .val (.int p2), .val (.int p3), .val (.int p4), .val (.int p5), .val (.int (2 : Int32)), .val (.int (0 : Int32)), .val (.int (1 : Int32)), .val (.ref b164), .val (.int (1 : Int32)), .unset] [(.int (1 : Int32)), (.int (0 : Int32))]))
          refine Goes.step (fun _ k => XS.icmpYes X190.here hx rfl (pc0 := 130) (pc' := 139) rfl (hb hby at_130) rfl (tlt (by decide : (0 : Int32) < (1 : Int32))).1 (by decide) (by decide) k) ?_
          show Goes _ _ _ _ _ _ _ (T190.setTop (mkF m 139 #[.val (.int p0), .val (.int p1), .val (.int p2), .val (.int p3), .val (.int p4), .val (.int p5), .val (.int (2 : Int32)), .val (.int (0 : Int32)), .val (.int (1 : Int32)), .val (.ref b164), .val (.int (1 : Int32)), .unset] []))
          refine Goes.step (fun _ k => XS.iload X190.here hx rfl (hb hby at_139) rfl  k) ?_
          show Goes _ _ _ _ _ _ _ (T190.setTop (mkF m 141 #[.val (.int p0), .val (.int p1), .val (.int p2), .val (.int p3), .val (.int p4), .val (.int p5), .val (.int (2 : Int32)), .val (.int (0 : Int32)), .val (.int (1 : Int32)), .val (.ref b164), .val (.int (1 : Int32)), .unset] [(.int (0 : Int32))]))
          refine Goes.step (fun _ k => XS.iconst X190.here hx rfl (hb hby at_141) k) ?_
          show Goes _ _ _ _ _ _ _ (T190.setTop (mkF m 142 #[.val (.int p0), .val (.int p1), .val (.int p2), .val (.int p3), .val (.int p4), .val (.int p5), .val (.int (2 : Int32)), .val (.int (0 : Int32)), .val (.int (1 : Int32)), .val (.ref b164), .val (.int (1 : Int32)), .unset] [(.int (2 : Int32)), (.int (0 : Int32))]))
          refine Goes.step (fun _ k => XS.icmpYes X190.here hx rfl (pc0 := 142) (pc' := 151) rfl (hb hby at_142) rfl (tlt (by decide : (0 : Int32) < (2 : Int32))).1 (by decide) (by decide) k) ?_
          show Goes _ _ _ _ _ _ _ (T190.setTop (mkF m 151 #[.val (.int p0), .val (.int p1), .val (.int p2), .val (.int p3), .val (.int p4), .val (.int p5), .val (.int (2 : Int32)), .val (.int (0 : Int32)), .val (.int (1 : Int32)), .val (.ref b164), .val (.int (1 : Int32)), .unset] []))
          refine Goes.step (fun _ k => XS.iload X190.here hx rfl (hb hby at_151) rfl  k) ?_
          show Goes _ _ _ _ _ _ _ (T190.setTop (mkF m 153 #[.val (.int p0), .val (.int p1), .val (.int p2), .val (.int p3), .val (.int p4), .val (.int p5), .val (.int (2 : Int32)), .val (.int (0 : Int32)), .val (.int (1 : Int32)), .val (.ref b164), .val (.int (1 : Int32)), .unset] [(.int (0 : Int32))]))
          refine Goes.step (fun _ k => XS.iconst X190.here hx rfl (hb hby at_153) k) ?_
          show Goes _ _ _ _ _ _ _ (T190.setTop (mkF m 154 #[.val (.int p0), .val (.int p1), .val (.int p2), .val (.int p3), .val (.int p4), .val (.int p5), .val (.int (2 : Int32)), .val (.int (0 : Int32)), .val (.int (1 : Int32)), .val (.ref b164), .val (.int (1 : Int32)), .unset] [(.int (3 : Int32)), (.int (0 : Int32))]))
          refine Goes.step (fun _ k => XS.icmpYes X190.here hx rfl (pc0 := 154) (pc' := 163) rfl (hb hby at_154) rfl (tlt (by decide : (0 : Int32) < (3 : Int32))).1 (by decide) (by decide) k) ?_
          show Goes _ _ _ _ _ _ _ (T190.setTop (mkF m 163 #[.val (.int p0), .val (.int p1), .val (.int p2), .val (.int p3), .val (.int p4), .val (.int p5), .val (.int (2 : Int32)), .val (.int (0 : Int32)), .val (.int (1 : Int32)), .val (.ref b164), .val (.int (1 : Int32)), .unset] []))
          refine Goes.step (fun _ k => XS.iload X190.here hx rfl (hb hby at_163) rfl  k) ?_
          show Goes _ _ _ _ _ _ _ (T190.setTop (mkF m 165 #[.val (.int p0), .val (.int p1), .val (.int p2), .val (.int p3), .val (.int p4), .val (.int p5), .val (.int (2 : Int32)), .val (.int (0 : Int32)), .val (.int (1 : Int32)), .val (.ref b164), .val (.int (1 : Int32)), .unset] [(.int (1 : Int32))]))
          refine Goes.step (fun _ k => XS.ifNo X190.here hx rfl (hb hby at_165) rfl ((if0 _ _).trans (feq (by decide : ¬ ((1 : Int32) = (0 : Int32)))).1) k) ?_
          show Goes _ _ _ _ _ _ _ (T190.setTop (mkF m 168 #[.val (.int p0), .val (.int p1), .val (.int p2), .val (.int p3), .val (.int p4), .val (.int p5), .val (.int (2 : Int32)), .val (.int (0 : Int32)), .val (.int (1 : Int32)), .val (.ref b164), .val (.int (1 : Int32)), .unset] []))
          refine Goes.step (fun _ k => XS.aload X190.here hx rfl (hb hby at_168) rfl rfl k) ?_
          show Goes _ _ _ _ _ _ _ (T190.setTop (mkF m 170 #[.val (.int p0), .val (.int p1), .val (.int p2), .val (.int p3), .val (.int p4), .val (.int p5), .val (.int (2 : Int32)), .val (.int (0 : Int32)), .val (.int (1 : Int32)), .val (.ref b164), .val (.int (1 : Int32)), .unset] [(.ref b164)]))
          obtain ⟨cq191, kq191, q191a, q191b, q191c⟩ := isOf hZ eh190 v182_0_3
          obtain ⟨_, _, ⟨T191, L191, k191, n191⟩, -, X191, ⟨Lc191, hQ191, l191, y191, z191⟩, st191⟩ := X190.virtualBack hx (y := (⟨"com/example/hailwise/hailwise/NodeQueue", "clear", "()V"⟩ : MethodName)) (z := (⟨"com/example/hailwise/hailwise/NodeQueue", "clear", "()V"⟩ : MethodName)) hown (mvT hZ (hw _ (List.mem_of_getElem? (i := 32) rfl))) (mvT hZ (hw _ (List.mem_of_getElem? (i := 33) rfl))) (notFace_of_selects (args := #[]) (mvT hZ (hw _ (List.mem_of_getElem? (i := 35) rfl)))) (mvT hZ (hw _ (List.mem_of_getElem? (i := 35) rfl))) (mvT hZ (hw _ (List.mem_of_getElem? (i := 34) rfl))) (by decide) (backOf (W := 0) (rm6 l Z a0 hw [] b164 r166_0_0 r166_0_1 (2 : Int32) T182.heap n0 Z189 v182_0_0 v182_0_1 v182_0_2 v182_0_3 g_b164) hZ (hw _ (List.mem_of_getElem? (i := 36) rfl)) (hw _ (List.mem_of_getElem? (i := 2) rfl)) (by decide) (by decide)) q191a q191c (g := (mkF m 170 #[.val (.int p0), .val (.int p1), .val (.int p2), .val (.int p3), .val (.int p4), .val (.int p5), .val (.int (2 : Int32)), .val (.int (0 : Int32)), .val (.int (1 : Int32)), .val (.ref b164), .val (.int (1 : Int32)), .unset] [(.ref b164)])) rfl (by rw [hml]; rfl) (Steps.refl _) (argsL := []) (rest := []) (lenOf pd_0 rfl) rfl (by show 2 * 0 + _ ≤ _; exact Nat.le_of_eq rfl) (hb hby at_170) (fun _ _ => ⟨rfl, eh190, (by decide : 3 + 0 ≤ _), (by decide : 131 + 0 ≤ _)⟩)
          dsimp only [Pt.U, Pt.locs, Pt.cells, Pt.slots] at X191 l191 y191 z191 st191 hQ191
          subst l191 y191 z191
          obtain ⟨N191, KK191, hR191⟩ := hQ191
          have NA191 := Fr.app NA190 N191
          have f192 := v182_0_3.keep KK191
          have f196 := v182_0_4.keep KK191 (ninS (Ne.symm ne172) nin0)
          have f197 := v182_0_5.keep KK191 (ninS (Ne.symm ne173) nin0)
          have K198 : Keep h0 T191.heap [] := K189.trans KK191 (allS (Or.inr sz_b164) all0)
          have Z198 : n0 ≤ T191.heap.size := Nat.le_trans Z189 KK191.1
          obtain ⟨rfl, v191_0_0, v191_0_1, v191_0_2, v191_0_3⟩ := hR191
          refine Goes.back st191 ?_
          show Goes _ _ _ _ _ _ _ (T191.setTop (mkF m 173 #[.val (.int p0), .val (.int p1), .val (.int p2), .val (.int p3), .val (.int p4), .val (.int p5), .val (.int (2 : Int32)), .val (.int (0 : Int32)), .val (.int (1 : Int32)), .val (.ref b164), .val (.int (1 : Int32)), .unset] []))
          refine Goes.step (fun _ k => XS.iload X191.here hx rfl (hb hby at_173) rfl  k) ?_
          show Goes _ _ _ _ _ _ _ (T191.setTop (mkF m 175 #[.val (.int p0), .val (.int p1), .val (.int p2), .val (.int p3), .val (.int p4), .val (.int p5), .val (.int (2 : Int32)), .val (.int (0 : Int32)), .val (.int (1 : Int32)), .val (.ref b164), .val (.int (1 : Int32)), .unset] [(.int (1 : Int32))]))
          refine Goes.step (fun _ k => XS.ifYes X191.here hx rfl (pc0 := 175) (pc' := 185) rfl (hb hby at_175) rfl ((if0 _ _).trans (feq (by decide : ¬ ((1 : Int32) = (0 : Int32)))).2) (by decide) (by decide) k) ?_
          show Goes _ _ _ _ _ _ _ (T191.setTop (mkF m 185 #[.val (.int p0), .val (.int p1), .val (.int p2), .val (.int p3), .val (.int p4), .val (.int p5), .val (.int (2 : Int32)), .val (.int (0 : Int32)), .val (.int (1 : Int32)), .val (.ref b164), .val (.int (1 : Int32)), .unset] []))
          refine Goes.step (fun _ k => XS.iconst X191.here hx rfl (hb hby at_185) k) ?_
          show Goes _ _ _ _ _ _ _ (T191.setTop (mkF m 186 #[.val (.int p0), .val (.int p1), .val (.int p2), .val (.int p3), .val (.int p4), .val (.int p5), .val (.int (2 : Int32)), .val (.int (0 : Int32)), .val (.int (1 : Int32)), .val (.ref b164), .val (.int (1 : Int32)), .unset] [(.int (1 : Int32))]))
          refine Goes.step (fun _ k => XS.goto X191.here hx rfl (pc0 := 186) (pc' := 190) rfl (hb hby at_186) (by decide) (by decide) k) ?_
          show Goes _ _ _ _ _ _ _ (T191.setTop (mkF m 190 #[.val (.int p0), .val (.int p1), .val (.int p2), .val (.int p3), .val (.int p4), .val (.int p5), .val (.int (2 : Int32)), .val (.int (0 : Int32)), .val (.int (1 : Int32)), .val (.ref b164), .val (.int (1 : Int32)), .unset] [(.int (1 : Int32))]))
          refine Goes.step (fun _ k => XS.istore X191.here hx rfl (hb hby at_190) rfl (l' := #[.val (.int p0), .val (.int p1), .val (.int p2), .val (.int p3), .val (.int p4), .val (.int p5), .val (.int (2 : Int32)), .val (.int (0 : Int32)), .val (.int (1 : Int32)), .val (.ref b164), .val (.int (1 : Int32)), .val (.int (1 : Int32))]) rfl k) ?_
          show Goes _ _ _ _ _ _ _ (T191.setTop (mkF m 192 #[.val (.int p0), .val (.int p1), .val (.int p2), .val (.int p3), .val (.int p4), .val (.int p5), .val (.int (2 : Int32)), .val (.int (0 : Int32)), .val (.int (1 : Int32)), .val (.ref b164), .val (.int (1 : Int32)), .val (.int (1 : Int32))] []))
          refine Goes.step (fun _ k => XS.iload X191.here hx rfl (hb hby at_192) rfl  k) ?_
          show Goes _ _ _ _ _ _ _ (T191.setTop (mkF m 194 #[.val (.int p0), .val (.int p1), .val (.int p2), .val (.int p3), .val (.int p4), .val (.int p5), .val (.int (2 : Int32)), .val (.int (0 : Int32)), .val (.int (1 : Int32)), .val (.ref b164), .val (.int (1 : Int32)), .val (.int (1 : Int32))] [(.int (1 : Int32))]))
          refine Goes.step (fun _ k => XS.ifNo X191.here hx rfl (hb hby at_194) rfl ((if0 _ _).trans (feq (by decide : ¬ ((1 : Int32) = (0 : Int32)))).1) k) ?_
          show Goes _ _ _ _ _ _ _ (T191.setTop (mkF m 197 #[.val (.int p0), .val (.int p1), .val (.int p2), .val (.int p3), .val (.int p4), .val (.int p5), .val (.int (2 : Int32)), .val (.int (0 : Int32)), .val (.int (1 : Int32)), .val (.ref b164), .val (.int (1 : Int32)), .val (.int (1 : Int32))] []))
          refine Goes.step (fun _ k => XS.aload X191.here hx rfl (hb hby at_197) rfl rfl k) ?_
          show Goes _ _ _ _ _ _ _ (T191.setTop (mkF m 199 #[.val (.int p0), .val (.int p1), .val (.int p2), .val (.int p3), .val (.int p4), .val (.int p5), .val (.int (2 : Int32)), .val (.int (0 : Int32)), .val (.int (1 : Int32)), .val (.ref b164), .val (.int (1 : Int32)), .val (.int (1 : Int32))] [(.ref b164)]))
          obtain ⟨cq199, kq199, q199a, q199b, q199c⟩ := isOf hZ rfl v191_0_3
          obtain ⟨_, _, ⟨T199, L199, k199, n199⟩, -, X199, ⟨Lc199, hQ199, l199, y199, z199⟩, st199⟩ := X191.virtualBack hx (y := (⟨"com/example/hailwise/hailwise/NodeQueue", "isEmpty", "()Z"⟩ : MethodName)) (z := (⟨"com/example/hailwise/hailwise/NodeQueue", "isEmpty", "()Z"⟩ : MethodName)) hown (mvT hZ (hw _ (List.mem_of_getElem? (i := 22) rfl))) (mvT hZ (hw _ (List.mem_of_getElem? (i := 23) rfl))) (notFace_of_selects (args := #[]) (mvT hZ (hw _ (List.mem_of_getElem? (i := 25) rfl)))) (mvT hZ (hw _ (List.mem_of_getElem? (i := 25) rfl))) (mvT hZ (hw _ (List.mem_of_getElem? (i := 24) rfl))) (by decide) (backOf (W := 0) (rm4 l Z a0 hw [] b164 (0 : Int32) T191.heap n0 Z198 v191_0_2) hZ (hw _ (List.mem_of_getElem? (i := 26) rfl)) (hw _ (List.mem_of_getElem? (i := 2) rfl)) (by decide) (by decide)) q199a q199c (g := (mkF m 199 #[.val (.int p0), .val (.int p1), .val (.int p2), .val (.int p3), .val (.int p4), .val (.int p5), .val (.int (2 : Int32)), .val (.int (0 : Int32)), .val (.int (1 : Int32)), .val (.ref b164), .val (.int (1 : Int32)), .val (.int (1 : Int32))] [(.ref b164)])) rfl (by rw [hml]; rfl) (Steps.refl _) (argsL := []) (rest := []) (lenOf pd_2 rfl) rfl (by show 2 * 0 + _ ≤ _; exact Nat.le_of_eq rfl) (hb hby at_199) (fun _ _ => ⟨rfl, rfl, (by decide : 3 + 0 ≤ _), (by decide : 131 + 0 ≤ _)⟩)
          dsimp only [Pt.U, Pt.locs, Pt.cells, Pt.slots] at X199 l199 y199 z199 st199 hQ199
          subst l199 y199 z199
          obtain ⟨N199, eh199, hR199⟩ := hQ199
          have NA199 := Fr.app NA191 N199
          rcases hR199 with ⟨rfl, u199_0_0⟩ | ⟨rfl, u199_1_0⟩
          · refine Goes.back st199 ?_
            show Goes _ _ _ _ _ _ _ (T199.setTop (mkF m 202 #[.val (.int p0), .val (.int p1), .val (.int p2), .val (.int p3), .val (.int p4), .val (.int p5), .val (.int (2 : Int32)), .val (.int (0 : Int32)), .val (.int (1 : Int32)), .val (.ref b164), .val (.int (1 : Int32)), .val (.int (1 : Int32))] [(.int (1 : Int32))]))
            refine Goes.step (fun _ k => XS.iload X199.here hx rfl (hb hby at_202) rfl  k) ?_
            show Goes _ _ _ _ _ _ _ (T199.setTop (mkF m 204 #[.val (.int p0), .val (.int p1), .val (.int p2), .val (.int p3), .val (.int p4), .val (.int p5), .val (.int (2 : Int32)), .val (.int (0 : Int32)), .val (.int (1 : Int32)), .val (.ref b164), .val (.int (1 : Int32)), .val (.int (1 : Int32))] [(.int (1 : Int32)), (.int (1 : Int32))]))
            refine Goes.step (fun _ k => XS.icmpNo X199.here hx rfl (hb hby at_204) rfl (teq (by decide : (1 : Int32) = (1 : Int32))).2 k) ?_
            show Goes _ _ _ _ _ _ _ (T199.setTop (mkF m 207 #[.val (.int p0), .val (.int p1), .val (.int p2), .val (.int p3), .val (.int p4), .val (.int p5), .val (.int (2 : Int32)), .val (.int (0 : Int32)), .val (.int (1 : Int32)), .val (.ref b164), .val (.int (1 : Int32)), .val (.int (1 : Int32))] []))
            refine Goes.step (fun _ k => XS.iconst X199.here hx rfl (hb hby at_207) k) ?_
            show Goes _ _ _ _ _ _ _ (T199.setTop (mkF m 208 #[.val (.int p0), .val (.int p1), .val (.int p2), .val (.int p3), .val (.int p4), .val (.int p5), .val (.int (2 : Int32)), .val (.int (0 : Int32)), .val (.int (1 : Int32)), .val (.ref b164), .val (.int (1 : Int32)), .val (.int (1 : Int32))] [(.int (1 : Int32))]))
            refine Goes.step (fun _ k => XS.goto X199.here hx rfl (pc0 := 208) (pc' := 212) rfl (hb hby at_208) (by decide) (by decide) k) ?_
            show Goes _ _ _ _ _ _ _ (T199.setTop (mkF m 212 #[.val (.int p0), .val (.int p1), .val (.int p2), .val (.int p3), .val (.int p4), .val (.int p5), .val (.int (2 : Int32)), .val (.int (0 : Int32)), .val (.int (1 : Int32)), .val (.ref b164), .val (.int (1 : Int32)), .val (.int (1 : Int32))] [(.int (1 : Int32))]))
            refine Goes.step (fun _ k => XS.istore X199.here hx rfl (hb hby at_212) rfl (l' := #[.val (.int p0), .val (.int p1), .val (.int p2), .val (.int p3), .val (.int p4), .val (.int p5), .val (.int (2 : Int32)), .val (.int (0 : Int32)), .val (.int (1 : Int32)), .val (.ref b164), .val (.int (1 : Int32)), .val (.int (1 : Int32))]) rfl k) ?_
            show Goes _ _ _ _ _ _ _ (T199.setTop (mkF m 214 #[.val (.int p0), .val (.int p1), .val (.int p2), .val (.int p3), .val (.int p4), .val (.int p5), .val (.int (2 : Int32)), .val (.int (0 : Int32)), .val (.int (1 : Int32)), .val (.ref b164), .val (.int (1 : Int32)), .val (.int (1 : Int32))] []))
            refine Goes.step (fun _ k => XS.iload X199.here hx rfl (hb hby at_214) rfl  k) ?_
            show Goes _ _ _ _ _ _ _ (T199.setTop (mkF m 216 #[.val (.int p0), .val (.int p1), .val (.int p2), .val (.int p3), .val (.int p4), .val (.int p5), .val (.int (2 : Int32)), .val (.int (0 : Int32)), .val (.int (1 : Int32)), .val (.ref b164), .val (.int (1 : Int32)), .val (.int (1 : Int32))] [(.int (1 : Int32))]))
            exact Goes.ret X199 hx (BodyLoose.notSynchronized Bd) Bd.returns rfl (Or.inl ⟨rfl, by simp, _, rfl⟩) (hb hby at_216) (by show Q0 Z p0 p1 p2 p3 p4 p5 h0 n0 (some (.int (1 : Int32))) T199.heap _; rw [eh199]; exact ⟨rfl, NA199⟩) (by decide) (by decide)
          · exact absurd (by decide : (0 : Int32) = (0 : Int32)) u199_1_0
        · show Goes _ _ _ _ _ _ _ (T190.setTop (mkF m 127 #[.val (.int p0), .val (.int p1), .val (.int p2), .val (.int p3), .val (.int p4), .val (.int p5), .val (.int (2 : Int32)), .val (.int (1 : Int32)), .val (.int (1 : Int32)), .val (.ref b164), .val (.int (1 : Int32)), .unset] []))
          refine Goes.step (fun _ k => XS.iload X190.here hx rfl (hb hby at_127) rfl  k) ?_
          show Goes _ _ _ _ _ _ _ (T190.setTop (mkF m 129 #[.val (.int p0), .val (.int p1), .val (.int p2), .val (.int p3), .val (.int p4), .val (.int p5), .val (.int (2 : Int32)), .val (.int (1 : Int32)), .val (.int (1 : Int32)), .val (.ref b164), .val (.int (1 : Int32)), .unset] [(.int (1 : Int32))]))
          refine Goes.step (fun _ k => XS.iconst X190.here hx rfl (hb hby at_129) k) ?_
          show Goes _ _ _ _ _ _ _ (T190.setTop (mkF m 130 #[.val (.int p0), .val (.int p1), .val (.int p2), .val (.int p3), .val (.int p4), .val (.int p5), .val (.int (2 : Int32)), .val (.int (1 : Int32)), .val (.int (1 : Int32)), .val (.ref b164), .val (.int (1 : Int32)), .unset] [(.int (1 : Int32)), (.int (1 : Int32))]))
          refine Goes.step (fun _ k => XS.icmpNo X190.here hx rfl (hb hby at_130) rfl (flt (by decide : ¬ ((1 : Int32) < (1 : Int32)))).1 k) ?_
          show Goes _ _ _ _ _ _ _ (T190.setTop (mkF m 133 #[.val (.int p0), .val (.int p1), .val (.int p2), .val (.int p3), .val (.int p4), .val (.int p5), .val (.int (2 : Int32)), .val (.int (1 : Int32)), .val (.int (1 : Int32)), .val (.ref b164), .val (.int (1 : Int32)), .unset] []))
          refine Goes.step (fun _ k => XS.aload X190.here hx rfl (hb hby at_133) rfl rfl k) ?_
          show Goes _ _ _ _ _ _ _ (T190.setTop (mkF m 135 #[.val (.int p0), .val (.int p1), .val (.int p2), .val (.int p3), .val (.int p4), .val (.int p5), .val (.int (2 : Int32)), .val (.int (1 : Int32)), .val (.int (1 : Int32)), .val (.ref b164), .val (.int (1 : Int32)), .unset] [(.ref b164)]))
          obtain ⟨cq200, kq200, q200a, q200b, q200c⟩ := isOf hZ eh190 v182_0_3
          obtain ⟨_, _, ⟨T200, L200, k200, n200⟩, -, X200, ⟨Lc200, hQ200, l200, y200, z200⟩, st200⟩ := X190.virtualBack hx (y := (⟨"com/example/hailwise/hailwise/NodeQueue", "poll", "()I"⟩ : MethodName)) (z := (⟨"com/example/hailwise/hailwise/NodeQueue", "poll", "()I"⟩ : MethodName)) hown (mvT hZ (hw _ (List.mem_of_getElem? (i := 27) rfl))) (mvT hZ (hw _ (List.mem_of_getElem? (i := 28) rfl))) (notFace_of_selects (args := #[]) (mvT hZ (hw _ (List.mem_of_getElem? (i := 30) rfl)))) (mvT hZ (hw _ (List.mem_of_getElem? (i := 30) rfl))) (mvT hZ (hw _ (List.mem_of_getElem? (i := 29) rfl))) (by decide) (backOf (W := 0) (rm5_2 l Z a0 hw [] b164 r166_0_0 r166_0_1 kk166_0_0 kk166_0_1 T182.heap n0 Z189 v182_0_0 v182_0_1 v182_0_2 v182_0_3 v182_0_4 v182_0_5 g_b164 g_r166_0_0 g_r166_0_1 ne172 ne173 (Ne.symm nn166_0_0)) hZ (hw _ (List.mem_of_getElem? (i := 31) rfl)) (hw _ (List.mem_of_getElem? (i := 2) rfl)) (by decide) (by decide)) q200a q200c (g := (mkF m 135 #[.val (.int p0), .val (.int p1), .val (.int p2), .val (.int p3), .val (.int p4), .val (.int p5), .val (.int (2 : Int32)), .val (.int (1 : Int32)), .val (.int (1 : Int32)), .val (.ref b164), .val (.int (1 : Int32)), .unset] [(.ref b164)])) rfl (by rw [hml]; rfl) (Steps.refl _) (argsL := []) (rest := []) (lenOf pd_3 rfl) rfl (by show 2 * 0 + _ ≤ _; exact Nat.le_of_eq rfl) (hb hby at_135) (fun _ _ => ⟨rfl, eh190, (by decide : 3 + 0 ≤ _), (by decide : 131 + 0 ≤ _)⟩)
          dsimp only [Pt.U, Pt.locs, Pt.cells, Pt.slots] at X200 l200 y200 z200 st200 hQ200
          subst l200 y200 z200
          obtain ⟨N200, KK200, hR200⟩ := hQ200
          have NA200 := Fr.app NA190 N200
          have f201 := v182_0_3.keep KK200
          have K207 : Keep h0 T200.heap [] := K189.trans KK200 (allS (Or.inr sz_b164) (allS (Or.inr sz_r166_0_0) (allS (Or.inr sz_r166_0_1) all0)))
          have Z207 : n0 ≤ T200.heap.size := Nat.le_trans Z189 KK200.1
          obtain ⟨rv200_0, rfl, v200_0_0, v200_0_1, v200_0_2, v200_0_3, v200_0_4, v200_0_5⟩ := hR200
          refine Goes.back st200 ?_
          show Goes _ _ _ _ _ _ _ (T200.setTop (mkF m 138 #[.val (.int p0), .val (.int p1), .val (.int p2), .val (.int p3), .val (.int p4), .val (.int p5), .val (.int (2 : Int32)), .val (.int (1 : Int32)), .val (.int (1 : Int32)), .val (.ref b164), .val (.int (1 : Int32)), .unset] [(.int rv200_0)]))
          refine Goes.step (fun _ k => XS.pop X200.here hx rfl (hb hby at_138) rfl rfl k) ?_
          show Goes _ _ _ _ _ _ _ (T200.setTop (mkF m 139 #[.val (.int p0), .val (.int p1), .val (.int p2), .val (.int p3), .val (.int p4), .val (.int p5), .val (.int (2 : Int32)), .val (.int (1 : Int32)), .val (.int (1 : Int32)), .val (.ref b164), .val (.int (1 : Int32)), .unset] []))
          refine Goes.step (fun _ k => XS.iload X200.here hx rfl (hb hby at_139) rfl  k) ?_
          show Goes _ _ _ _ _ _ _ (T200.setTop (mkF m 141 #[.val (.int p0), .val (.int p1), .val (.int p2), .val (.int p3), .val (.int p4), .val (.int p5), .val (.int (2 : Int32)), .val (.int (1 : Int32)), .val (.int (1 : Int32)), .val (.ref b164), .val (.int (1 : Int32)), .unset] [(.int (1 : Int32))]))
          refine Goes.step (fun _ k => XS.iconst X200.here hx rfl (hb hby at_141) k) ?_
          show Goes _ _ _ _ _ _ _ (T200.setTop (mkF m 142 #[.val (.int p0), .val (.int p1), .val (.int p2), .val (.int p3), .val (.int p4), .val (.int p5), .val (.int (2 : Int32)), .val (.int (1 : Int32)), .val (.int (1 : Int32)), .val (.ref b164), .val (.int (1 : Int32)), .unset] [(.int (2 : Int32)), (.int (1 : Int32))]))
          refine Goes.step (fun _ k => XS.icmpYes X200.here hx rfl (pc0 := 142) (pc' := 151) rfl (hb hby at_142) rfl (tlt (by decide : (1 : Int32) < (2 : Int32))).1 (by decide) (by decide) k) ?_
          show Goes _ _ _ _ _ _ _ (T200.setTop (mkF m 151 #[.val (.int p0), .val (.int p1), .val (.int p2), .val (.int p3), .val (.int p4), .val (.int p5), .val (.int (2 : Int32)), .val (.int (1 : Int32)), .val (.int (1 : Int32)), .val (.ref b164), .val (.int (1 : Int32)), .unset] []))
          refine Goes.step (fun _ k => XS.iload X200.here hx rfl (hb hby at_151) rfl  k) ?_
          show Goes _ _ _ _ _ _ _ (T200.setTop (mkF m 153 #[.val (.int p0), .val (.int p1), .val (.int p2), .val (.int p3), .val (.int p4), .val (.int p5), .val (.int (2 : Int32)), .val (.int (1 : Int32)), .val (.int (1 : Int32)), .val (.ref b164), .val (.int (1 : Int32)), .unset] [(.int (1 : Int32))]))
          refine Goes.step (fun _ k => XS.iconst X200.here hx rfl (hb hby at_153) k) ?_
          show Goes _ _ _ _ _ _ _ (T200.setTop (mkF m 154 #[.val (.int p0), .val (.int p1), .val (.int p2), .val (.int p3), .val (.int p4), .val (.int p5), .val (.int (2 : Int32)), .val (.int (1 : Int32)), .val (.int (1 : Int32)), .val (.ref b164), .val (.int (1 : Int32)), .unset] [(.int (3 : Int32)), (.int (1 : Int32))]))
          refine Goes.step (fun _ k => XS.icmpYes X200.here hx rfl (pc0 := 154) (pc' := 163) rfl (hb hby at_154) rfl (tlt (by decide : (1 : Int32) < (3 : Int32))).1 (by decide) (by decide) k) ?_
          show Goes _ _ _ _ _ _ _ (T200.setTop (mkF m 163 #[.val (.int p0), .val (.int p1), .val (.int p2), .val (.int p3), .val (.int p4), .val (.int p5), .val (.int (2 : Int32)), .val (.int (1 : Int32)), .val (.int (1 : Int32)), .val (.ref b164), .val (.int (1 : Int32)), .unset] []))
          refine Goes.step (fun _ k => XS.iload X200.here hx rfl (hb hby at_163) rfl  k) ?_
          show Goes _ _ _ _ _ _ _ (T200.setTop (mkF m 165 #[.val (.int p0), .val (.int p1), .val (.int p2), .val (.int p3), .val (.int p4), .val (.int p5), .val (.int (2 : Int32)), .val (.int (1 : Int32)), .val (.int (1 : Int32)), .val (.ref b164), .val (.int (1 : Int32)), .unset] [(.int (1 : Int32))]))
          refine Goes.step (fun _ k => XS.ifNo X200.here hx rfl (hb hby at_165) rfl ((if0 _ _).trans (feq (by decide : ¬ ((1 : Int32) = (0 : Int32)))).1) k) ?_
          show Goes _ _ _ _ _ _ _ (T200.setTop (mkF m 168 #[.val (.int p0), .val (.int p1), .val (.int p2), .val (.int p3), .val (.int p4), .val (.int p5), .val (.int (2 : Int32)), .val (.int (1 : Int32)), .val (.int (1 : Int32)), .val (.ref b164), .val (.int (1 : Int32)), .unset] []))
          refine Goes.step (fun _ k => XS.aload X200.here hx rfl (hb hby at_168) rfl rfl k) ?_
          show Goes _ _ _ _ _ _ _ (T200.setTop (mkF m 170 #[.val (.int p0), .val (.int p1), .val (.int p2), .val (.int p3), .val (.int p4), .val (.int p5), .val (.int (2 : Int32)), .val (.int (1 : Int32)), .val (.int (1 : Int32)), .val (.ref b164), .val (.int (1 : Int32)), .unset] [(.ref b164)]))
          obtain ⟨cq208, kq208, q208a, q208b, q208c⟩ := isOf hZ rfl v200_0_3
          obtain ⟨_, _, ⟨T208, L208, k208, n208⟩, -, X208, ⟨Lc208, hQ208, l208, y208, z208⟩, st208⟩ := X200.virtualBack hx (y := (⟨"com/example/hailwise/hailwise/NodeQueue", "clear", "()V"⟩ : MethodName)) (z := (⟨"com/example/hailwise/hailwise/NodeQueue", "clear", "()V"⟩ : MethodName)) hown (mvT hZ (hw _ (List.mem_of_getElem? (i := 32) rfl))) (mvT hZ (hw _ (List.mem_of_getElem? (i := 33) rfl))) (notFace_of_selects (args := #[]) (mvT hZ (hw _ (List.mem_of_getElem? (i := 35) rfl)))) (mvT hZ (hw _ (List.mem_of_getElem? (i := 35) rfl))) (mvT hZ (hw _ (List.mem_of_getElem? (i := 34) rfl))) (by decide) (backOf (W := 0) (rm6 l Z a0 hw [] b164 r166_0_0 r166_0_1 (1 : Int32) T200.heap n0 Z207 v200_0_0 v200_0_1 v200_0_2 v200_0_3 g_b164) hZ (hw _ (List.mem_of_getElem? (i := 36) rfl)) (hw _ (List.mem_of_getElem? (i := 2) rfl)) (by decide) (by decide)) q208a q208c (g := (mkF m 170 #[.val (.int p0), .val (.int p1), .val (.int p2), .val (.int p3), .val (.int p4), .val (.int p5), .val (.int (2 : Int32)), .val (.int (1 : Int32)), .val (.int (1 : Int32)), .val (.ref b164), .val (.int (1 : Int32)), .unset] [(.ref b164)])) rfl (by rw [hml]; rfl) (Steps.refl _) (argsL := []) (rest := []) (lenOf pd_0 rfl) rfl (by show 2 * 0 + _ ≤ _; exact Nat.le_of_eq rfl) (hb hby at_170) (fun _ _ => ⟨rfl, rfl, (by decide : 3 + 0 ≤ _), (by decide : 131 + 0 ≤ _)⟩)
          dsimp only [Pt.U, Pt.locs, Pt.cells, Pt.slots] at X208 l208 y208 z208 st208 hQ208
          subst l208 y208 z208
          obtain ⟨N208, KK208, hR208⟩ := hQ208
          have NA208 := Fr.app NA200 N208
          have f209 := v200_0_3.keep KK208
          have f213 := v200_0_4.keep KK208 (ninS (Ne.symm ne172) nin0)
          have f214 := v200_0_5.keep KK208 (ninS (Ne.symm ne173) nin0)
          have K215 : Keep h0 T208.heap [] := K207.trans KK208 (allS (Or.inr sz_b164) all0)
          have Z215 : n0 ≤ T208.heap.size := Nat.le_trans Z207 KK208.1
          obtain ⟨rfl, v208_0_0, v208_0_1, v208_0_2, v208_0_3⟩ := hR208
          refine Goes.back st208 ?_
          show Goes _ _ _ _ _ _ _ (T208.setTop (mkF m 173 #[.val (.int p0), .val (.int p1), .val (.int p2), .val (.int p3), .val (.int p4), .val (.int p5), .val (.int (2 : Int32)), .val (.int (1 : Int32)), .val (.int (1 : Int32)), .val (.ref b164), .val (.int (1 : Int32)), .unset] []))
          refine Goes.step (fun _ k => XS.iload X208.here hx rfl (hb hby at_173) rfl  k) ?_
          show Goes _ _ _ _ _ _ _ (T208.setTop (mkF m 175 #[.val (.int p0), .val (.int p1), .val (.int p2), .val (.int p3), .val (.int p4), .val (.int p5), .val (.int (2 : Int32)), .val (.int (1 : Int32)), .val (.int (1 : Int32)), .val (.ref b164), .val (.int (1 : Int32)), .unset] [(.int (1 : Int32))]))
          refine Goes.step (fun _ k => XS.ifYes X208.here hx rfl (pc0 := 175) (pc' := 185) rfl (hb hby at_175) rfl ((if0 _ _).trans (feq (by decide : ¬ ((1 : Int32) = (0 : Int32)))).2) (by decide) (by decide) k) ?_
          show Goes _ _ _ _ _ _ _ (T208.setTop (mkF m 185 #[.val (.int p0), .val (.int p1), .val (.int p2), .val (.int p3), .val (.int p4), .val (.int p5), .val (.int (2 : Int32)), .val (.int (1 : Int32)), .val (.int (1 : Int32)), .val (.ref b164), .val (.int (1 : Int32)), .unset] []))
          refine Goes.step (fun _ k => XS.iconst X208.here hx rfl (hb hby at_185) k) ?_
          show Goes _ _ _ _ _ _ _ (T208.setTop (mkF m 186 #[.val (.int p0), .val (.int p1), .val (.int p2), .val (.int p3), .val (.int p4), .val (.int p5), .val (.int (2 : Int32)), .val (.int (1 : Int32)), .val (.int (1 : Int32)), .val (.ref b164), .val (.int (1 : Int32)), .unset] [(.int (1 : Int32))]))
          refine Goes.step (fun _ k => XS.goto X208.here hx rfl (pc0 := 186) (pc' := 190) rfl (hb hby at_186) (by decide) (by decide) k) ?_
          show Goes _ _ _ _ _ _ _ (T208.setTop (mkF m 190 #[.val (.int p0), .val (.int p1), .val (.int p2), .val (.int p3), .val (.int p4), .val (.int p5), .val (.int (2 : Int32)), .val (.int (1 : Int32)), .val (.int (1 : Int32)), .val (.ref b164), .val (.int (1 : Int32)), .unset] [(.int (1 : Int32))]))
          refine Goes.step (fun _ k => XS.istore X208.here hx rfl (hb hby at_190) rfl (l' := #[.val (.int p0), .val (.int p1), .val (.int p2), .val (.int p3), .val (.int p4), .val (.int p5), .val (.int (2 : Int32)), .val (.int (1 : Int32)), .val (.int (1 : Int32)), .val (.ref b164), .val (.int (1 : Int32)), .val (.int (1 : Int32))]) rfl k) ?_
          show Goes _ _ _ _ _ _ _ (T208.setTop (mkF m 192 #[.val (.int p0), .val (.int p1), .val (.int p2), .val (.int p3), .val (.int p4), .val (.int p5), .val (.int (2 : Int32)), .val (.int (1 : Int32)), .val (.int (1 : Int32)), .val (.ref b164), .val (.int (1 : Int32)), .val (.int (1 : Int32))] []))
          refine Goes.step (fun _ k => XS.iload X208.here hx rfl (hb hby at_192) rfl  k) ?_
          show Goes _ _ _ _ _ _ _ (T208.setTop (mkF m 194 #[.val (.int p0), .val (.int p1), .val (.int p2), .val (.int p3), .val (.int p4), .val (.int p5), .val (.int (2 : Int32)), .val (.int (1 : Int32)), .val (.int (1 : Int32)), .val (.ref b164), .val (.int (1 : Int32)), .val (.int (1 : Int32))] [(.int (1 : Int32))]))
          refine Goes.step (fun _ k => XS.ifNo X208.here hx rfl (hb hby at_194) rfl ((if0 _ _).trans (feq (by decide : ¬ ((1 : Int32) = (0 : Int32)))).1) k) ?_
          show Goes _ _ _ _ _ _ _ (T208.setTop (mkF m 197 #[.val (.int p0), .val (.int p1), .val (.int p2), .val (.int p3), .val (.int p4), .val (.int p5), .val (.int (2 : Int32)), .val (.int (1 : Int32)), .val (.int (1 : Int32)), .val (.ref b164), .val (.int (1 : Int32)), .val (.int (1 : Int32))] []))
          refine Goes.step (fun _ k => XS.aload X208.here hx rfl (hb hby at_197) rfl rfl k) ?_
          show Goes _ _ _ _ _ _ _ (T208.setTop (mkF m 199 #[.val (.int p0), .val (.int p1), .val (.int p2), .val (.int p3), .val (.int p4), .val (.int p5), .val (.int (2 : Int32)), .val (.int (1 : Int32)), .val (.int (1 : Int32)), .val (.ref b164), .val (.int (1 : Int32)), .val (.int (1 : Int32))] [(.ref b164)]))
          obtain ⟨cq216, kq216, q216a, q216b, q216c⟩ := isOf hZ rfl v208_0_3
          obtain ⟨_, _, ⟨T216, L216, k216, n216⟩, -, X216, ⟨Lc216, hQ216, l216, y216, z216⟩, st216⟩ := X208.virtualBack hx (y := (⟨"com/example/hailwise/hailwise/NodeQueue", "isEmpty", "()Z"⟩ : MethodName)) (z := (⟨"com/example/hailwise/hailwise/NodeQueue", "isEmpty", "()Z"⟩ : MethodName)) hown (mvT hZ (hw _ (List.mem_of_getElem? (i := 22) rfl))) (mvT hZ (hw _ (List.mem_of_getElem? (i := 23) rfl))) (notFace_of_selects (args := #[]) (mvT hZ (hw _ (List.mem_of_getElem? (i := 25) rfl)))) (mvT hZ (hw _ (List.mem_of_getElem? (i := 25) rfl))) (mvT hZ (hw _ (List.mem_of_getElem? (i := 24) rfl))) (by decide) (backOf (W := 0) (rm4 l Z a0 hw [] b164 (0 : Int32) T208.heap n0 Z215 v208_0_2) hZ (hw _ (List.mem_of_getElem? (i := 26) rfl)) (hw _ (List.mem_of_getElem? (i := 2) rfl)) (by decide) (by decide)) q216a q216c (g := (mkF m 199 #[.val (.int p0), .val (.int p1), .val (.int p2), .val (.int p3), .val (.int p4), .val (.int p5), .val (.int (2 : Int32)), .val (.int (1 : Int32)), .val (.int (1 : Int32)), .val (.ref b164), .val (.int (1 : Int32)), .val (.int (1 : Int32))] [(.ref b164)])) rfl (by rw [hml]; rfl) (Steps.refl _) (argsL := []) (rest := []) (lenOf pd_2 rfl) rfl (by show 2 * 0 + _ ≤ _; exact Nat.le_of_eq rfl) (hb hby at_199) (fun _ _ => ⟨rfl, rfl, (by decide : 3 + 0 ≤ _), (by decide : 131 + 0 ≤ _)⟩)
          dsimp only [Pt.U, Pt.locs, Pt.cells, Pt.slots] at X216 l216 y216 z216 st216 hQ216
          subst l216 y216 z216
          obtain ⟨N216, eh216, hR216⟩ := hQ216
          have NA216 := Fr.app NA208 N216
          rcases hR216 with ⟨rfl, u216_0_0⟩ | ⟨rfl, u216_1_0⟩
          · refine Goes.back st216 ?_
            show Goes _ _ _ _ _ _ _ (T216.setTop (mkF m 202 #[.val (.int p0), .val (.int p1), .val (.int p2), .val (.int p3), .val (.int p4), .val (.int p5), .val (.int (2 : Int32)), .val (.int (1 : Int32)), .val (.int (1 : Int32)), .val (.ref b164), .val (.int (1 : Int32)), .val (.int (1 : Int32))] [(.int (1 : Int32))]))
            refine Goes.step (fun _ k => XS.iload X216.here hx rfl (hb hby at_202) rfl  k) ?_
            show Goes _ _ _ _ _ _ _ (T216.setTop (mkF m 204 #[.val (.int p0), .val (.int p1), .val (.int p2), .val (.int p3), .val (.int p4), .val (.int p5), .val (.int (2 : Int32)), .val (.int (1 : Int32)), .val (.int (1 : Int32)), .val (.ref b164), .val (.int (1 : Int32)), .val (.int (1 : Int32))] [(.int (1 : Int32)), (.int (1 : Int32))]))
            refine Goes.step (fun _ k => XS.icmpNo X216.here hx rfl (hb hby at_204) rfl (teq (by decide : (1 : Int32) = (1 : Int32))).2 k) ?_
            show Goes _ _ _ _ _ _ _ (T216.setTop (mkF m 207 #[.val (.int p0), .val (.int p1), .val (.int p2), .val (.int p3), .val (.int p4), .val (.int p5), .val (.int (2 : Int32)), .val (.int (1 : Int32)), .val (.int (1 : Int32)), .val (.ref b164), .val (.int (1 : Int32)), .val (.int (1 : Int32))] []))
            refine Goes.step (fun _ k => XS.iconst X216.here hx rfl (hb hby at_207) k) ?_
            show Goes _ _ _ _ _ _ _ (T216.setTop (mkF m 208 #[.val (.int p0), .val (.int p1), .val (.int p2), .val (.int p3), .val (.int p4), .val (.int p5), .val (.int (2 : Int32)), .val (.int (1 : Int32)), .val (.int (1 : Int32)), .val (.ref b164), .val (.int (1 : Int32)), .val (.int (1 : Int32))] [(.int (1 : Int32))]))
            refine Goes.step (fun _ k => XS.goto X216.here hx rfl (pc0 := 208) (pc' := 212) rfl (hb hby at_208) (by decide) (by decide) k) ?_
            show Goes _ _ _ _ _ _ _ (T216.setTop (mkF m 212 #[.val (.int p0), .val (.int p1), .val (.int p2), .val (.int p3), .val (.int p4), .val (.int p5), .val (.int (2 : Int32)), .val (.int (1 : Int32)), .val (.int (1 : Int32)), .val (.ref b164), .val (.int (1 : Int32)), .val (.int (1 : Int32))] [(.int (1 : Int32))]))
            refine Goes.step (fun _ k => XS.istore X216.here hx rfl (hb hby at_212) rfl (l' := #[.val (.int p0), .val (.int p1), .val (.int p2), .val (.int p3), .val (.int p4), .val (.int p5), .val (.int (2 : Int32)), .val (.int (1 : Int32)), .val (.int (1 : Int32)), .val (.ref b164), .val (.int (1 : Int32)), .val (.int (1 : Int32))]) rfl k) ?_
            show Goes _ _ _ _ _ _ _ (T216.setTop (mkF m 214 #[.val (.int p0), .val (.int p1), .val (.int p2), .val (.int p3), .val (.int p4), .val (.int p5), .val (.int (2 : Int32)), .val (.int (1 : Int32)), .val (.int (1 : Int32)), .val (.ref b164), .val (.int (1 : Int32)), .val (.int (1 : Int32))] []))
            refine Goes.step (fun _ k => XS.iload X216.here hx rfl (hb hby at_214) rfl  k) ?_
            show Goes _ _ _ _ _ _ _ (T216.setTop (mkF m 216 #[.val (.int p0), .val (.int p1), .val (.int p2), .val (.int p3), .val (.int p4), .val (.int p5), .val (.int (2 : Int32)), .val (.int (1 : Int32)), .val (.int (1 : Int32)), .val (.ref b164), .val (.int (1 : Int32)), .val (.int (1 : Int32))] [(.int (1 : Int32))]))
            exact Goes.ret X216 hx (BodyLoose.notSynchronized Bd) Bd.returns rfl (Or.inl ⟨rfl, by simp, _, rfl⟩) (hb hby at_216) (by show Q0 Z p0 p1 p2 p3 p4 p5 h0 n0 (some (.int (1 : Int32))) T216.heap _; rw [eh216]; exact ⟨rfl, NA216⟩) (by decide) (by decide)
          · exact absurd (by decide : (0 : Int32) = (0 : Int32)) u216_1_0
        · show Goes _ _ _ _ _ _ _ (T190.setTop (mkF m 127 #[.val (.int p0), .val (.int p1), .val (.int p2), .val (.int p3), .val (.int p4), .val (.int p5), .val (.int (2 : Int32)), .val (.int (2 : Int32)), .val (.int (1 : Int32)), .val (.ref b164), .val (.int (1 : Int32)), .unset] []))
          refine Goes.step (fun _ k => XS.iload X190.here hx rfl (hb hby at_127) rfl  k) ?_
          show Goes _ _ _ _ _ _ _ (T190.setTop (mkF m 129 #[.val (.int p0), .val (.int p1), .val (.int p2), .val (.int p3), .val (.int p4), .val (.int p5), .val (.int (2 : Int32)), .val (.int (2 : Int32)), .val (.int (1 : Int32)), .val (.ref b164), .val (.int (1 : Int32)), .unset] [(.int (2 : Int32))]))
          refine Goes.step (fun _ k => XS.iconst X190.here hx rfl (hb hby at_129) k) ?_
          show Goes _ _ _ _ _ _ _ (T190.setTop (mkF m 130 #[.val (.int p0), .val (.int p1), .val (.int p2), .val (.int p3), .val (.int p4), .val (.int p5), .val (.int (2 : Int32)), .val (.int (2 : Int32)), .val (.int (1 : Int32)), .val (.ref b164), .val (.int (1 : Int32)), .unset] [(.int (1 : Int32)), (.int (2 : Int32))]))
          refine Goes.step (fun _ k => XS.icmpNo X190.here hx rfl (hb hby at_130) rfl (flt (by decide : ¬ ((2 : Int32) < (1 : Int32)))).1 k) ?_
          show Goes _ _ _ _ _ _ _ (T190.setTop (mkF m 133 #[.val (.int p0), .val (.int p1), .val (.int p2), .val (.int p3), .val (.int p4), .val (.int p5), .val (.int (2 : Int32)), .val (.int (2 : Int32)), .val (.int (1 : Int32)), .val (.ref b164), .val (.int (1 : Int32)), .unset] []))
          refine Goes.step (fun _ k => XS.aload X190.here hx rfl (hb hby at_133) rfl rfl k) ?_
          show Goes _ _ _ _ _ _ _ (T190.setTop (mkF m 135 #[.val (.int p0), .val (.int p1), .val (.int p2), .val (.int p3), .val (.int p4), .val (.int p5), .val (.int (2 : Int32)), .val (.int (2 : Int32)), .val (.int (1 : Int32)), .val (.ref b164), .val (.int (1 : Int32)), .unset] [(.ref b164)]))
          obtain ⟨cq217, kq217, q217a, q217b, q217c⟩ := isOf hZ eh190 v182_0_3
          obtain ⟨_, _, ⟨T217, L217, k217, n217⟩, -, X217, ⟨Lc217, hQ217, l217, y217, z217⟩, st217⟩ := X190.virtualBack hx (y := (⟨"com/example/hailwise/hailwise/NodeQueue", "poll", "()I"⟩ : MethodName)) (z := (⟨"com/example/hailwise/hailwise/NodeQueue", "poll", "()I"⟩ : MethodName)) hown (mvT hZ (hw _ (List.mem_of_getElem? (i := 27) rfl))) (mvT hZ (hw _ (List.mem_of_getElem? (i := 28) rfl))) (notFace_of_selects (args := #[]) (mvT hZ (hw _ (List.mem_of_getElem? (i := 30) rfl)))) (mvT hZ (hw _ (List.mem_of_getElem? (i := 30) rfl))) (mvT hZ (hw _ (List.mem_of_getElem? (i := 29) rfl))) (by decide) (backOf (W := 0) (rm5_2 l Z a0 hw [] b164 r166_0_0 r166_0_1 kk166_0_0 kk166_0_1 T182.heap n0 Z189 v182_0_0 v182_0_1 v182_0_2 v182_0_3 v182_0_4 v182_0_5 g_b164 g_r166_0_0 g_r166_0_1 ne172 ne173 (Ne.symm nn166_0_0)) hZ (hw _ (List.mem_of_getElem? (i := 31) rfl)) (hw _ (List.mem_of_getElem? (i := 2) rfl)) (by decide) (by decide)) q217a q217c (g := (mkF m 135 #[.val (.int p0), .val (.int p1), .val (.int p2), .val (.int p3), .val (.int p4), .val (.int p5), .val (.int (2 : Int32)), .val (.int (2 : Int32)), .val (.int (1 : Int32)), .val (.ref b164), .val (.int (1 : Int32)), .unset] [(.ref b164)])) rfl (by rw [hml]; rfl) (Steps.refl _) (argsL := []) (rest := []) (lenOf pd_3 rfl) rfl (by show 2 * 0 + _ ≤ _; exact Nat.le_of_eq rfl) (hb hby at_135) (fun _ _ => ⟨rfl, eh190, (by decide : 3 + 0 ≤ _), (by decide : 131 + 0 ≤ _)⟩)
          dsimp only [Pt.U, Pt.locs, Pt.cells, Pt.slots] at X217 l217 y217 z217 st217 hQ217
          subst l217 y217 z217
          obtain ⟨N217, KK217, hR217⟩ := hQ217
          have NA217 := Fr.app NA190 N217
          have f218 := v182_0_3.keep KK217
          have K224 : Keep h0 T217.heap [] := K189.trans KK217 (allS (Or.inr sz_b164) (allS (Or.inr sz_r166_0_0) (allS (Or.inr sz_r166_0_1) all0)))
          have Z224 : n0 ≤ T217.heap.size := Nat.le_trans Z189 KK217.1
          obtain ⟨rv217_0, rfl, v217_0_0, v217_0_1, v217_0_2, v217_0_3, v217_0_4, v217_0_5⟩ := hR217
          refine Goes.back st217 ?_
          show Goes _ _ _ _ _ _ _ (T217.setTop (mkF m 138 #[.val (.int p0), .val (.int p1), .val (.int p2), .val (.int p3), .val (.int p4), .val (.int p5), .val (.int (2 : Int32)), .val (.int (2 : Int32)), .val (.int (1 : Int32)), .val (.ref b164), .val (.int (1 : Int32)), .unset] [(.int rv217_0)]))
          refine Goes.step (fun _ k => XS.pop X217.here hx rfl (hb hby at_138) rfl rfl k) ?_
          show Goes _ _ _ _ _ _ _ (T217.setTop (mkF m 139 #[.val (.int p0), .val (.int p1), .val (.int p2), .val (.int p3), .val (.int p4), .val (.int p5), .val (.int (2 : Int32)), .val (.int (2 : Int32)), .val (.int (1 : Int32)), .val (.ref b164), .val (.int (1 : Int32)), .unset] []))
          refine Goes.step (fun _ k => XS.iload X217.here hx rfl (hb hby at_139) rfl  k) ?_
          show Goes _ _ _ _ _ _ _ (T217.setTop (mkF m 141 #[.val (.int p0), .val (.int p1), .val (.int p2), .val (.int p3), .val (.int p4), .val (.int p5), .val (.int (2 : Int32)), .val (.int (2 : Int32)), .val (.int (1 : Int32)), .val (.ref b164), .val (.int (1 : Int32)), .unset] [(.int (2 : Int32))]))
          refine Goes.step (fun _ k => XS.iconst X217.here hx rfl (hb hby at_141) k) ?_
          show Goes _ _ _ _ _ _ _ (T217.setTop (mkF m 142 #[.val (.int p0), .val (.int p1), .val (.int p2), .val (.int p3), .val (.int p4), .val (.int p5), .val (.int (2 : Int32)), .val (.int (2 : Int32)), .val (.int (1 : Int32)), .val (.ref b164), .val (.int (1 : Int32)), .unset] [(.int (2 : Int32)), (.int (2 : Int32))]))
          refine Goes.step (fun _ k => XS.icmpNo X217.here hx rfl (hb hby at_142) rfl (flt (by decide : ¬ ((2 : Int32) < (2 : Int32)))).1 k) ?_
          show Goes _ _ _ _ _ _ _ (T217.setTop (mkF m 145 #[.val (.int p0), .val (.int p1), .val (.int p2), .val (.int p3), .val (.int p4), .val (.int p5), .val (.int (2 : Int32)), .val (.int (2 : Int32)), .val (.int (1 : Int32)), .val (.ref b164), .val (.int (1 : Int32)), .unset] []))
          refine Goes.step (fun _ k => XS.aload X217.here hx rfl (hb hby at_145) rfl rfl k) ?_
          show Goes _ _ _ _ _ _ _ (T217.setTop (mkF m 147 #[.val (.int p0), .val (.int p1), .val (.int p2), .val (.int p3), .val (.int p4), .val (.int p5), .val (.int (2 : Int32)), .val (.int (2 : Int32)), .val (.int (1 : Int32)), .val (.ref b164), .val (.int (1 : Int32)), .unset] [(.ref b164)]))
          obtain ⟨cq225, kq225, q225a, q225b, q225c⟩ := isOf hZ rfl v217_0_3
          obtain ⟨_, _, ⟨T225, L225, k225, n225⟩, -, X225, ⟨Lc225, hQ225, l225, y225, z225⟩, st225⟩ := X217.virtualBack hx (y := (⟨"com/example/hailwise/hailwise/NodeQueue", "poll", "()I"⟩ : MethodName)) (z := (⟨"com/example/hailwise/hailwise/NodeQueue", "poll", "()I"⟩ : MethodName)) hown (mvT hZ (hw _ (List.mem_of_getElem? (i := 27) rfl))) (mvT hZ (hw _ (List.mem_of_getElem? (i := 28) rfl))) (notFace_of_selects (args := #[]) (mvT hZ (hw _ (List.mem_of_getElem? (i := 30) rfl)))) (mvT hZ (hw _ (List.mem_of_getElem? (i := 30) rfl))) (mvT hZ (hw _ (List.mem_of_getElem? (i := 29) rfl))) (by decide) (backOf (W := 0) (rm5_1 l Z a0 hw [] b164 r166_0_0 r166_0_1 kk166_0_0 kk166_0_1 T217.heap n0 Z224 v217_0_0 v217_0_1 v217_0_2 v217_0_3 v217_0_4 v217_0_5 g_b164 g_r166_0_0 g_r166_0_1 ne172 ne173 (Ne.symm nn166_0_0)) hZ (hw _ (List.mem_of_getElem? (i := 31) rfl)) (hw _ (List.mem_of_getElem? (i := 2) rfl)) (by decide) (by decide)) q225a q225c (g := (mkF m 147 #[.val (.int p0), .val (.int p1), .val (.int p2), .val (.int p3), .val (.int p4), .val (.int p5), .val (.int (2 : Int32)), .val (.int (2 : Int32)), .val (.int (1 : Int32)), .val (.ref b164), .val (.int (1 : Int32)), .unset] [(.ref b164)])) rfl (by rw [hml]; rfl) (Steps.refl _) (argsL := []) (rest := []) (lenOf pd_3 rfl) rfl (by show 2 * 0 + _ ≤ _; exact Nat.le_of_eq rfl) (hb hby at_147) (fun _ _ => ⟨rfl, rfl, (by decide : 3 + 0 ≤ _), (by decide : 131 + 0 ≤ _)⟩)
          dsimp only [Pt.U, Pt.locs, Pt.cells, Pt.slots] at X225 l225 y225 z225 st225 hQ225
          subst l225 y225 z225
          obtain ⟨N225, KK225, hR225⟩ := hQ225
          have NA225 := Fr.app NA217 N225
          have f226 := v217_0_3.keep KK225
          have K232 : Keep h0 T225.heap [] := K224.trans KK225 (allS (Or.inr sz_b164) (allS (Or.inr sz_r166_0_0) (allS (Or.inr sz_r166_0_1) all0)))
          have Z232 : n0 ≤ T225.heap.size := Nat.le_trans Z224 KK225.1
          obtain ⟨rv225_0, rfl, v225_0_0, v225_0_1, v225_0_2, v225_0_3, v225_0_4, v225_0_5⟩ := hR225
          refine Goes.back st225 ?_
          show Goes _ _ _ _ _ _ _ (T225.setTop (mkF m 150 #[.val (.int p0), .val (.int p1), .val (.int p2), .val (.int p3), .val (.int p4), .val (.int p5), .val (.int (2 : Int32)), .val (.int (2 : Int32)), .val (.int (1 : Int32)), .val (.ref b164), .val (.int (1 : Int32)), .unset] [(.int rv225_0)]))
          refine Goes.step (fun _ k => XS.pop X225.here hx rfl (hb hby at_150) rfl rfl k) ?_
          show Goes _ _ _ _ _ _ _ (T225.setTop (mkF m 151 #[.val (.int p0), .val (.int p1), .val (.int p2), .val (.int p3), .val (.int p4), .val (.int p5), .val (.int (2 : Int32)), .val (.int (2 : Int32)), .val (.int (1 : Int32)), .val (.ref b164), .val (.int (1 : Int32)), .unset] []))
          refine Goes.step (fun _ k => XS.iload X225.here hx rfl (hb hby at_151) rfl  k) ?_
          show Goes _ _ _ _ _ _ _ (T225.setTop (mkF m 153 #[.val (.int p0), .val (.int p1), .val (.int p2), .val (.int p3), .val (.int p4), .val (.int p5), .val (.int (2 : Int32)), .val (.int (2 : Int32)), .val (.int (1 : Int32)), .val (.ref b164), .val (.int (1 : Int32)), .unset] [(.int (2 : Int32))]))
          refine Goes.step (fun _ k => XS.iconst X225.here hx rfl (hb hby at_153) k) ?_
          show Goes _ _ _ _ _ _ _ (T225.setTop (mkF m 154 #[.val (.int p0), .val (.int p1), .val (.int p2), .val (.int p3), .val (.int p4), .val (.int p5), .val (.int (2 : Int32)), .val (.int (2 : Int32)), .val (.int (1 : Int32)), .val (.ref b164), .val (.int (1 : Int32)), .unset] [(.int (3 : Int32)), (.int (2 : Int32))]))
          refine Goes.step (fun _ k => XS.icmpYes X225.here hx rfl (pc0 := 154) (pc' := 163) rfl (hb hby at_154) rfl (tlt (by decide : (2 : Int32) < (3 : Int32))).1 (by decide) (by decide) k) ?_
          show Goes _ _ _ _ _ _ _ (T225.setTop (mkF m 163 #[.val (.int p0), .val (.int p1), .val (.int p2), .val (.int p3), .val (.int p4), .val (.int p5), .val (.int (2 : Int32)), .val (.int (2 : Int32)), .val (.int (1 : Int32)), .val (.ref b164), .val (.int (1 : Int32)), .unset] []))
          refine Goes.step (fun _ k => XS.iload X225.here hx rfl (hb hby at_163) rfl  k) ?_
          show Goes _ _ _ _ _ _ _ (T225.setTop (mkF m 165 #[.val (.int p0), .val (.int p1), .val (.int p2), .val (.int p3), .val (.int p4), .val (.int p5), .val (.int (2 : Int32)), .val (.int (2 : Int32)), .val (.int (1 : Int32)), .val (.ref b164), .val (.int (1 : Int32)), .unset] [(.int (1 : Int32))]))
          refine Goes.step (fun _ k => XS.ifNo X225.here hx rfl (hb hby at_165) rfl ((if0 _ _).trans (feq (by decide : ¬ ((1 : Int32) = (0 : Int32)))).1) k) ?_
          show Goes _ _ _ _ _ _ _ (T225.setTop (mkF m 168 #[.val (.int p0), .val (.int p1), .val (.int p2), .val (.int p3), .val (.int p4), .val (.int p5), .val (.int (2 : Int32)), .val (.int (2 : Int32)), .val (.int (1 : Int32)), .val (.ref b164), .val (.int (1 : Int32)), .unset] []))
          refine Goes.step (fun _ k => XS.aload X225.here hx rfl (hb hby at_168) rfl rfl k) ?_
          show Goes _ _ _ _ _ _ _ (T225.setTop (mkF m 170 #[.val (.int p0), .val (.int p1), .val (.int p2), .val (.int p3), .val (.int p4), .val (.int p5), .val (.int (2 : Int32)), .val (.int (2 : Int32)), .val (.int (1 : Int32)), .val (.ref b164), .val (.int (1 : Int32)), .unset] [(.ref b164)]))
          obtain ⟨cq233, kq233, q233a, q233b, q233c⟩ := isOf hZ rfl v225_0_3
          obtain ⟨_, _, ⟨T233, L233, k233, n233⟩, -, X233, ⟨Lc233, hQ233, l233, y233, z233⟩, st233⟩ := X225.virtualBack hx (y := (⟨"com/example/hailwise/hailwise/NodeQueue", "clear", "()V"⟩ : MethodName)) (z := (⟨"com/example/hailwise/hailwise/NodeQueue", "clear", "()V"⟩ : MethodName)) hown (mvT hZ (hw _ (List.mem_of_getElem? (i := 32) rfl))) (mvT hZ (hw _ (List.mem_of_getElem? (i := 33) rfl))) (notFace_of_selects (args := #[]) (mvT hZ (hw _ (List.mem_of_getElem? (i := 35) rfl)))) (mvT hZ (hw _ (List.mem_of_getElem? (i := 35) rfl))) (mvT hZ (hw _ (List.mem_of_getElem? (i := 34) rfl))) (by decide) (backOf (W := 0) (rm6 l Z a0 hw [] b164 r166_0_0 r166_0_1 (0 : Int32) T225.heap n0 Z232 v225_0_0 v225_0_1 v225_0_2 v225_0_3 g_b164) hZ (hw _ (List.mem_of_getElem? (i := 36) rfl)) (hw _ (List.mem_of_getElem? (i := 2) rfl)) (by decide) (by decide)) q233a q233c (g := (mkF m 170 #[.val (.int p0), .val (.int p1), .val (.int p2), .val (.int p3), .val (.int p4), .val (.int p5), .val (.int (2 : Int32)), .val (.int (2 : Int32)), .val (.int (1 : Int32)), .val (.ref b164), .val (.int (1 : Int32)), .unset] [(.ref b164)])) rfl (by rw [hml]; rfl) (Steps.refl _) (argsL := []) (rest := []) (lenOf pd_0 rfl) rfl (by show 2 * 0 + _ ≤ _; exact Nat.le_of_eq rfl) (hb hby at_170) (fun _ _ => ⟨rfl, rfl, (by decide : 3 + 0 ≤ _), (by decide : 131 + 0 ≤ _)⟩)
          dsimp only [Pt.U, Pt.locs, Pt.cells, Pt.slots] at X233 l233 y233 z233 st233 hQ233
          subst l233 y233 z233
          obtain ⟨N233, KK233, hR233⟩ := hQ233
          have NA233 := Fr.app NA225 N233
          have f234 := v225_0_3.keep KK233
          have f238 := v225_0_4.keep KK233 (ninS (Ne.symm ne172) nin0)
          have f239 := v225_0_5.keep KK233 (ninS (Ne.symm ne173) nin0)
          have K240 : Keep h0 T233.heap [] := K232.trans KK233 (allS (Or.inr sz_b164) all0)
          have Z240 : n0 ≤ T233.heap.size := Nat.le_trans Z232 KK233.1
          obtain ⟨rfl, v233_0_0, v233_0_1, v233_0_2, v233_0_3⟩ := hR233
          refine Goes.back st233 ?_
          show Goes _ _ _ _ _ _ _ (T233.setTop (mkF m 173 #[.val (.int p0), .val (.int p1), .val (.int p2), .val (.int p3), .val (.int p4), .val (.int p5), .val (.int (2 : Int32)), .val (.int (2 : Int32)), .val (.int (1 : Int32)), .val (.ref b164), .val (.int (1 : Int32)), .unset] []))
          refine Goes.step (fun _ k => XS.iload X233.here hx rfl (hb hby at_173) rfl  k) ?_
          show Goes _ _ _ _ _ _ _ (T233.setTop (mkF m 175 #[.val (.int p0), .val (.int p1), .val (.int p2), .val (.int p3), .val (.int p4), .val (.int p5), .val (.int (2 : Int32)), .val (.int (2 : Int32)), .val (.int (1 : Int32)), .val (.ref b164), .val (.int (1 : Int32)), .unset] [(.int (1 : Int32))]))
          refine Goes.step (fun _ k => XS.ifYes X233.here hx rfl (pc0 := 175) (pc' := 185) rfl (hb hby at_175) rfl ((if0 _ _).trans (feq (by decide : ¬ ((1 : Int32) = (0 : Int32)))).2) (by decide) (by decide) k) ?_
          show Goes _ _ _ _ _ _ _ (T233.setTop (mkF m 185 #[.val (.int p0), .val (.int p1), .val (.int p2), .val (.int p3), .val (.int p4), .val (.int p5), .val (.int (2 : Int32)), .val (.int (2 : Int32)), .val (.int (1 : Int32)), .val (.ref b164), .val (.int (1 : Int32)), .unset] []))
          refine Goes.step (fun _ k => XS.iconst X233.here hx rfl (hb hby at_185) k) ?_
          show Goes _ _ _ _ _ _ _ (T233.setTop (mkF m 186 #[.val (.int p0), .val (.int p1), .val (.int p2), .val (.int p3), .val (.int p4), .val (.int p5), .val (.int (2 : Int32)), .val (.int (2 : Int32)), .val (.int (1 : Int32)), .val (.ref b164), .val (.int (1 : Int32)), .unset] [(.int (1 : Int32))]))
          refine Goes.step (fun _ k => XS.goto X233.here hx rfl (pc0 := 186) (pc' := 190) rfl (hb hby at_186) (by decide) (by decide) k) ?_
          show Goes _ _ _ _ _ _ _ (T233.setTop (mkF m 190 #[.val (.int p0), .val (.int p1), .val (.int p2), .val (.int p3), .val (.int p4), .val (.int p5), .val (.int (2 : Int32)), .val (.int (2 : Int32)), .val (.int (1 : Int32)), .val (.ref b164), .val (.int (1 : Int32)), .unset] [(.int (1 : Int32))]))
          refine Goes.step (fun _ k => XS.istore X233.here hx rfl (hb hby at_190) rfl (l' := #[.val (.int p0), .val (.int p1), .val (.int p2), .val (.int p3), .val (.int p4), .val (.int p5), .val (.int (2 : Int32)), .val (.int (2 : Int32)), .val (.int (1 : Int32)), .val (.ref b164), .val (.int (1 : Int32)), .val (.int (1 : Int32))]) rfl k) ?_
          show Goes _ _ _ _ _ _ _ (T233.setTop (mkF m 192 #[.val (.int p0), .val (.int p1), .val (.int p2), .val (.int p3), .val (.int p4), .val (.int p5), .val (.int (2 : Int32)), .val (.int (2 : Int32)), .val (.int (1 : Int32)), .val (.ref b164), .val (.int (1 : Int32)), .val (.int (1 : Int32))] []))
          refine Goes.step (fun _ k => XS.iload X233.here hx rfl (hb hby at_192) rfl  k) ?_
          show Goes _ _ _ _ _ _ _ (T233.setTop (mkF m 194 #[.val (.int p0), .val (.int p1), .val (.int p2), .val (.int p3), .val (.int p4), .val (.int p5), .val (.int (2 : Int32)), .val (.int (2 : Int32)), .val (.int (1 : Int32)), .val (.ref b164), .val (.int (1 : Int32)), .val (.int (1 : Int32))] [(.int (1 : Int32))]))
          refine Goes.step (fun _ k => XS.ifNo X233.here hx rfl (hb hby at_194) rfl ((if0 _ _).trans (feq (by decide : ¬ ((1 : Int32) = (0 : Int32)))).1) k) ?_
          show Goes _ _ _ _ _ _ _ (T233.setTop (mkF m 197 #[.val (.int p0), .val (.int p1), .val (.int p2), .val (.int p3), .val (.int p4), .val (.int p5), .val (.int (2 : Int32)), .val (.int (2 : Int32)), .val (.int (1 : Int32)), .val (.ref b164), .val (.int (1 : Int32)), .val (.int (1 : Int32))] []))
          refine Goes.step (fun _ k => XS.aload X233.here hx rfl (hb hby at_197) rfl rfl k) ?_
          show Goes _ _ _ _ _ _ _ (T233.setTop (mkF m 199 #[.val (.int p0), .val (.int p1), .val (.int p2), .val (.int p3), .val (.int p4), .val (.int p5), .val (.int (2 : Int32)), .val (.int (2 : Int32)), .val (.int (1 : Int32)), .val (.ref b164), .val (.int (1 : Int32)), .val (.int (1 : Int32))] [(.ref b164)]))
          obtain ⟨cq241, kq241, q241a, q241b, q241c⟩ := isOf hZ rfl v233_0_3
          obtain ⟨_, _, ⟨T241, L241, k241, n241⟩, -, X241, ⟨Lc241, hQ241, l241, y241, z241⟩, st241⟩ := X233.virtualBack hx (y := (⟨"com/example/hailwise/hailwise/NodeQueue", "isEmpty", "()Z"⟩ : MethodName)) (z := (⟨"com/example/hailwise/hailwise/NodeQueue", "isEmpty", "()Z"⟩ : MethodName)) hown (mvT hZ (hw _ (List.mem_of_getElem? (i := 22) rfl))) (mvT hZ (hw _ (List.mem_of_getElem? (i := 23) rfl))) (notFace_of_selects (args := #[]) (mvT hZ (hw _ (List.mem_of_getElem? (i := 25) rfl)))) (mvT hZ (hw _ (List.mem_of_getElem? (i := 25) rfl))) (mvT hZ (hw _ (List.mem_of_getElem? (i := 24) rfl))) (by decide) (backOf (W := 0) (rm4 l Z a0 hw [] b164 (0 : Int32) T233.heap n0 Z240 v233_0_2) hZ (hw _ (List.mem_of_getElem? (i := 26) rfl)) (hw _ (List.mem_of_getElem? (i := 2) rfl)) (by decide) (by decide)) q241a q241c (g := (mkF m 199 #[.val (.int p0), .val (.int p1), .val (.int p2), .val (.int p3), .val (.int p4), .val (.int p5), .val (.int (2 : Int32)), .val (.int (2 : Int32)), .val (.int (1 : Int32)), .val (.ref b164), .val (.int (1 : Int32)), .val (.int (1 : Int32))] [(.ref b164)])) rfl (by rw [hml]; rfl) (Steps.refl _) (argsL := []) (rest := []) (lenOf pd_2 rfl) rfl (by show 2 * 0 + _ ≤ _; exact Nat.le_of_eq rfl) (hb hby at_199) (fun _ _ => ⟨rfl, rfl, (by decide : 3 + 0 ≤ _), (by decide : 131 + 0 ≤ _)⟩)
          dsimp only [Pt.U, Pt.locs, Pt.cells, Pt.slots] at X241 l241 y241 z241 st241 hQ241
          subst l241 y241 z241
          obtain ⟨N241, eh241, hR241⟩ := hQ241
          have NA241 := Fr.app NA233 N241
          rcases hR241 with ⟨rfl, u241_0_0⟩ | ⟨rfl, u241_1_0⟩
          · refine Goes.back st241 ?_
            show Goes _ _ _ _ _ _ _ (T241.setTop (mkF m 202 #[.val (.int p0), .val (.int p1), .val (.int p2), .val (.int p3), .val (.int p4), .val (.int p5), .val (.int (2 : Int32)), .val (.int (2 : Int32)), .val (.int (1 : Int32)), .val (.ref b164), .val (.int (1 : Int32)), .val (.int (1 : Int32))] [(.int (1 : Int32))]))
            refine Goes.step (fun _ k => XS.iload X241.here hx rfl (hb hby at_202) rfl  k) ?_
            show Goes _ _ _ _ _ _ _ (T241.setTop (mkF m 204 #[.val (.int p0), .val (.int p1), .val (.int p2), .val (.int p3), .val (.int p4), .val (.int p5), .val (.int (2 : Int32)), .val (.int (2 : Int32)), .val (.int (1 : Int32)), .val (.ref b164), .val (.int (1 : Int32)), .val (.int (1 : Int32))] [(.int (1 : Int32)), (.int (1 : Int32))]))
            refine Goes.step (fun _ k => XS.icmpNo X241.here hx rfl (hb hby at_204) rfl (teq (by decide : (1 : Int32) = (1 : Int32))).2 k) ?_
            show Goes _ _ _ _ _ _ _ (T241.setTop (mkF m 207 #[.val (.int p0), .val (.int p1), .val (.int p2), .val (.int p3), .val (.int p4), .val (.int p5), .val (.int (2 : Int32)), .val (.int (2 : Int32)), .val (.int (1 : Int32)), .val (.ref b164), .val (.int (1 : Int32)), .val (.int (1 : Int32))] []))
            refine Goes.step (fun _ k => XS.iconst X241.here hx rfl (hb hby at_207) k) ?_
            show Goes _ _ _ _ _ _ _ (T241.setTop (mkF m 208 #[.val (.int p0), .val (.int p1), .val (.int p2), .val (.int p3), .val (.int p4), .val (.int p5), .val (.int (2 : Int32)), .val (.int (2 : Int32)), .val (.int (1 : Int32)), .val (.ref b164), .val (.int (1 : Int32)), .val (.int (1 : Int32))] [(.int (1 : Int32))]))
            refine Goes.step (fun _ k => XS.goto X241.here hx rfl (pc0 := 208) (pc' := 212) rfl (hb hby at_208) (by decide) (by decide) k) ?_
            show Goes _ _ _ _ _ _ _ (T241.setTop (mkF m 212 #[.val (.int p0), .val (.int p1), .val (.int p2), .val (.int p3), .val (.int p4), .val (.int p5), .val (.int (2 : Int32)), .val (.int (2 : Int32)), .val (.int (1 : Int32)), .val (.ref b164), .val (.int (1 : Int32)), .val (.int (1 : Int32))] [(.int (1 : Int32))]))
            refine Goes.step (fun _ k => XS.istore X241.here hx rfl (hb hby at_212) rfl (l' := #[.val (.int p0), .val (.int p1), .val (.int p2), .val (.int p3), .val (.int p4), .val (.int p5), .val (.int (2 : Int32)), .val (.int (2 : Int32)), .val (.int (1 : Int32)), .val (.ref b164), .val (.int (1 : Int32)), .val (.int (1 : Int32))]) rfl k) ?_
            show Goes _ _ _ _ _ _ _ (T241.setTop (mkF m 214 #[.val (.int p0), .val (.int p1), .val (.int p2), .val (.int p3), .val (.int p4), .val (.int p5), .val (.int (2 : Int32)), .val (.int (2 : Int32)), .val (.int (1 : Int32)), .val (.ref b164), .val (.int (1 : Int32)), .val (.int (1 : Int32))] []))
            refine Goes.step (fun _ k => XS.iload X241.here hx rfl (hb hby at_214) rfl  k) ?_
            show Goes _ _ _ _ _ _ _ (T241.setTop (mkF m 216 #[.val (.int p0), .val (.int p1), .val (.int p2), .val (.int p3), .val (.int p4), .val (.int p5), .val (.int (2 : Int32)), .val (.int (2 : Int32)), .val (.int (1 : Int32)), .val (.ref b164), .val (.int (1 : Int32)), .val (.int (1 : Int32))] [(.int (1 : Int32))]))
            exact Goes.ret X241 hx (BodyLoose.notSynchronized Bd) Bd.returns rfl (Or.inl ⟨rfl, by simp, _, rfl⟩) (hb hby at_216) (by show Q0 Z p0 p1 p2 p3 p4 p5 h0 n0 (some (.int (1 : Int32))) T241.heap _; rw [eh241]; exact ⟨rfl, NA241⟩) (by decide) (by decide)
          · exact absurd (by decide : (0 : Int32) = (0 : Int32)) u241_1_0
  · show Goes _ _ _ _ _ _ _ (s₁.setTop (mkF m 6 #[.val (.int p0), .val (.int p1), .val (.int p2), .val (.int p3), .val (.int p4), .val (.int p5), .val (.int (3 : Int32)), .unset, .unset, .unset, .unset, .unset] []))
    refine Goes.step (fun _ k => XS.iload X0.here hx rfl (hb hby at_6) rfl  k) ?_
    show Goes _ _ _ _ _ _ _ (s₁.setTop (mkF m 8 #[.val (.int p0), .val (.int p1), .val (.int p2), .val (.int p3), .val (.int p4), .val (.int p5), .val (.int (3 : Int32)), .unset, .unset, .unset, .unset, .unset] [(.int p5)]))
    refine Goes.step (fun _ k => XS.iconst X0.here hx rfl (hb hby at_8) k) ?_
    show Goes _ _ _ _ _ _ _ (s₁.setTop (mkF m 9 #[.val (.int p0), .val (.int p1), .val (.int p2), .val (.int p3), .val (.int p4), .val (.int p5), .val (.int (3 : Int32)), .unset, .unset, .unset, .unset, .unset] [(.int (2 : Int32)), (.int p5)]))
    refine Goes.step (fun _ k => XS.iushr X0.here hx rfl (hb hby at_9) rfl k) ?_
    show Goes _ _ _ _ _ _ _ (s₁.setTop (mkF m 10 #[.val (.int p0), .val (.int p1), .val (.int p2), .val (.int p3), .val (.int p4), .val (.int p5), .val (.int (3 : Int32)), .unset, .unset, .unset, .unset, .unset] [(.int ((p5.toUInt32 >>> ((2 : Int32) &&& 31).toUInt32).toInt32))]))
    refine Goes.step (fun _ k => XS.iconst X0.here hx rfl (hb hby at_10) k) ?_
    show Goes _ _ _ _ _ _ _ (s₁.setTop (mkF m 11 #[.val (.int p0), .val (.int p1), .val (.int p2), .val (.int p3), .val (.int p4), .val (.int p5), .val (.int (3 : Int32)), .unset, .unset, .unset, .unset, .unset] [(.int (3 : Int32)), (.int ((p5.toUInt32 >>> ((2 : Int32) &&& 31).toUInt32).toInt32))]))
    refine Goes.step (fun _ k => XS.iand X0.here hx rfl (hb hby at_11) rfl k) ?_
    show Goes _ _ _ _ _ _ _ (s₁.setTop (mkF m 12 #[.val (.int p0), .val (.int p1), .val (.int p2), .val (.int p3), .val (.int p4), .val (.int p5), .val (.int (3 : Int32)), .unset, .unset, .unset, .unset, .unset] [(.int (((p5.toUInt32 >>> ((2 : Int32) &&& 31).toUInt32).toInt32) &&& (3 : Int32)))]))
    refine Goes.step (fun _ k => XS.iload X0.here hx rfl (hb hby at_12) rfl  k) ?_
    show Goes _ _ _ _ _ _ _ (s₁.setTop (mkF m 14 #[.val (.int p0), .val (.int p1), .val (.int p2), .val (.int p3), .val (.int p4), .val (.int p5), .val (.int (3 : Int32)), .unset, .unset, .unset, .unset, .unset] [(.int (3 : Int32)), (.int (((p5.toUInt32 >>> ((2 : Int32) &&& 31).toUInt32).toInt32) &&& (3 : Int32)))]))
    refine Goes.step (fun _ k => XS.iconst X0.here hx rfl (hb hby at_14) k) ?_
    show Goes _ _ _ _ _ _ _ (s₁.setTop (mkF m 15 #[.val (.int p0), .val (.int p1), .val (.int p2), .val (.int p3), .val (.int p4), .val (.int p5), .val (.int (3 : Int32)), .unset, .unset, .unset, .unset, .unset] [(.int (1 : Int32)), (.int (3 : Int32)), (.int (((p5.toUInt32 >>> ((2 : Int32) &&& 31).toUInt32).toInt32) &&& (3 : Int32)))]))
    refine Goes.step (fun _ k => XS.iadd X0.here hx rfl (hb hby at_15) rfl k) ?_
    show Goes _ _ _ _ _ _ _ (s₁.setTop (mkF m 16 #[.val (.int p0), .val (.int p1), .val (.int p2), .val (.int p3), .val (.int p4), .val (.int p5), .val (.int (3 : Int32)), .unset, .unset, .unset, .unset, .unset] [(.int (4 : Int32)), (.int (((p5.toUInt32 >>> ((2 : Int32) &&& 31).toUInt32).toInt32) &&& (3 : Int32)))]))
    refine Goes.step (fun _ k => iremM X0 hx rfl (hb hby at_16) rfl (by decide) k) ?_
    show Goes _ _ _ _ _ _ _ (s₁.setTop (mkF m 17 #[.val (.int p0), .val (.int p1), .val (.int p2), .val (.int p3), .val (.int p4), .val (.int p5), .val (.int (3 : Int32)), .unset, .unset, .unset, .unset, .unset] [(.int ((((p5.toUInt32 >>> ((2 : Int32) &&& 31).toUInt32).toInt32) &&& (3 : Int32)) % (4 : Int32)))]))
    refine Goes.step (fun _ k => XS.istore X0.here hx rfl (hb hby at_17) rfl (l' := #[.val (.int p0), .val (.int p1), .val (.int p2), .val (.int p3), .val (.int p4), .val (.int p5), .val (.int (3 : Int32)), .val (.int ((((p5.toUInt32 >>> ((2 : Int32) &&& 31).toUInt32).toInt32) &&& (3 : Int32)) % (4 : Int32))), .unset, .unset, .unset, .unset]) rfl k) ?_
    show Goes _ _ _ _ _ _ _ (s₁.setTop (mkF m 19 #[.val (.int p0), .val (.int p1), .val (.int p2), .val (.int p3), .val (.int p4), .val (.int p5), .val (.int (3 : Int32)), .val (.int ((((p5.toUInt32 >>> ((2 : Int32) &&& 31).toUInt32).toInt32) &&& (3 : Int32)) % (4 : Int32))), .unset, .unset, .unset, .unset] []))
    refine Goes.step (fun _ k => XS.iload X0.here hx rfl (hb hby at_19) rfl  k) ?_
    show Goes _ _ _ _ _ _ _ (s₁.setTop (mkF m 21 #[.val (.int p0), .val (.int p1), .val (.int p2), .val (.int p3), .val (.int p4), .val (.int p5), .val (.int (3 : Int32)), .val (.int ((((p5.toUInt32 >>> ((2 : Int32) &&& 31).toUInt32).toInt32) &&& (3 : Int32)) % (4 : Int32))), .unset, .unset, .unset, .unset] [(.int p5)]))
    refine Goes.step (fun _ k => XS.iconst X0.here hx rfl (hb hby at_21) k) ?_
    show Goes _ _ _ _ _ _ _ (s₁.setTop (mkF m 22 #[.val (.int p0), .val (.int p1), .val (.int p2), .val (.int p3), .val (.int p4), .val (.int p5), .val (.int (3 : Int32)), .val (.int ((((p5.toUInt32 >>> ((2 : Int32) &&& 31).toUInt32).toInt32) &&& (3 : Int32)) % (4 : Int32))), .unset, .unset, .unset, .unset] [(.int (4 : Int32)), (.int p5)]))
    refine Goes.step (fun _ k => XS.iushr X0.here hx rfl (hb hby at_22) rfl k) ?_
    show Goes _ _ _ _ _ _ _ (s₁.setTop (mkF m 23 #[.val (.int p0), .val (.int p1), .val (.int p2), .val (.int p3), .val (.int p4), .val (.int p5), .val (.int (3 : Int32)), .val (.int ((((p5.toUInt32 >>> ((2 : Int32) &&& 31).toUInt32).toInt32) &&& (3 : Int32)) % (4 : Int32))), .unset, .unset, .unset, .unset] [(.int ((p5.toUInt32 >>> ((4 : Int32) &&& 31).toUInt32).toInt32))]))
    refine Goes.step (fun _ k => XS.iconst X0.here hx rfl (hb hby at_23) k) ?_
    show Goes _ _ _ _ _ _ _ (s₁.setTop (mkF m 24 #[.val (.int p0), .val (.int p1), .val (.int p2), .val (.int p3), .val (.int p4), .val (.int p5), .val (.int (3 : Int32)), .val (.int ((((p5.toUInt32 >>> ((2 : Int32) &&& 31).toUInt32).toInt32) &&& (3 : Int32)) % (4 : Int32))), .unset, .unset, .unset, .unset] [(.int (1 : Int32)), (.int ((p5.toUInt32 >>> ((4 : Int32) &&& 31).toUInt32).toInt32))]))
    refine Goes.step (fun _ k => XS.iand X0.here hx rfl (hb hby at_24) rfl k) ?_
    show Goes _ _ _ _ _ _ _ (s₁.setTop (mkF m 25 #[.val (.int p0), .val (.int p1), .val (.int p2), .val (.int p3), .val (.int p4), .val (.int p5), .val (.int (3 : Int32)), .val (.int ((((p5.toUInt32 >>> ((2 : Int32) &&& 31).toUInt32).toInt32) &&& (3 : Int32)) % (4 : Int32))), .unset, .unset, .unset, .unset] [(.int (((p5.toUInt32 >>> ((4 : Int32) &&& 31).toUInt32).toInt32) &&& (1 : Int32)))]))
    by_cases c25_242 : (((p5.toUInt32 >>> ((4 : Int32) &&& 31).toUInt32).toInt32) &&& (1 : Int32)) = (0 : Int32)
    · refine Goes.step (fun _ k => XS.ifYes X0.here hx rfl (pc0 := 25) (pc' := 32) rfl (hb hby at_25) rfl ((if0 _ _).trans (teq c25_242).1) (by decide) (by decide) k) ?_
      show Goes _ _ _ _ _ _ _ (s₁.setTop (mkF m 32 #[.val (.int p0), .val (.int p1), .val (.int p2), .val (.int p3), .val (.int p4), .val (.int p5), .val (.int (3 : Int32)), .val (.int ((((p5.toUInt32 >>> ((2 : Int32) &&& 31).toUInt32).toInt32) &&& (3 : Int32)) % (4 : Int32))), .unset, .unset, .unset, .unset] []))
      refine Goes.step (fun _ k => XS.iconst X0.here hx rfl (hb hby at_32) k) ?_
      show Goes _ _ _ _ _ _ _ (s₁.setTop (mkF m 33 #[.val (.int p0), .val (.int p1), .val (.int p2), .val (.int p3), .val (.int p4), .val (.int p5), .val (.int (3 : Int32)), .val (.int ((((p5.toUInt32 >>> ((2 : Int32) &&& 31).toUInt32).toInt32) &&& (3 : Int32)) % (4 : Int32))), .unset, .unset, .unset, .unset] [(.int (0 : Int32))]))
      refine Goes.step (fun _ k => XS.istore X0.here hx rfl (hb hby at_33) rfl (l' := #[.val (.int p0), .val (.int p1), .val (.int p2), .val (.int p3), .val (.int p4), .val (.int p5), .val (.int (3 : Int32)), .val (.int ((((p5.toUInt32 >>> ((2 : Int32) &&& 31).toUInt32).toInt32) &&& (3 : Int32)) % (4 : Int32))), .val (.int (0 : Int32)), .unset, .unset, .unset]) rfl k) ?_
      show Goes _ _ _ _ _ _ _ (s₁.setTop (mkF m 35 #[.val (.int p0), .val (.int p1), .val (.int p2), .val (.int p3), .val (.int p4), .val (.int p5), .val (.int (3 : Int32)), .val (.int ((((p5.toUInt32 >>> ((2 : Int32) &&& 31).toUInt32).toInt32) &&& (3 : Int32)) % (4 : Int32))), .val (.int (0 : Int32)), .unset, .unset, .unset] []))
      obtain ⟨T243, h243, X243, e243, E243, A243, D243, -, st243⟩ := newO X0 hx hZ hown (hw _ (List.mem_of_getElem? (i := 0) rfl)) (hw _ (List.mem_of_getElem? (i := 1) rfl)) (hw _ (List.mem_of_getElem? (i := 2) rfl)) e0 (g := (mkF m 35 #[.val (.int p0), .val (.int p1), .val (.int p2), .val (.int p3), .val (.int p4), .val (.int p5), .val (.int (3 : Int32)), .val (.int ((((p5.toUInt32 >>> ((2 : Int32) &&& 31).toUInt32).toInt32) &&& (3 : Int32)) % (4 : Int32))), .val (.int (0 : Int32)), .unset, .unset, .unset] [])) rfl (hb hby at_35) (by decide) (by decide)
      obtain ⟨b243, g243⟩ : ∃ z, z = h0.size := ⟨_, rfl⟩
      rw [← g243] at A243 D243 st243
      refine Goes.step st243 ?_
      have g_b243 : n0 ≤ b243 := Nat.le_trans Z0 (Nat.le_of_eq g243.symm)
      have sz_b243 : h0.size ≤ b243 := Nat.le_trans K0.1 (Nat.le_of_eq g243.symm)
      have K244 : Keep h0 h243 [] := K0.ext E243
      have Z244 : n0 ≤ h243.size := Nat.le_trans Z0 E243.1
      have E_b243 := A243
      have F_nodes_b243 : Fld Z h243 b243 "com/example/hailwise/hailwise/NodeQueue" "nodes" "[I" .null := D243 (Or.inl (hw _ (List.mem_of_getElem? (i := 11) rfl))) (ty := (.array .int)) (by decide)
      have F_keys_b243 : Fld Z h243 b243 "com/example/hailwise/hailwise/NodeQueue" "keys" "[D" .null := D243 (Or.inl (hw _ (List.mem_of_getElem? (i := 14) rfl))) (ty := (.array .double)) (by decide)
      have F_size_b243 : Fld Z h243 b243 "com/example/hailwise/hailwise/NodeQueue" "size" "I" (.int (0 : Int32)) := D243 (Or.inl (hw _ (List.mem_of_getElem? (i := 21) rfl))) (ty := .int) (by decide)
      show Goes _ _ _ _ _ _ _ (T243.setTop (mkF m 38 #[.val (.int p0), .val (.int p1), .val (.int p2), .val (.int p3), .val (.int p4), .val (.int p5), .val (.int (3 : Int32)), .val (.int ((((p5.toUInt32 >>> ((2 : Int32) &&& 31).toUInt32).toInt32) &&& (3 : Int32)) % (4 : Int32))), .val (.int (0 : Int32)), .unset, .unset, .unset] [(.ref b243)]))
      refine Goes.step (fun _ k => XS.dup X243.here hx rfl (hb hby at_38) rfl rfl k) ?_
      show Goes _ _ _ _ _ _ _ (T243.setTop (mkF m 39 #[.val (.int p0), .val (.int p1), .val (.int p2), .val (.int p3), .val (.int p4), .val (.int p5), .val (.int (3 : Int32)), .val (.int ((((p5.toUInt32 >>> ((2 : Int32) &&& 31).toUInt32).toInt32) &&& (3 : Int32)) % (4 : Int32))), .val (.int (0 : Int32)), .unset, .unset, .unset] [(.ref b243), (.ref b243)]))
      obtain ⟨_, _, ⟨T245, L245, k245, n245⟩, -, X245, ⟨Lc245, hQ245, l245, y245, z245⟩, st245⟩ := X243.specialBack hx (y := (⟨"com/example/hailwise/hailwise/NodeQueue", "<init>", "()V"⟩ : MethodName)) rfl hown (mvT hZ (hw _ (List.mem_of_getElem? (i := 3) rfl))) (mvT hZ (hw _ (List.mem_of_getElem? (i := 4) rfl))) (mvT hZ (hw _ (List.mem_of_getElem? (i := 5) rfl))) (by decide) (backOf (W := 1) (rm1 l Z a0 hw [] b243 h243 n0 Z244 F_nodes_b243 F_keys_b243 F_size_b243 E_b243 g_b243) hZ (hw _ (List.mem_of_getElem? (i := 5) rfl)) (hw _ (List.mem_of_getElem? (i := 2) rfl)) (by decide) (by decide)) (g := (mkF m 39 #[.val (.int p0), .val (.int p1), .val (.int p2), .val (.int p3), .val (.int p4), .val (.int p5), .val (.int (3 : Int32)), .val (.int ((((p5.toUInt32 >>> ((2 : Int32) &&& 31).toUInt32).toInt32) &&& (3 : Int32)) % (4 : Int32))), .val (.int (0 : Int32)), .unset, .unset, .unset] [(.ref b243), (.ref b243)])) rfl (by rw [hml]; rfl) (Steps.refl _) (a := b243) (argsL := []) (rest := [(.ref b243)]) (lenOf pd_0 rfl) rfl (by show 2 * 0 + _ ≤ _; exact Nat.le_of_eq rfl) (hb hby at_39) (fun _ _ => ⟨rfl, e243, (by decide : 1 + 2 ≤ _), (by decide : 3 + 128 ≤ _)⟩)
      dsimp only [Pt.U, Pt.locs, Pt.cells, Pt.slots] at X245 l245 y245 z245 st245 hQ245
      subst l245 y245 z245
      obtain ⟨N245, KK245, hR245⟩ := hQ245
      have NA245 := Fr.app N0 N245
      have f246 := E_b243.keep KK245
      have K250 : Keep h0 T245.heap [] := K244.trans KK245 (allS (Or.inr sz_b243) all0)
      have Z250 : n0 ≤ T245.heap.size := Nat.le_trans Z244 KK245.1
      obtain ⟨r245_0_0, r245_0_1, kk245_0_0, kk245_0_1, rfl, g_r245_0_0, le_r245_0_0, g_r245_0_1, le_r245_0_1, nn245_0_0, v245_0_0, v245_0_1, v245_0_2, v245_0_3, v245_0_4, v245_0_5⟩ := hR245
      have ne251 : b243 ≠ r245_0_0 := Nat.ne_of_lt (Nat.lt_of_lt_of_le E_b243.lt le_r245_0_0)
      have sz_r245_0_0 : h0.size ≤ r245_0_0 := Nat.le_trans K244.1 le_r245_0_0
      have ne252 : b243 ≠ r245_0_1 := Nat.ne_of_lt (Nat.lt_of_lt_of_le E_b243.lt le_r245_0_1)
      have sz_r245_0_1 : h0.size ≤ r245_0_1 := Nat.le_trans K244.1 le_r245_0_1
      refine Goes.back st245 ?_
      show Goes _ _ _ _ _ _ _ (T245.setTop (mkF m 42 #[.val (.int p0), .val (.int p1), .val (.int p2), .val (.int p3), .val (.int p4), .val (.int p5), .val (.int (3 : Int32)), .val (.int ((((p5.toUInt32 >>> ((2 : Int32) &&& 31).toUInt32).toInt32) &&& (3 : Int32)) % (4 : Int32))), .val (.int (0 : Int32)), .unset, .unset, .unset] [(.ref b243)]))
      refine Goes.step (fun _ k => XS.astore X245.here hx rfl (hb hby at_42) rfl rfl (l' := #[.val (.int p0), .val (.int p1), .val (.int p2), .val (.int p3), .val (.int p4), .val (.int p5), .val (.int (3 : Int32)), .val (.int ((((p5.toUInt32 >>> ((2 : Int32) &&& 31).toUInt32).toInt32) &&& (3 : Int32)) % (4 : Int32))), .val (.int (0 : Int32)), .val (.ref b243), .unset, .unset]) rfl k) ?_
      show Goes _ _ _ _ _ _ _ (T245.setTop (mkF m 44 #[.val (.int p0), .val (.int p1), .val (.int p2), .val (.int p3), .val (.int p4), .val (.int p5), .val (.int (3 : Int32)), .val (.int ((((p5.toUInt32 >>> ((2 : Int32) &&& 31).toUInt32).toInt32) &&& (3 : Int32)) % (4 : Int32))), .val (.int (0 : Int32)), .val (.ref b243), .unset, .unset] []))
      refine Goes.step (fun _ k => XS.iload X245.here hx rfl (hb hby at_44) rfl  k) ?_
      show Goes _ _ _ _ _ _ _ (T245.setTop (mkF m 46 #[.val (.int p0), .val (.int p1), .val (.int p2), .val (.int p3), .val (.int p4), .val (.int p5), .val (.int (3 : Int32)), .val (.int ((((p5.toUInt32 >>> ((2 : Int32) &&& 31).toUInt32).toInt32) &&& (3 : Int32)) % (4 : Int32))), .val (.int (0 : Int32)), .val (.ref b243), .unset, .unset] [(.int (3 : Int32))]))
      refine Goes.step (fun _ k => XS.iconst X245.here hx rfl (hb hby at_46) k) ?_
      show Goes _ _ _ _ _ _ _ (T245.setTop (mkF m 47 #[.val (.int p0), .val (.int p1), .val (.int p2), .val (.int p3), .val (.int p4), .val (.int p5), .val (.int (3 : Int32)), .val (.int ((((p5.toUInt32 >>> ((2 : Int32) &&& 31).toUInt32).toInt32) &&& (3 : Int32)) % (4 : Int32))), .val (.int (0 : Int32)), .val (.ref b243), .unset, .unset] [(.int (1 : Int32)), (.int (3 : Int32))]))
      refine Goes.step (fun _ k => XS.icmpNo X245.here hx rfl (hb hby at_47) rfl (flt (by decide : ¬ ((3 : Int32) < (1 : Int32)))).1 k) ?_
      show Goes _ _ _ _ _ _ _ (T245.setTop (mkF m 50 #[.val (.int p0), .val (.int p1), .val (.int p2), .val (.int p3), .val (.int p4), .val (.int p5), .val (.int (3 : Int32)), .val (.int ((((p5.toUInt32 >>> ((2 : Int32) &&& 31).toUInt32).toInt32) &&& (3 : Int32)) % (4 : Int32))), .val (.int (0 : Int32)), .val (.ref b243), .unset, .unset] []))
      refine Goes.step (fun _ k => XS.aload X245.here hx rfl (hb hby at_50) rfl rfl k) ?_
      show Goes _ _ _ _ _ _ _ (T245.setTop (mkF m 52 #[.val (.int p0), .val (.int p1), .val (.int p2), .val (.int p3), .val (.int p4), .val (.int p5), .val (.int (3 : Int32)), .val (.int ((((p5.toUInt32 >>> ((2 : Int32) &&& 31).toUInt32).toInt32) &&& (3 : Int32)) % (4 : Int32))), .val (.int (0 : Int32)), .val (.ref b243), .unset, .unset] [(.ref b243)]))
      refine Goes.step (fun _ k => XS.iloadN X245.here hx rfl (hb hby at_52) rfl  k) ?_
      show Goes _ _ _ _ _ _ _ (T245.setTop (mkF m 53 #[.val (.int p0), .val (.int p1), .val (.int p2), .val (.int p3), .val (.int p4), .val (.int p5), .val (.int (3 : Int32)), .val (.int ((((p5.toUInt32 >>> ((2 : Int32) &&& 31).toUInt32).toInt32) &&& (3 : Int32)) % (4 : Int32))), .val (.int (0 : Int32)), .val (.ref b243), .unset, .unset] [(.int p0), (.ref b243)]))
      refine Goes.step (fun _ k => XS.iloadN X245.here hx rfl (hb hby at_53) rfl  k) ?_
      show Goes _ _ _ _ _ _ _ (T245.setTop (mkF m 54 #[.val (.int p0), .val (.int p1), .val (.int p2), .val (.int p3), .val (.int p4), .val (.int p5), .val (.int (3 : Int32)), .val (.int ((((p5.toUInt32 >>> ((2 : Int32) &&& 31).toUInt32).toInt32) &&& (3 : Int32)) % (4 : Int32))), .val (.int (0 : Int32)), .val (.ref b243), .unset, .unset] [(.int p3), (.int p0), (.ref b243)]))
      refine Goes.step (fun _ k => XS.sipush X245.here hx rfl (hb hby at_54) k) ?_
      show Goes _ _ _ _ _ _ _ (T245.setTop (mkF m 57 #[.val (.int p0), .val (.int p1), .val (.int p2), .val (.int p3), .val (.int p4), .val (.int p5), .val (.int (3 : Int32)), .val (.int ((((p5.toUInt32 >>> ((2 : Int32) &&& 31).toUInt32).toInt32) &&& (3 : Int32)) % (4 : Int32))), .val (.int (0 : Int32)), .val (.ref b243), .unset, .unset] [(.int (255 : Int32)), (.int p3), (.int p0), (.ref b243)]))
      refine Goes.step (fun _ k => XS.iand X245.here hx rfl (hb hby at_57) rfl k) ?_
      show Goes _ _ _ _ _ _ _ (T245.setTop (mkF m 58 #[.val (.int p0), .val (.int p1), .val (.int p2), .val (.int p3), .val (.int p4), .val (.int p5), .val (.int (3 : Int32)), .val (.int ((((p5.toUInt32 >>> ((2 : Int32) &&& 31).toUInt32).toInt32) &&& (3 : Int32)) % (4 : Int32))), .val (.int (0 : Int32)), .val (.ref b243), .unset, .unset] [(.int (p3 &&& (255 : Int32))), (.int p0), (.ref b243)]))
      refine Goes.step (fun _ k => XS.i2dS X245.here hx rfl (hb hby at_58) rfl rfl k) ?_
      show Goes _ _ _ _ _ _ _ (T245.setTop (mkF m 59 #[.val (.int p0), .val (.int p1), .val (.int p2), .val (.int p3), .val (.int p4), .val (.int p5), .val (.int (3 : Int32)), .val (.int ((((p5.toUInt32 >>> ((2 : Int32) &&& 31).toUInt32).toInt32) &&& (3 : Int32)) % (4 : Int32))), .val (.int (0 : Int32)), .val (.ref b243), .unset, .unset] [(.double (FP.i2d (p3 &&& (255 : Int32)))), (.int p0), (.ref b243)]))
      obtain ⟨cq253, kq253, q253a, q253b, q253c⟩ := isOf hZ rfl v245_0_3
      obtain ⟨_, _, ⟨T253, L253, k253, n253⟩, -, X253, ⟨Lc253, hQ253, l253, y253, z253⟩, st253⟩ := X245.virtualBack hx (y := (⟨"com/example/hailwise/hailwise/NodeQueue", "add", "(ID)V"⟩ : MethodName)) (z := (⟨"com/example/hailwise/hailwise/NodeQueue", "add", "(ID)V"⟩ : MethodName)) hown (mvT hZ (hw _ (List.mem_of_getElem? (i := 15) rfl))) (mvT hZ (hw _ (List.mem_of_getElem? (i := 16) rfl))) (notFace_of_selects (args := #[]) (mvT hZ (hw _ (List.mem_of_getElem? (i := 18) rfl)))) (mvT hZ (hw _ (List.mem_of_getElem? (i := 18) rfl))) (mvT hZ (hw _ (List.mem_of_getElem? (i := 17) rfl))) (by decide) (backOf (W := 0) (rm3_0 l Z a0 hw [] b243 p0 (FP.i2d (p3 &&& (255 : Int32))) r245_0_0 r245_0_1 kk245_0_0 kk245_0_1 T245.heap n0 Z250 v245_0_0 v245_0_1 v245_0_2 v245_0_3 v245_0_4 v245_0_5 g_b243 g_r245_0_0 g_r245_0_1 ne251 ne252 (Ne.symm nn245_0_0)) hZ (hw _ (List.mem_of_getElem? (i := 19) rfl)) (hw _ (List.mem_of_getElem? (i := 2) rfl)) (by decide) (by decide)) q253a q253c (g := (mkF m 59 #[.val (.int p0), .val (.int p1), .val (.int p2), .val (.int p3), .val (.int p4), .val (.int p5), .val (.int (3 : Int32)), .val (.int ((((p5.toUInt32 >>> ((2 : Int32) &&& 31).toUInt32).toInt32) &&& (3 : Int32)) % (4 : Int32))), .val (.int (0 : Int32)), .val (.ref b243), .unset, .unset] [(.double (FP.i2d (p3 &&& (255 : Int32)))), (.int p0), (.ref b243)])) rfl (by rw [hml]; rfl) (Steps.refl _) (argsL := [(.int p0), (.double (FP.i2d (p3 &&& (255 : Int32))))]) (rest := []) (lenOf pd_1 rfl) rfl (by show 2 * 0 + _ ≤ _; exact Nat.le_of_eq rfl) (hb hby at_59) (fun _ _ => ⟨rfl, rfl, (by decide : 3 + 0 ≤ _), (by decide : 131 + 0 ≤ _)⟩)
      dsimp only [Pt.U, Pt.locs, Pt.cells, Pt.slots] at X253 l253 y253 z253 st253 hQ253
      subst l253 y253 z253
      obtain ⟨N253, KK253, hR253⟩ := hQ253
      have NA253 := Fr.app NA245 N253
      have f254 := v245_0_3.keep KK253
      have K260 : Keep h0 T253.heap [] := K250.trans KK253 (allS (Or.inr sz_b243) (allS (Or.inr sz_r245_0_0) (allS (Or.inr sz_r245_0_1) all0)))
      have Z260 : n0 ≤ T253.heap.size := Nat.le_trans Z250 KK253.1
      obtain ⟨rfl, v253_0_0, v253_0_1, v253_0_2, v253_0_3, v253_0_4, v253_0_5⟩ := hR253
      refine Goes.back st253 ?_
      show Goes _ _ _ _ _ _ _ (T253.setTop (mkF m 62 #[.val (.int p0), .val (.int p1), .val (.int p2), .val (.int p3), .val (.int p4), .val (.int p5), .val (.int (3 : Int32)), .val (.int ((((p5.toUInt32 >>> ((2 : Int32) &&& 31).toUInt32).toInt32) &&& (3 : Int32)) % (4 : Int32))), .val (.int (0 : Int32)), .val (.ref b243), .unset, .unset] []))
      refine Goes.step (fun _ k => XS.iload X253.here hx rfl (hb hby at_62) rfl  k) ?_
      show Goes _ _ _ _ _ _ _ (T253.setTop (mkF m 64 #[.val (.int p0), .val (.int p1), .val (.int p2), .val (.int p3), .val (.int p4), .val (.int p5), .val (.int (3 : Int32)), .val (.int ((((p5.toUInt32 >>> ((2 : Int32) &&& 31).toUInt32).toInt32) &&& (3 : Int32)) % (4 : Int32))), .val (.int (0 : Int32)), .val (.ref b243), .unset, .unset] [(.int (3 : Int32))]))
      refine Goes.step (fun _ k => XS.iconst X253.here hx rfl (hb hby at_64) k) ?_
      show Goes _ _ _ _ _ _ _ (T253.setTop (mkF m 65 #[.val (.int p0), .val (.int p1), .val (.int p2), .val (.int p3), .val (.int p4), .val (.int p5), .val (.int (3 : Int32)), .val (.int ((((p5.toUInt32 >>> ((2 : Int32) &&& 31).toUInt32).toInt32) &&& (3 : Int32)) % (4 : Int32))), .val (.int (0 : Int32)), .val (.ref b243), .unset, .unset] [(.int (2 : Int32)), (.int (3 : Int32))]))
      refine Goes.step (fun _ k => XS.icmpNo X253.here hx rfl (hb hby at_65) rfl (flt (by decide : ¬ ((3 : Int32) < (2 : Int32)))).1 k) ?_
      show Goes _ _ _ _ _ _ _ (T253.setTop (mkF m 68 #[.val (.int p0), .val (.int p1), .val (.int p2), .val (.int p3), .val (.int p4), .val (.int p5), .val (.int (3 : Int32)), .val (.int ((((p5.toUInt32 >>> ((2 : Int32) &&& 31).toUInt32).toInt32) &&& (3 : Int32)) % (4 : Int32))), .val (.int (0 : Int32)), .val (.ref b243), .unset, .unset] []))
      refine Goes.step (fun _ k => XS.aload X253.here hx rfl (hb hby at_68) rfl rfl k) ?_
      show Goes _ _ _ _ _ _ _ (T253.setTop (mkF m 70 #[.val (.int p0), .val (.int p1), .val (.int p2), .val (.int p3), .val (.int p4), .val (.int p5), .val (.int (3 : Int32)), .val (.int ((((p5.toUInt32 >>> ((2 : Int32) &&& 31).toUInt32).toInt32) &&& (3 : Int32)) % (4 : Int32))), .val (.int (0 : Int32)), .val (.ref b243), .unset, .unset] [(.ref b243)]))
      refine Goes.step (fun _ k => XS.iloadN X253.here hx rfl (hb hby at_70) rfl  k) ?_
      show Goes _ _ _ _ _ _ _ (T253.setTop (mkF m 71 #[.val (.int p0), .val (.int p1), .val (.int p2), .val (.int p3), .val (.int p4), .val (.int p5), .val (.int (3 : Int32)), .val (.int ((((p5.toUInt32 >>> ((2 : Int32) &&& 31).toUInt32).toInt32) &&& (3 : Int32)) % (4 : Int32))), .val (.int (0 : Int32)), .val (.ref b243), .unset, .unset] [(.int p1), (.ref b243)]))
      refine Goes.step (fun _ k => XS.iload X253.here hx rfl (hb hby at_71) rfl  k) ?_
      show Goes _ _ _ _ _ _ _ (T253.setTop (mkF m 73 #[.val (.int p0), .val (.int p1), .val (.int p2), .val (.int p3), .val (.int p4), .val (.int p5), .val (.int (3 : Int32)), .val (.int ((((p5.toUInt32 >>> ((2 : Int32) &&& 31).toUInt32).toInt32) &&& (3 : Int32)) % (4 : Int32))), .val (.int (0 : Int32)), .val (.ref b243), .unset, .unset] [(.int p4), (.int p1), (.ref b243)]))
      refine Goes.step (fun _ k => XS.sipush X253.here hx rfl (hb hby at_73) k) ?_
      show Goes _ _ _ _ _ _ _ (T253.setTop (mkF m 76 #[.val (.int p0), .val (.int p1), .val (.int p2), .val (.int p3), .val (.int p4), .val (.int p5), .val (.int (3 : Int32)), .val (.int ((((p5.toUInt32 >>> ((2 : Int32) &&& 31).toUInt32).toInt32) &&& (3 : Int32)) % (4 : Int32))), .val (.int (0 : Int32)), .val (.ref b243), .unset, .unset] [(.int (255 : Int32)), (.int p4), (.int p1), (.ref b243)]))
      refine Goes.step (fun _ k => XS.iand X253.here hx rfl (hb hby at_76) rfl k) ?_
      show Goes _ _ _ _ _ _ _ (T253.setTop (mkF m 77 #[.val (.int p0), .val (.int p1), .val (.int p2), .val (.int p3), .val (.int p4), .val (.int p5), .val (.int (3 : Int32)), .val (.int ((((p5.toUInt32 >>> ((2 : Int32) &&& 31).toUInt32).toInt32) &&& (3 : Int32)) % (4 : Int32))), .val (.int (0 : Int32)), .val (.ref b243), .unset, .unset] [(.int (p4 &&& (255 : Int32))), (.int p1), (.ref b243)]))
      refine Goes.step (fun _ k => XS.i2dS X253.here hx rfl (hb hby at_77) rfl rfl k) ?_
      show Goes _ _ _ _ _ _ _ (T253.setTop (mkF m 78 #[.val (.int p0), .val (.int p1), .val (.int p2), .val (.int p3), .val (.int p4), .val (.int p5), .val (.int (3 : Int32)), .val (.int ((((p5.toUInt32 >>> ((2 : Int32) &&& 31).toUInt32).toInt32) &&& (3 : Int32)) % (4 : Int32))), .val (.int (0 : Int32)), .val (.ref b243), .unset, .unset] [(.double (FP.i2d (p4 &&& (255 : Int32)))), (.int p1), (.ref b243)]))
      obtain ⟨cq261, kq261, q261a, q261b, q261c⟩ := isOf hZ rfl v253_0_3
      obtain ⟨_, _, ⟨T261, L261, k261, n261⟩, -, X261, ⟨Lc261, hQ261, l261, y261, z261⟩, st261⟩ := X253.virtualBack hx (y := (⟨"com/example/hailwise/hailwise/NodeQueue", "add", "(ID)V"⟩ : MethodName)) (z := (⟨"com/example/hailwise/hailwise/NodeQueue", "add", "(ID)V"⟩ : MethodName)) hown (mvT hZ (hw _ (List.mem_of_getElem? (i := 15) rfl))) (mvT hZ (hw _ (List.mem_of_getElem? (i := 16) rfl))) (notFace_of_selects (args := #[]) (mvT hZ (hw _ (List.mem_of_getElem? (i := 18) rfl)))) (mvT hZ (hw _ (List.mem_of_getElem? (i := 18) rfl))) (mvT hZ (hw _ (List.mem_of_getElem? (i := 17) rfl))) (by decide) (backOf (W := 0) (rm3_1 l Z a0 hw [] b243 p1 (FP.i2d (p4 &&& (255 : Int32))) r245_0_0 r245_0_1 kk245_0_0 kk245_0_1 T253.heap n0 Z260 v253_0_0 v253_0_1 v253_0_2 v253_0_3 v253_0_4 v253_0_5 g_b243 g_r245_0_0 g_r245_0_1 ne251 ne252 (Ne.symm nn245_0_0)) hZ (hw _ (List.mem_of_getElem? (i := 19) rfl)) (hw _ (List.mem_of_getElem? (i := 2) rfl)) (by decide) (by decide)) q261a q261c (g := (mkF m 78 #[.val (.int p0), .val (.int p1), .val (.int p2), .val (.int p3), .val (.int p4), .val (.int p5), .val (.int (3 : Int32)), .val (.int ((((p5.toUInt32 >>> ((2 : Int32) &&& 31).toUInt32).toInt32) &&& (3 : Int32)) % (4 : Int32))), .val (.int (0 : Int32)), .val (.ref b243), .unset, .unset] [(.double (FP.i2d (p4 &&& (255 : Int32)))), (.int p1), (.ref b243)])) rfl (by rw [hml]; rfl) (Steps.refl _) (argsL := [(.int p1), (.double (FP.i2d (p4 &&& (255 : Int32))))]) (rest := []) (lenOf pd_1 rfl) rfl (by show 2 * 0 + _ ≤ _; exact Nat.le_of_eq rfl) (hb hby at_78) (fun _ _ => ⟨rfl, rfl, (by decide : 3 + 0 ≤ _), (by decide : 131 + 0 ≤ _)⟩)
      dsimp only [Pt.U, Pt.locs, Pt.cells, Pt.slots] at X261 l261 y261 z261 st261 hQ261
      subst l261 y261 z261
      obtain ⟨N261, KK261, hR261⟩ := hQ261
      have NA261 := Fr.app NA253 N261
      have f262 := v253_0_3.keep KK261
      have K268 : Keep h0 T261.heap [] := K260.trans KK261 (allS (Or.inr sz_b243) (allS (Or.inr sz_r245_0_0) (allS (Or.inr sz_r245_0_1) all0)))
      have Z268 : n0 ≤ T261.heap.size := Nat.le_trans Z260 KK261.1
      obtain ⟨rfl, v261_0_0, v261_0_1, v261_0_2, v261_0_3, v261_0_4, v261_0_5⟩ := hR261
      refine Goes.back st261 ?_
      show Goes _ _ _ _ _ _ _ (T261.setTop (mkF m 81 #[.val (.int p0), .val (.int p1), .val (.int p2), .val (.int p3), .val (.int p4), .val (.int p5), .val (.int (3 : Int32)), .val (.int ((((p5.toUInt32 >>> ((2 : Int32) &&& 31).toUInt32).toInt32) &&& (3 : Int32)) % (4 : Int32))), .val (.int (0 : Int32)), .val (.ref b243), .unset, .unset] []))
      refine Goes.step (fun _ k => XS.iload X261.here hx rfl (hb hby at_81) rfl  k) ?_
      show Goes _ _ _ _ _ _ _ (T261.setTop (mkF m 83 #[.val (.int p0), .val (.int p1), .val (.int p2), .val (.int p3), .val (.int p4), .val (.int p5), .val (.int (3 : Int32)), .val (.int ((((p5.toUInt32 >>> ((2 : Int32) &&& 31).toUInt32).toInt32) &&& (3 : Int32)) % (4 : Int32))), .val (.int (0 : Int32)), .val (.ref b243), .unset, .unset] [(.int (3 : Int32))]))
      refine Goes.step (fun _ k => XS.iconst X261.here hx rfl (hb hby at_83) k) ?_
      show Goes _ _ _ _ _ _ _ (T261.setTop (mkF m 84 #[.val (.int p0), .val (.int p1), .val (.int p2), .val (.int p3), .val (.int p4), .val (.int p5), .val (.int (3 : Int32)), .val (.int ((((p5.toUInt32 >>> ((2 : Int32) &&& 31).toUInt32).toInt32) &&& (3 : Int32)) % (4 : Int32))), .val (.int (0 : Int32)), .val (.ref b243), .unset, .unset] [(.int (3 : Int32)), (.int (3 : Int32))]))
      refine Goes.step (fun _ k => XS.icmpNo X261.here hx rfl (hb hby at_84) rfl (flt (by decide : ¬ ((3 : Int32) < (3 : Int32)))).1 k) ?_
      show Goes _ _ _ _ _ _ _ (T261.setTop (mkF m 87 #[.val (.int p0), .val (.int p1), .val (.int p2), .val (.int p3), .val (.int p4), .val (.int p5), .val (.int (3 : Int32)), .val (.int ((((p5.toUInt32 >>> ((2 : Int32) &&& 31).toUInt32).toInt32) &&& (3 : Int32)) % (4 : Int32))), .val (.int (0 : Int32)), .val (.ref b243), .unset, .unset] []))
      refine Goes.step (fun _ k => XS.aload X261.here hx rfl (hb hby at_87) rfl rfl k) ?_
      show Goes _ _ _ _ _ _ _ (T261.setTop (mkF m 89 #[.val (.int p0), .val (.int p1), .val (.int p2), .val (.int p3), .val (.int p4), .val (.int p5), .val (.int (3 : Int32)), .val (.int ((((p5.toUInt32 >>> ((2 : Int32) &&& 31).toUInt32).toInt32) &&& (3 : Int32)) % (4 : Int32))), .val (.int (0 : Int32)), .val (.ref b243), .unset, .unset] [(.ref b243)]))
      refine Goes.step (fun _ k => XS.iloadN X261.here hx rfl (hb hby at_89) rfl  k) ?_
      show Goes _ _ _ _ _ _ _ (T261.setTop (mkF m 90 #[.val (.int p0), .val (.int p1), .val (.int p2), .val (.int p3), .val (.int p4), .val (.int p5), .val (.int (3 : Int32)), .val (.int ((((p5.toUInt32 >>> ((2 : Int32) &&& 31).toUInt32).toInt32) &&& (3 : Int32)) % (4 : Int32))), .val (.int (0 : Int32)), .val (.ref b243), .unset, .unset] [(.int p2), (.ref b243)]))
      refine Goes.step (fun _ k => XS.iloadN X261.here hx rfl (hb hby at_90) rfl  k) ?_
      show Goes _ _ _ _ _ _ _ (T261.setTop (mkF m 91 #[.val (.int p0), .val (.int p1), .val (.int p2), .val (.int p3), .val (.int p4), .val (.int p5), .val (.int (3 : Int32)), .val (.int ((((p5.toUInt32 >>> ((2 : Int32) &&& 31).toUInt32).toInt32) &&& (3 : Int32)) % (4 : Int32))), .val (.int (0 : Int32)), .val (.ref b243), .unset, .unset] [(.int p3), (.int p2), (.ref b243)]))
      refine Goes.step (fun _ k => XS.iload X261.here hx rfl (hb hby at_91) rfl  k) ?_
      show Goes _ _ _ _ _ _ _ (T261.setTop (mkF m 93 #[.val (.int p0), .val (.int p1), .val (.int p2), .val (.int p3), .val (.int p4), .val (.int p5), .val (.int (3 : Int32)), .val (.int ((((p5.toUInt32 >>> ((2 : Int32) &&& 31).toUInt32).toInt32) &&& (3 : Int32)) % (4 : Int32))), .val (.int (0 : Int32)), .val (.ref b243), .unset, .unset] [(.int p4), (.int p3), (.int p2), (.ref b243)]))
      refine Goes.step (fun _ k => XS.ixor X261.here hx rfl (hb hby at_93) rfl k) ?_
      show Goes _ _ _ _ _ _ _ (T261.setTop (mkF m 94 #[.val (.int p0), .val (.int p1), .val (.int p2), .val (.int p3), .val (.int p4), .val (.int p5), .val (.int (3 : Int32)), .val (.int ((((p5.toUInt32 >>> ((2 : Int32) &&& 31).toUInt32).toInt32) &&& (3 : Int32)) % (4 : Int32))), .val (.int (0 : Int32)), .val (.ref b243), .unset, .unset] [(.int (p3 ^^^ p4)), (.int p2), (.ref b243)]))
      refine Goes.step (fun _ k => XS.sipush X261.here hx rfl (hb hby at_94) k) ?_
      show Goes _ _ _ _ _ _ _ (T261.setTop (mkF m 97 #[.val (.int p0), .val (.int p1), .val (.int p2), .val (.int p3), .val (.int p4), .val (.int p5), .val (.int (3 : Int32)), .val (.int ((((p5.toUInt32 >>> ((2 : Int32) &&& 31).toUInt32).toInt32) &&& (3 : Int32)) % (4 : Int32))), .val (.int (0 : Int32)), .val (.ref b243), .unset, .unset] [(.int (255 : Int32)), (.int (p3 ^^^ p4)), (.int p2), (.ref b243)]))
      refine Goes.step (fun _ k => XS.iand X261.here hx rfl (hb hby at_97) rfl k) ?_
      show Goes _ _ _ _ _ _ _ (T261.setTop (mkF m 98 #[.val (.int p0), .val (.int p1), .val (.int p2), .val (.int p3), .val (.int p4), .val (.int p5), .val (.int (3 : Int32)), .val (.int ((((p5.toUInt32 >>> ((2 : Int32) &&& 31).toUInt32).toInt32) &&& (3 : Int32)) % (4 : Int32))), .val (.int (0 : Int32)), .val (.ref b243), .unset, .unset] [(.int ((p3 ^^^ p4) &&& (255 : Int32))), (.int p2), (.ref b243)]))
      refine Goes.step (fun _ k => XS.i2dS X261.here hx rfl (hb hby at_98) rfl rfl k) ?_
      show Goes _ _ _ _ _ _ _ (T261.setTop (mkF m 99 #[.val (.int p0), .val (.int p1), .val (.int p2), .val (.int p3), .val (.int p4), .val (.int p5), .val (.int (3 : Int32)), .val (.int ((((p5.toUInt32 >>> ((2 : Int32) &&& 31).toUInt32).toInt32) &&& (3 : Int32)) % (4 : Int32))), .val (.int (0 : Int32)), .val (.ref b243), .unset, .unset] [(.double (FP.i2d ((p3 ^^^ p4) &&& (255 : Int32)))), (.int p2), (.ref b243)]))
      obtain ⟨cq269, kq269, q269a, q269b, q269c⟩ := isOf hZ rfl v261_0_3
      obtain ⟨_, _, ⟨T269, L269, k269, n269⟩, -, X269, ⟨Lc269, hQ269, l269, y269, z269⟩, st269⟩ := X261.virtualBack hx (y := (⟨"com/example/hailwise/hailwise/NodeQueue", "add", "(ID)V"⟩ : MethodName)) (z := (⟨"com/example/hailwise/hailwise/NodeQueue", "add", "(ID)V"⟩ : MethodName)) hown (mvT hZ (hw _ (List.mem_of_getElem? (i := 15) rfl))) (mvT hZ (hw _ (List.mem_of_getElem? (i := 16) rfl))) (notFace_of_selects (args := #[]) (mvT hZ (hw _ (List.mem_of_getElem? (i := 18) rfl)))) (mvT hZ (hw _ (List.mem_of_getElem? (i := 18) rfl))) (mvT hZ (hw _ (List.mem_of_getElem? (i := 17) rfl))) (by decide) (backOf (W := 0) (rm3_2 l Z a0 hw [] b243 p2 (FP.i2d ((p3 ^^^ p4) &&& (255 : Int32))) r245_0_0 r245_0_1 kk245_0_0 kk245_0_1 T261.heap n0 Z268 v261_0_0 v261_0_1 v261_0_2 v261_0_3 v261_0_4 v261_0_5 g_b243 g_r245_0_0 g_r245_0_1 ne251 ne252 (Ne.symm nn245_0_0)) hZ (hw _ (List.mem_of_getElem? (i := 19) rfl)) (hw _ (List.mem_of_getElem? (i := 2) rfl)) (by decide) (by decide)) q269a q269c (g := (mkF m 99 #[.val (.int p0), .val (.int p1), .val (.int p2), .val (.int p3), .val (.int p4), .val (.int p5), .val (.int (3 : Int32)), .val (.int ((((p5.toUInt32 >>> ((2 : Int32) &&& 31).toUInt32).toInt32) &&& (3 : Int32)) % (4 : Int32))), .val (.int (0 : Int32)), .val (.ref b243), .unset, .unset] [(.double (FP.i2d ((p3 ^^^ p4) &&& (255 : Int32)))), (.int p2), (.ref b243)])) rfl (by rw [hml]; rfl) (Steps.refl _) (argsL := [(.int p2), (.double (FP.i2d ((p3 ^^^ p4) &&& (255 : Int32))))]) (rest := []) (lenOf pd_1 rfl) rfl (by show 2 * 0 + _ ≤ _; exact Nat.le_of_eq rfl) (hb hby at_99) (fun _ _ => ⟨rfl, rfl, (by decide : 3 + 0 ≤ _), (by decide : 131 + 0 ≤ _)⟩)
      dsimp only [Pt.U, Pt.locs, Pt.cells, Pt.slots] at X269 l269 y269 z269 st269 hQ269
      subst l269 y269 z269
      obtain ⟨N269, KK269, hR269⟩ := hQ269
      have NA269 := Fr.app NA261 N269
      have f270 := v261_0_3.keep KK269
      have K276 : Keep h0 T269.heap [] := K268.trans KK269 (allS (Or.inr sz_b243) (allS (Or.inr sz_r245_0_0) (allS (Or.inr sz_r245_0_1) all0)))
      have Z276 : n0 ≤ T269.heap.size := Nat.le_trans Z268 KK269.1
      obtain ⟨rfl, v269_0_0, v269_0_1, v269_0_2, v269_0_3, v269_0_4, v269_0_5⟩ := hR269
      refine Goes.back st269 ?_
      show Goes _ _ _ _ _ _ _ (T269.setTop (mkF m 102 #[.val (.int p0), .val (.int p1), .val (.int p2), .val (.int p3), .val (.int p4), .val (.int p5), .val (.int (3 : Int32)), .val (.int ((((p5.toUInt32 >>> ((2 : Int32) &&& 31).toUInt32).toInt32) &&& (3 : Int32)) % (4 : Int32))), .val (.int (0 : Int32)), .val (.ref b243), .unset, .unset] []))
      refine Goes.step (fun _ k => XS.aload X269.here hx rfl (hb hby at_102) rfl rfl k) ?_
      show Goes _ _ _ _ _ _ _ (T269.setTop (mkF m 104 #[.val (.int p0), .val (.int p1), .val (.int p2), .val (.int p3), .val (.int p4), .val (.int p5), .val (.int (3 : Int32)), .val (.int ((((p5.toUInt32 >>> ((2 : Int32) &&& 31).toUInt32).toInt32) &&& (3 : Int32)) % (4 : Int32))), .val (.int (0 : Int32)), .val (.ref b243), .unset, .unset] [(.ref b243)]))
      obtain ⟨cq277, kq277, q277a, q277b, q277c⟩ := isOf hZ rfl v269_0_3
      obtain ⟨_, _, ⟨T277, L277, k277, n277⟩, -, X277, ⟨Lc277, hQ277, l277, y277, z277⟩, st277⟩ := X269.virtualBack hx (y := (⟨"com/example/hailwise/hailwise/NodeQueue", "isEmpty", "()Z"⟩ : MethodName)) (z := (⟨"com/example/hailwise/hailwise/NodeQueue", "isEmpty", "()Z"⟩ : MethodName)) hown (mvT hZ (hw _ (List.mem_of_getElem? (i := 22) rfl))) (mvT hZ (hw _ (List.mem_of_getElem? (i := 23) rfl))) (notFace_of_selects (args := #[]) (mvT hZ (hw _ (List.mem_of_getElem? (i := 25) rfl)))) (mvT hZ (hw _ (List.mem_of_getElem? (i := 25) rfl))) (mvT hZ (hw _ (List.mem_of_getElem? (i := 24) rfl))) (by decide) (backOf (W := 0) (rm4 l Z a0 hw [] b243 (3 : Int32) T269.heap n0 Z276 v269_0_2) hZ (hw _ (List.mem_of_getElem? (i := 26) rfl)) (hw _ (List.mem_of_getElem? (i := 2) rfl)) (by decide) (by decide)) q277a q277c (g := (mkF m 104 #[.val (.int p0), .val (.int p1), .val (.int p2), .val (.int p3), .val (.int p4), .val (.int p5), .val (.int (3 : Int32)), .val (.int ((((p5.toUInt32 >>> ((2 : Int32) &&& 31).toUInt32).toInt32) &&& (3 : Int32)) % (4 : Int32))), .val (.int (0 : Int32)), .val (.ref b243), .unset, .unset] [(.ref b243)])) rfl (by rw [hml]; rfl) (Steps.refl _) (argsL := []) (rest := []) (lenOf pd_2 rfl) rfl (by show 2 * 0 + _ ≤ _; exact Nat.le_of_eq rfl) (hb hby at_104) (fun _ _ => ⟨rfl, rfl, (by decide : 3 + 0 ≤ _), (by decide : 131 + 0 ≤ _)⟩)
      dsimp only [Pt.U, Pt.locs, Pt.cells, Pt.slots] at X277 l277 y277 z277 st277 hQ277
      subst l277 y277 z277
      obtain ⟨N277, eh277, hR277⟩ := hQ277
      have NA277 := Fr.app NA269 N277
      rcases hR277 with ⟨rfl, u277_0_0⟩ | ⟨rfl, u277_1_0⟩
      · exact absurd u277_0_0 (by decide : ¬ ((3 : Int32) = (0 : Int32)))
      · refine Goes.back st277 ?_
        show Goes _ _ _ _ _ _ _ (T277.setTop (mkF m 107 #[.val (.int p0), .val (.int p1), .val (.int p2), .val (.int p3), .val (.int p4), .val (.int p5), .val (.int (3 : Int32)), .val (.int ((((p5.toUInt32 >>> ((2 : Int32) &&& 31).toUInt32).toInt32) &&& (3 : Int32)) % (4 : Int32))), .val (.int (0 : Int32)), .val (.ref b243), .unset, .unset] [(.int (0 : Int32))]))
        refine Goes.step (fun _ k => XS.iload X277.here hx rfl (hb hby at_107) rfl  k) ?_
        show Goes _ _ _ _ _ _ _ (T277.setTop (mkF m 109 #[.val (.int p0), .val (.int p1), .val (.int p2), .val (.int p3), .val (.int p4), .val (.int p5), .val (.int (3 : Int32)), .val (.int ((((p5.toUInt32 >>> ((2 : Int32) &&& 31).toUInt32).toInt32) &&& (3 : Int32)) % (4 : Int32))), .val (.int (0 : Int32)), .val (.ref b243), .unset, .unset] [(.int (3 : Int32)), (.int (0 : Int32))]))
        refine Goes.step (fun _ k => XS.ifYes X277.here hx rfl (pc0 := 109) (pc' := 116) rfl (hb hby at_109) rfl ((if0 _ _).trans (feq (by decide : ¬ ((3 : Int32) = (0 : Int32)))).2) (by decide) (by decide) k) ?_
        show Goes _ _ _ _ _ _ _ (T277.setTop (mkF m 116 #[.val (.int p0), .val (.int p1), .val (.int p2), .val (.int p3), .val (.int p4), .val (.int p5), .val (.int (3 : Int32)), .val (.int ((((p5.toUInt32 >>> ((2 : Int32) &&& 31).toUInt32).toInt32) &&& (3 : Int32)) % (4 : Int32))), .val (.int (0 : Int32)), .val (.ref b243), .unset, .unset] [(.int (0 : Int32))]))
        refine Goes.step (fun _ k => XS.iconst X277.here hx rfl (hb hby at_116) k) ?_
        show Goes _ _ _ _ _ _ _ (T277.setTop (mkF m 117 #[.val (.int p0), .val (.int p1), .val (.int p2), .val (.int p3), .val (.int p4), .val (.int p5), .val (.int (3 : Int32)), .val (.int ((((p5.toUInt32 >>> ((2 : Int32) &&& 31).toUInt32).toInt32) &&& (3 : Int32)) % (4 : Int32))), .val (.int (0 : Int32)), .val (.ref b243), .unset, .unset] [(.int (0 : Int32)), (.int (0 : Int32))]))
        refine Goes.step (fun _ k => XS.icmpNo X277.here hx rfl (hb hby at_117) rfl (teq (by decide : (0 : Int32) = (0 : Int32))).2 k) ?_
        show Goes _ _ _ _ _ _ _ (T277.setTop (mkF m 120 #[.val (.int p0), .val (.int p1), .val (.int p2), .val (.int p3), .val (.int p4), .val (.int p5), .val (.int (3 : Int32)), .val (.int ((((p5.toUInt32 >>> ((2 : Int32) &&& 31).toUInt32).toInt32) &&& (3 : Int32)) % (4 : Int32))), .val (.int (0 : Int32)), .val (.ref b243), .unset, .unset] []))
        refine Goes.step (fun _ k => XS.iconst X277.here hx rfl (hb hby at_120) k) ?_
        show Goes _ _ _ _ _ _ _ (T277.setTop (mkF m 121 #[.val (.int p0), .val (.int p1), .val (.int p2), .val (.int p3), .val (.int p4), .val (.int p5), .val (.int (3 : Int32)), .val (.int ((((p5.toUInt32 >>> ((2 : Int32) &&& 31).toUInt32).toInt32) &&& (3 : Int32)) % (4 : Int32))), .val (.int (0 : Int32)), .val (.ref b243), .unset, .unset] [(.int (1 : Int32))]))
        refine Goes.step (fun _ k => XS.goto X277.here hx rfl (pc0 := 121) (pc' := 125) rfl (hb hby at_121) (by decide) (by decide) k) ?_
        show Goes _ _ _ _ _ _ _ (T277.setTop (mkF m 125 #[.val (.int p0), .val (.int p1), .val (.int p2), .val (.int p3), .val (.int p4), .val (.int p5), .val (.int (3 : Int32)), .val (.int ((((p5.toUInt32 >>> ((2 : Int32) &&& 31).toUInt32).toInt32) &&& (3 : Int32)) % (4 : Int32))), .val (.int (0 : Int32)), .val (.ref b243), .unset, .unset] [(.int (1 : Int32))]))
        refine Goes.step (fun _ k => XS.istore X277.here hx rfl (hb hby at_125) rfl (l' := #[.val (.int p0), .val (.int p1), .val (.int p2), .val (.int p3), .val (.int p4), .val (.int p5), .val (.int (3 : Int32)), .val (.int ((((p5.toUInt32 >>> ((2 : Int32) &&& 31).toUInt32).toInt32) &&& (3 : Int32)) % (4 : Int32))), .val (.int (0 : Int32)), .val (.ref b243), .val (.int (1 : Int32)), .unset]) rfl k) ?_
        show Goes _ _ _ _ _ _ _ (T277.setTop (mkF m 127 #[.val (.int p0), .val (.int p1), .val (.int p2), .val (.int p3), .val (.int p4), .val (.int p5), .val (.int (3 : Int32)), .val (.int ((((p5.toUInt32 >>> ((2 : Int32) &&& 31).toUInt32).toInt32) &&& (3 : Int32)) % (4 : Int32))), .val (.int (0 : Int32)), .val (.ref b243), .val (.int (1 : Int32)), .unset] []))
        generalize hg_m7 : ((((p5.toUInt32 >>> ((2 : Int32) &&& 31).toUInt32).toInt32) &&& (3 : Int32)) % (4 : Int32)) = m7
        show Goes _ _ _ _ _ _ _ (T277.setTop (mkF m 127 #[.val (.int p0), .val (.int p1), .val (.int p2), .val (.int p3), .val (.int p4), .val (.int p5), .val (.int (3 : Int32)), .val (.int m7), .val (.int (0 : Int32)), .val (.ref b243), .val (.int (1 : Int32)), .unset] []))
        rcases own_m4 hg_m7 with rfl | rfl | rfl | rfl
        · show Goes _ _ _ _ _ _ _ (T277.setTop (mkF m 127 #[.val (.int p0), .val (.int p1), .val (.int p2), .val (.int p3), .val (.int p4), .val (.int p5), .val (.int (3 : Int32)), .val (.int (0 : Int32)), .val (.int (0 : Int32)), .val (.ref b243), .val (.int (1 : Int32)), .unset] []))
          refine Goes.step (fun _ k => XS.iload X277.here hx rfl (hb hby at_127) rfl  k) ?_
          show Goes _ _ _ _ _ _ _ (T277.setTop (mkF m 129 #[.val (.int p0), .val (.int p1), .val (.int p2), .val (.int p3), .val (.int p4), .val (.int p5), .val (.int (3 : Int32)), .val (.int (0 : Int32)), .val (.int (0 : Int32)), .val (.ref b243), .val (.int (1 : Int32)), .unset] [(.int (0 : Int32))]))
          refine Goes.step (fun _ k => XS.iconst X277.here hx rfl (hb hby at_129) k) ?_
          show Goes _ _ _ _ _ _ _ (T277.setTop (mkF m 130 #[.val (.int p0), .val (.int p1), .val (.int p2), .val (.int p3), .val (.int p4), .val (.int p5), .val (.int (3 : Int32)), .val (.int (0 : Int32)), .val (.int (0 : Int32)), .val (.ref b243), .val (.int (1 : Int32)), .unset] [(.int (1 : Int32)), (.int (0 : Int32))]))
          refine Goes.step (fun _ k => XS.icmpYes X277.here hx rfl (pc0 := 130) (pc' := 139) rfl (hb hby at_130) rfl (tlt (by decide : (0 : Int32) < (1 : Int32))).1 (by decide) (by decide) k) ?_
          show Goes _ _ _ _ _ _ _ (T277.setTop (mkF m 139 #[.val (.int p0), .val (.int p1), .val (.int p2), .val (.int p3), .val (.int p4), .val (.int p5), .val (.int (3 : Int32)), .val (.int (0 : Int32)), .val (.int (0 : Int32)), .val (.ref b243), .val (.int (1 : Int32)), .unset] []))
          refine Goes.step (fun _ k => XS.iload X277.here hx rfl (hb hby at_139) rfl  k) ?_
          show Goes _ _ _ _ _ _ _ (T277.setTop (mkF m 141 #[.val (.int p0), .val (.int p1), .val (.int p2), .val (.int p3), .val (.int p4), .val (.int p5), .val (.int (3 : Int32)), .val (.int (0 : Int32)), .val (.int (0 : Int32)), .val (.ref b243), .val (.int (1 : Int32)), .unset] [(.int (0 : Int32))]))
          refine Goes.step (fun _ k => XS.iconst X277.here hx rfl (hb hby at_141) k) ?_
          show Goes _ _ _ _ _ _ _ (T277.setTop (mkF m 142 #[.val (.int p0), .val (.int p1), .val (.int p2), .val (.int p3), .val (.int p4), .val (.int p5), .val (.int (3 : Int32)), .val (.int (0 : Int32)), .val (.int (0 : Int32)), .val (.ref b243), .val (.int (1 : Int32)), .unset] [(.int (2 : Int32)), (.int (0 : Int32))]))
          refine Goes.step (fun _ k => XS.icmpYes X277.here hx rfl (pc0 := 142) (pc' := 151) rfl (hb hby at_142) rfl (tlt (by decide : (0 : Int32) < (2 : Int32))).1 (by decide) (by decide) k) ?_
          show Goes _ _ _ _ _ _ _ (T277.setTop (mkF m 151 #[.val (.int p0), .val (.int p1), .val (.int p2), .val (.int p3), .val (.int p4), .val (.int p5), .val (.int (3 : Int32)), .val (.int (0 : Int32)), .val (.int (0 : Int32)), .val (.ref b243), .val (.int (1 : Int32)), .unset] []))
          refine Goes.step (fun _ k => XS.iload X277.here hx rfl (hb hby at_151) rfl  k) ?_
          show Goes _ _ _ _ _ _ _ (T277.setTop (mkF m 153 #[.val (.int p0), .val (.int p1), .val (.int p2), .val (.int p3), .val (.int p4), .val (.int p5), .val (.int (3 : Int32)), .val (.int (0 : Int32)), .val (.int (0 : Int32)), .val (.ref b243), .val (.int (1 : Int32)), .unset] [(.int (0 : Int32))]))
          refine Goes.step (fun _ k => XS.iconst X277.here hx rfl (hb hby at_153) k) ?_
          show Goes _ _ _ _ _ _ _ (T277.setTop (mkF m 154 #[.val (.int p0), .val (.int p1), .val (.int p2), .val (.int p3), .val (.int p4), .val (.int p5), .val (.int (3 : Int32)), .val (.int (0 : Int32)), .val (.int (0 : Int32)), .val (.ref b243), .val (.int (1 : Int32)), .unset] [(.int (3 : Int32)), (.int (0 : Int32))]))
          refine Goes.step (fun _ k => XS.icmpYes X277.here hx rfl (pc0 := 154) (pc' := 163) rfl (hb hby at_154) rfl (tlt (by decide : (0 : Int32) < (3 : Int32))).1 (by decide) (by decide) k) ?_
          show Goes _ _ _ _ _ _ _ (T277.setTop (mkF m 163 #[.val (.int p0), .val (.int p1), .val (.int p2), .val (.int p3), .val (.int p4), .val (.int p5), .val (.int (3 : Int32)), .val (.int (0 : Int32)), .val (.int (0 : Int32)), .val (.ref b243), .val (.int (1 : Int32)), .unset] []))
          refine Goes.step (fun _ k => XS.iload X277.here hx rfl (hb hby at_163) rfl  k) ?_
          show Goes _ _ _ _ _ _ _ (T277.setTop (mkF m 165 #[.val (.int p0), .val (.int p1), .val (.int p2), .val (.int p3), .val (.int p4), .val (.int p5), .val (.int (3 : Int32)), .val (.int (0 : Int32)), .val (.int (0 : Int32)), .val (.ref b243), .val (.int (1 : Int32)), .unset] [(.int (0 : Int32))]))
          refine Goes.step (fun _ k => XS.ifYes X277.here hx rfl (pc0 := 165) (pc' := 173) rfl (hb hby at_165) rfl ((if0 _ _).trans (teq (by decide : (0 : Int32) = (0 : Int32))).1) (by decide) (by decide) k) ?_
          show Goes _ _ _ _ _ _ _ (T277.setTop (mkF m 173 #[.val (.int p0), .val (.int p1), .val (.int p2), .val (.int p3), .val (.int p4), .val (.int p5), .val (.int (3 : Int32)), .val (.int (0 : Int32)), .val (.int (0 : Int32)), .val (.ref b243), .val (.int (1 : Int32)), .unset] []))
          refine Goes.step (fun _ k => XS.iload X277.here hx rfl (hb hby at_173) rfl  k) ?_
          show Goes _ _ _ _ _ _ _ (T277.setTop (mkF m 175 #[.val (.int p0), .val (.int p1), .val (.int p2), .val (.int p3), .val (.int p4), .val (.int p5), .val (.int (3 : Int32)), .val (.int (0 : Int32)), .val (.int (0 : Int32)), .val (.ref b243), .val (.int (1 : Int32)), .unset] [(.int (0 : Int32))]))
          refine Goes.step (fun _ k => XS.ifNo X277.here hx rfl (hb hby at_175) rfl ((if0 _ _).trans (teq (by decide : (0 : Int32) = (0 : Int32))).2) k) ?_
          show Goes _ _ _ _ _ _ _ (T277.setTop (mkF m 178 #[.val (.int p0), .val (.int p1), .val (.int p2), .val (.int p3), .val (.int p4), .val (.int p5), .val (.int (3 : Int32)), .val (.int (0 : Int32)), .val (.int (0 : Int32)), .val (.ref b243), .val (.int (1 : Int32)), .unset] []))
          refine Goes.step (fun _ k => XS.iload X277.here hx rfl (hb hby at_178) rfl  k) ?_
          show Goes _ _ _ _ _ _ _ (T277.setTop (mkF m 180 #[.val (.int p0), .val (.int p1), .val (.int p2), .val (.int p3), .val (.int p4), .val (.int p5), .val (.int (3 : Int32)), .val (.int (0 : Int32)), .val (.int (0 : Int32)), .val (.ref b243), .val (.int (1 : Int32)), .unset] [(.int (3 : Int32))]))
          refine Goes.step (fun _ k => XS.iload X277.here hx rfl (hb hby at_180) rfl  k) ?_
          show Goes _ _ _ _ _ _ _ (T277.setTop (mkF m 182 #[.val (.int p0), .val (.int p1), .val (.int p2), .val (.int p3), .val (.int p4), .val (.int p5), .val (.int (3 : Int32)), .val (.int (0 : Int32)), .val (.int (0 : Int32)), .val (.ref b243), .val (.int (1 : Int32)), .unset] [(.int (0 : Int32)), (.int (3 : Int32))]))
          refine Goes.step (fun _ k => XS.icmpYes X277.here hx rfl (pc0 := 182) (pc' := 189) rfl (hb hby at_182) rfl (feq (by decide : ¬ ((3 : Int32) = (0 : Int32)))).2 (by decide) (by decide) k) ?_
          show Goes _ _ _ _ _ _ _ (T277.setTop (mkF m 189 #[.val (.int p0), .val (.int p1), .val (.int p2), .val (.int p3), .val (.int p4), .val (.int p5), .val (.int (3 : Int32)), .val (.int (0 : Int32)), .val (.int (0 : Int32)), .val (.ref b243), .val (.int (1 : Int32)), .unset] []))
          refine Goes.step (fun _ k => XS.iconst X277.here hx rfl (hb hby at_189) k) ?_
          show Goes _ _ _ _ _ _ _ (T277.setTop (mkF m 190 #[.val (.int p0), .val (.int p1), .val (.int p2), .val (.int p3), .val (.int p4), .val (.int p5), .val (.int (3 : Int32)), .val (.int (0 : Int32)), .val (.int (0 : Int32)), .val (.ref b243), .val (.int (1 : Int32)), .unset] [(.int (0 : Int32))]))
          refine Goes.step (fun _ k => XS.istore X277.here hx rfl (hb hby at_190) rfl (l' := #[.val (.int p0), .val (.int p1), .val (.int p2), .val (.int p3), .val (.int p4), .val (.int p5), .val (.int (3 : Int32)), .val (.int (0 : Int32)), .val (.int (0 : Int32)), .val (.ref b243), .val (.int (1 : Int32)), .val (.int (0 : Int32))]) rfl k) ?_
          show Goes _ _ _ _ _ _ _ (T277.setTop (mkF m 192 #[.val (.int p0), .val (.int p1), .val (.int p2), .val (.int p3), .val (.int p4), .val (.int p5), .val (.int (3 : Int32)), .val (.int (0 : Int32)), .val (.int (0 : Int32)), .val (.ref b243), .val (.int (1 : Int32)), .val (.int (0 : Int32))] []))
          refine Goes.step (fun _ k => XS.iload X277.here hx rfl (hb hby at_192) rfl  k) ?_
          show Goes _ _ _ _ _ _ _ (T277.setTop (mkF m 194 #[.val (.int p0), .val (.int p1), .val (.int p2), .val (.int p3), .val (.int p4), .val (.int p5), .val (.int (3 : Int32)), .val (.int (0 : Int32)), .val (.int (0 : Int32)), .val (.ref b243), .val (.int (1 : Int32)), .val (.int (0 : Int32))] [(.int (1 : Int32))]))
          refine Goes.step (fun _ k => XS.ifNo X277.here hx rfl (hb hby at_194) rfl ((if0 _ _).trans (feq (by decide : ¬ ((1 : Int32) = (0 : Int32)))).1) k) ?_
          show Goes _ _ _ _ _ _ _ (T277.setTop (mkF m 197 #[.val (.int p0), .val (.int p1), .val (.int p2), .val (.int p3), .val (.int p4), .val (.int p5), .val (.int (3 : Int32)), .val (.int (0 : Int32)), .val (.int (0 : Int32)), .val (.ref b243), .val (.int (1 : Int32)), .val (.int (0 : Int32))] []))
          refine Goes.step (fun _ k => XS.aload X277.here hx rfl (hb hby at_197) rfl rfl k) ?_
          show Goes _ _ _ _ _ _ _ (T277.setTop (mkF m 199 #[.val (.int p0), .val (.int p1), .val (.int p2), .val (.int p3), .val (.int p4), .val (.int p5), .val (.int (3 : Int32)), .val (.int (0 : Int32)), .val (.int (0 : Int32)), .val (.ref b243), .val (.int (1 : Int32)), .val (.int (0 : Int32))] [(.ref b243)]))
          obtain ⟨cq278, kq278, q278a, q278b, q278c⟩ := isOf hZ eh277 v269_0_3
          obtain ⟨_, _, ⟨T278, L278, k278, n278⟩, -, X278, ⟨Lc278, hQ278, l278, y278, z278⟩, st278⟩ := X277.virtualBack hx (y := (⟨"com/example/hailwise/hailwise/NodeQueue", "isEmpty", "()Z"⟩ : MethodName)) (z := (⟨"com/example/hailwise/hailwise/NodeQueue", "isEmpty", "()Z"⟩ : MethodName)) hown (mvT hZ (hw _ (List.mem_of_getElem? (i := 22) rfl))) (mvT hZ (hw _ (List.mem_of_getElem? (i := 23) rfl))) (notFace_of_selects (args := #[]) (mvT hZ (hw _ (List.mem_of_getElem? (i := 25) rfl)))) (mvT hZ (hw _ (List.mem_of_getElem? (i := 25) rfl))) (mvT hZ (hw _ (List.mem_of_getElem? (i := 24) rfl))) (by decide) (backOf (W := 0) (rm4 l Z a0 hw [] b243 (3 : Int32) T269.heap n0 Z276 v269_0_2) hZ (hw _ (List.mem_of_getElem? (i := 26) rfl)) (hw _ (List.mem_of_getElem? (i := 2) rfl)) (by decide) (by decide)) q278a q278c (g := (mkF m 199 #[.val (.int p0), .val (.int p1), .val (.int p2), .val (.int p3), .val (.int p4), .val (.int p5), .val (.int (3 : Int32)), .val (.int (0 : Int32)), .val (.int (0 : Int32)), .val (.ref b243), .val (.int (1 : Int32)), .val (.int (0 : Int32))] [(.ref b243)])) rfl (by rw [hml]; rfl) (Steps.refl _) (argsL := []) (rest := []) (lenOf pd_2 rfl) rfl (by show 2 * 0 + _ ≤ _; exact Nat.le_of_eq rfl) (hb hby at_199) (fun _ _ => ⟨rfl, eh277, (by decide : 3 + 0 ≤ _), (by decide : 131 + 0 ≤ _)⟩)
          dsimp only [Pt.U, Pt.locs, Pt.cells, Pt.slots] at X278 l278 y278 z278 st278 hQ278
          subst l278 y278 z278
          obtain ⟨N278, eh278, hR278⟩ := hQ278
          have NA278 := Fr.app NA277 N278
          rcases hR278 with ⟨rfl, u278_0_0⟩ | ⟨rfl, u278_1_0⟩
          · exact absurd u278_0_0 (by decide : ¬ ((3 : Int32) = (0 : Int32)))
          · refine Goes.back st278 ?_
            show Goes _ _ _ _ _ _ _ (T278.setTop (mkF m 202 #[.val (.int p0), .val (.int p1), .val (.int p2), .val (.int p3), .val (.int p4), .val (.int p5), .val (.int (3 : Int32)), .val (.int (0 : Int32)), .val (.int (0 : Int32)), .val (.ref b243), .val (.int (1 : Int32)), .val (.int (0 : Int32))] [(.int (0 : Int32))]))
            refine Goes.step (fun _ k => XS.iload X278.here hx rfl (hb hby at_202) rfl  k) ?_
            show Goes _ _ _ _ _ _ _ (T278.setTop (mkF m 204 #[.val (.int p0), .val (.int p1), .val (.int p2), .val (.int p3), .val (.int p4), .val (.int p5), .val (.int (3 : Int32)), .val (.int (0 : Int32)), .val (.int (0 : Int32)), .val (.ref b243), .val (.int (1 : Int32)), .val (.int (0 : Int32))] [(.int (0 : Int32)), (.int (0 : Int32))]))
            refine Goes.step (fun _ k => XS.icmpNo X278.here hx rfl (hb hby at_204) rfl (teq (by decide : (0 : Int32) = (0 : Int32))).2 k) ?_
            show Goes _ _ _ _ _ _ _ (T278.setTop (mkF m 207 #[.val (.int p0), .val (.int p1), .val (.int p2), .val (.int p3), .val (.int p4), .val (.int p5), .val (.int (3 : Int32)), .val (.int (0 : Int32)), .val (.int (0 : Int32)), .val (.ref b243), .val (.int (1 : Int32)), .val (.int (0 : Int32))] []))
            refine Goes.step (fun _ k => XS.iconst X278.here hx rfl (hb hby at_207) k) ?_
            show Goes _ _ _ _ _ _ _ (T278.setTop (mkF m 208 #[.val (.int p0), .val (.int p1), .val (.int p2), .val (.int p3), .val (.int p4), .val (.int p5), .val (.int (3 : Int32)), .val (.int (0 : Int32)), .val (.int (0 : Int32)), .val (.ref b243), .val (.int (1 : Int32)), .val (.int (0 : Int32))] [(.int (1 : Int32))]))
            refine Goes.step (fun _ k => XS.goto X278.here hx rfl (pc0 := 208) (pc' := 212) rfl (hb hby at_208) (by decide) (by decide) k) ?_
            show Goes _ _ _ _ _ _ _ (T278.setTop (mkF m 212 #[.val (.int p0), .val (.int p1), .val (.int p2), .val (.int p3), .val (.int p4), .val (.int p5), .val (.int (3 : Int32)), .val (.int (0 : Int32)), .val (.int (0 : Int32)), .val (.ref b243), .val (.int (1 : Int32)), .val (.int (0 : Int32))] [(.int (1 : Int32))]))
            refine Goes.step (fun _ k => XS.istore X278.here hx rfl (hb hby at_212) rfl (l' := #[.val (.int p0), .val (.int p1), .val (.int p2), .val (.int p3), .val (.int p4), .val (.int p5), .val (.int (3 : Int32)), .val (.int (0 : Int32)), .val (.int (0 : Int32)), .val (.ref b243), .val (.int (1 : Int32)), .val (.int (0 : Int32))]) rfl k) ?_
            show Goes _ _ _ _ _ _ _ (T278.setTop (mkF m 214 #[.val (.int p0), .val (.int p1), .val (.int p2), .val (.int p3), .val (.int p4), .val (.int p5), .val (.int (3 : Int32)), .val (.int (0 : Int32)), .val (.int (0 : Int32)), .val (.ref b243), .val (.int (1 : Int32)), .val (.int (0 : Int32))] []))
            refine Goes.step (fun _ k => XS.iload X278.here hx rfl (hb hby at_214) rfl  k) ?_
            show Goes _ _ _ _ _ _ _ (T278.setTop (mkF m 216 #[.val (.int p0), .val (.int p1), .val (.int p2), .val (.int p3), .val (.int p4), .val (.int p5), .val (.int (3 : Int32)), .val (.int (0 : Int32)), .val (.int (0 : Int32)), .val (.ref b243), .val (.int (1 : Int32)), .val (.int (0 : Int32))] [(.int (1 : Int32))]))
            exact Goes.ret X278 hx (BodyLoose.notSynchronized Bd) Bd.returns rfl (Or.inl ⟨rfl, by simp, _, rfl⟩) (hb hby at_216) (by show Q0 Z p0 p1 p2 p3 p4 p5 h0 n0 (some (.int (1 : Int32))) T278.heap _; rw [eh278]; exact ⟨rfl, NA278⟩) (by decide) (by decide)
        · show Goes _ _ _ _ _ _ _ (T277.setTop (mkF m 127 #[.val (.int p0), .val (.int p1), .val (.int p2), .val (.int p3), .val (.int p4), .val (.int p5), .val (.int (3 : Int32)), .val (.int (1 : Int32)), .val (.int (0 : Int32)), .val (.ref b243), .val (.int (1 : Int32)), .unset] []))
          refine Goes.step (fun _ k => XS.iload X277.here hx rfl (hb hby at_127) rfl  k) ?_
          show Goes _ _ _ _ _ _ _ (T277.setTop (mkF m 129 #[.val (.int p0), .val (.int p1), .val (.int p2), .val (.int p3), .val (.int p4), .val (.int p5), .val (.int (3 : Int32)), .val (.int (1 : Int32)), .val (.int (0 : Int32)), .val (.ref b243), .val (.int (1 : Int32)), .unset] [(.int (1 : Int32))]))
          refine Goes.step (fun _ k => XS.iconst X277.here hx rfl (hb hby at_129) k) ?_
          show Goes _ _ _ _ _ _ _ (T277.setTop (mkF m 130 #[.val (.int p0), .val (.int p1), .val (.int p2), .val (.int p3), .val (.int p4), .val (.int p5), .val (.int (3 : Int32)), .val (.int (1 : Int32)), .val (.int (0 : Int32)), .val (.ref b243), .val (.int (1 : Int32)), .unset] [(.int (1 : Int32)), (.int (1 : Int32))]))
          refine Goes.step (fun _ k => XS.icmpNo X277.here hx rfl (hb hby at_130) rfl (flt (by decide : ¬ ((1 : Int32) < (1 : Int32)))).1 k) ?_
          show Goes _ _ _ _ _ _ _ (T277.setTop (mkF m 133 #[.val (.int p0), .val (.int p1), .val (.int p2), .val (.int p3), .val (.int p4), .val (.int p5), .val (.int (3 : Int32)), .val (.int (1 : Int32)), .val (.int (0 : Int32)), .val (.ref b243), .val (.int (1 : Int32)), .unset] []))
          refine Goes.step (fun _ k => XS.aload X277.here hx rfl (hb hby at_133) rfl rfl k) ?_
          show Goes _ _ _ _ _ _ _ (T277.setTop (mkF m 135 #[.val (.int p0), .val (.int p1), .val (.int p2), .val (.int p3), .val (.int p4), .val (.int p5), .val (.int (3 : Int32)), .val (.int (1 : Int32)), .val (.int (0 : Int32)), .val (.ref b243), .val (.int (1 : Int32)), .unset] [(.ref b243)]))
          obtain ⟨cq279, kq279, q279a, q279b, q279c⟩ := isOf hZ eh277 v269_0_3
          obtain ⟨_, _, ⟨T279, L279, k279, n279⟩, -, X279, ⟨Lc279, hQ279, l279, y279, z279⟩, st279⟩ := X277.virtualBack hx (y := (⟨"com/example/hailwise/hailwise/NodeQueue", "poll", "()I"⟩ : MethodName)) (z := (⟨"com/example/hailwise/hailwise/NodeQueue", "poll", "()I"⟩ : MethodName)) hown (mvT hZ (hw _ (List.mem_of_getElem? (i := 27) rfl))) (mvT hZ (hw _ (List.mem_of_getElem? (i := 28) rfl))) (notFace_of_selects (args := #[]) (mvT hZ (hw _ (List.mem_of_getElem? (i := 30) rfl)))) (mvT hZ (hw _ (List.mem_of_getElem? (i := 30) rfl))) (mvT hZ (hw _ (List.mem_of_getElem? (i := 29) rfl))) (by decide) (backOf (W := 0) (rm5_3 l Z a0 hw [] b243 r245_0_0 r245_0_1 kk245_0_0 kk245_0_1 T269.heap n0 Z276 v269_0_0 v269_0_1 v269_0_2 v269_0_3 v269_0_4 v269_0_5 g_b243 g_r245_0_0 g_r245_0_1 ne251 ne252 (Ne.symm nn245_0_0)) hZ (hw _ (List.mem_of_getElem? (i := 31) rfl)) (hw _ (List.mem_of_getElem? (i := 2) rfl)) (by decide) (by decide)) q279a q279c (g := (mkF m 135 #[.val (.int p0), .val (.int p1), .val (.int p2), .val (.int p3), .val (.int p4), .val (.int p5), .val (.int (3 : Int32)), .val (.int (1 : Int32)), .val (.int (0 : Int32)), .val (.ref b243), .val (.int (1 : Int32)), .unset] [(.ref b243)])) rfl (by rw [hml]; rfl) (Steps.refl _) (argsL := []) (rest := []) (lenOf pd_3 rfl) rfl (by show 2 * 0 + _ ≤ _; exact Nat.le_of_eq rfl) (hb hby at_135) (fun _ _ => ⟨rfl, eh277, (by decide : 3 + 0 ≤ _), (by decide : 131 + 0 ≤ _)⟩)
          dsimp only [Pt.U, Pt.locs, Pt.cells, Pt.slots] at X279 l279 y279 z279 st279 hQ279
          subst l279 y279 z279
          obtain ⟨N279, KK279, hR279⟩ := hQ279
          have NA279 := Fr.app NA277 N279
          have f280 := v269_0_3.keep KK279
          have K286 : Keep h0 T279.heap [] := K276.trans KK279 (allS (Or.inr sz_b243) (allS (Or.inr sz_r245_0_0) (allS (Or.inr sz_r245_0_1) all0)))
          have Z286 : n0 ≤ T279.heap.size := Nat.le_trans Z276 KK279.1
          obtain ⟨rv279_0, rfl, v279_0_0, v279_0_1, v279_0_2, v279_0_3, v279_0_4, v279_0_5⟩ := hR279
          refine Goes.back st279 ?_
          show Goes _ _ _ _ _ _ _ (T279.setTop (mkF m 138 #[.val (.int p0), .val (.int p1), .val (.int p2), .val (.int p3), .val (.int p4), .val (.int p5), .val (.int (3 : Int32)), .val (.int (1 : Int32)), .val (.int (0 : Int32)), .val (.ref b243), .val (.int (1 : Int32)), .unset] [(.int rv279_0)]))
          refine Goes.step (fun _ k => XS.pop X279.here hx rfl (hb hby at_138) rfl rfl k) ?_
          show Goes _ _ _ _ _ _ _ (T279.setTop (mkF m 139 #[.val (.int p0), .val (.int p1), .val (.int p2), .val (.int p3), .val (.int p4), .val (.int p5), .val (.int (3 : Int32)), .val (.int (1 : Int32)), .val (.int (0 : Int32)), .val (.ref b243), .val (.int (1 : Int32)), .unset] []))
          refine Goes.step (fun _ k => XS.iload X279.here hx rfl (hb hby at_139) rfl  k) ?_
          show Goes _ _ _ _ _ _ _ (T279.setTop (mkF m 141 #[.val (.int p0), .val (.int p1), .val (.int p2), .val (.int p3), .val (.int p4), .val (.int p5), .val (.int (3 : Int32)), .val (.int (1 : Int32)), .val (.int (0 : Int32)), .val (.ref b243), .val (.int (1 : Int32)), .unset] [(.int (1 : Int32))]))
          refine Goes.step (fun _ k => XS.iconst X279.here hx rfl (hb hby at_141) k) ?_
          show Goes _ _ _ _ _ _ _ (T279.setTop (mkF m 142 #[.val (.int p0), .val (.int p1), .val (.int p2), .val (.int p3), .val (.int p4), .val (.int p5), .val (.int (3 : Int32)), .val (.int (1 : Int32)), .val (.int (0 : Int32)), .val (.ref b243), .val (.int (1 : Int32)), .unset] [(.int (2 : Int32)), (.int (1 : Int32))]))
          refine Goes.step (fun _ k => XS.icmpYes X279.here hx rfl (pc0 := 142) (pc' := 151) rfl (hb hby at_142) rfl (tlt (by decide : (1 : Int32) < (2 : Int32))).1 (by decide) (by decide) k) ?_
          show Goes _ _ _ _ _ _ _ (T279.setTop (mkF m 151 #[.val (.int p0), .val (.int p1), .val (.int p2), .val (.int p3), .val (.int p4), .val (.int p5), .val (.int (3 : Int32)), .val (.int (1 : Int32)), .val (.int (0 : Int32)), .val (.ref b243), .val (.int (1 : Int32)), .unset] []))
          refine Goes.step (fun _ k => XS.iload X279.here hx rfl (hb hby at_151) rfl  k) ?_
          show Goes _ _ _ _ _ _ _ (T279.setTop (mkF m 153 #[.val (.int p0), .val (.int p1), .val (.int p2), .val (.int p3), .val (.int p4), .val (.int p5), .val (.int (3 : Int32)), .val (.int (1 : Int32)), .val (.int (0 : Int32)), .val (.ref b243), .val (.int (1 : Int32)), .unset] [(.int (1 : Int32))]))
          refine Goes.step (fun _ k => XS.iconst X279.here hx rfl (hb hby at_153) k) ?_
          show Goes _ _ _ _ _ _ _ (T279.setTop (mkF m 154 #[.val (.int p0), .val (.int p1), .val (.int p2), .val (.int p3), .val (.int p4), .val (.int p5), .val (.int (3 : Int32)), .val (.int (1 : Int32)), .val (.int (0 : Int32)), .val (.ref b243), .val (.int (1 : Int32)), .unset] [(.int (3 : Int32)), (.int (1 : Int32))]))
          refine Goes.step (fun _ k => XS.icmpYes X279.here hx rfl (pc0 := 154) (pc' := 163) rfl (hb hby at_154) rfl (tlt (by decide : (1 : Int32) < (3 : Int32))).1 (by decide) (by decide) k) ?_
          show Goes _ _ _ _ _ _ _ (T279.setTop (mkF m 163 #[.val (.int p0), .val (.int p1), .val (.int p2), .val (.int p3), .val (.int p4), .val (.int p5), .val (.int (3 : Int32)), .val (.int (1 : Int32)), .val (.int (0 : Int32)), .val (.ref b243), .val (.int (1 : Int32)), .unset] []))
          refine Goes.step (fun _ k => XS.iload X279.here hx rfl (hb hby at_163) rfl  k) ?_
          show Goes _ _ _ _ _ _ _ (T279.setTop (mkF m 165 #[.val (.int p0), .val (.int p1), .val (.int p2), .val (.int p3), .val (.int p4), .val (.int p5), .val (.int (3 : Int32)), .val (.int (1 : Int32)), .val (.int (0 : Int32)), .val (.ref b243), .val (.int (1 : Int32)), .unset] [(.int (0 : Int32))]))
          refine Goes.step (fun _ k => XS.ifYes X279.here hx rfl (pc0 := 165) (pc' := 173) rfl (hb hby at_165) rfl ((if0 _ _).trans (teq (by decide : (0 : Int32) = (0 : Int32))).1) (by decide) (by decide) k) ?_
          show Goes _ _ _ _ _ _ _ (T279.setTop (mkF m 173 #[.val (.int p0), .val (.int p1), .val (.int p2), .val (.int p3), .val (.int p4), .val (.int p5), .val (.int (3 : Int32)), .val (.int (1 : Int32)), .val (.int (0 : Int32)), .val (.ref b243), .val (.int (1 : Int32)), .unset] []))
          refine Goes.step (fun _ k => XS.iload X279.here hx rfl (hb hby at_173) rfl  k) ?_
          show Goes _ _ _ _ _ _ _ (T279.setTop (mkF m 175 #[.val (.int p0), .val (.int p1), .val (.int p2), .val (.int p3), .val (.int p4), .val (.int p5), .val (.int (3 : Int32)), .val (.int (1 : Int32)), .val (.int (0 : Int32)), .val (.ref b243), .val (.int (1 : Int32)), .unset] [(.int (0 : Int32))]))
          refine Goes.step (fun _ k => XS.ifNo X279.here hx rfl (hb hby at_175) rfl ((if0 _ _).trans (teq (by decide : (0 : Int32) = (0 : Int32))).2) k) ?_
          show Goes _ _ _ _ _ _ _ (T279.setTop (mkF m 178 #[.val (.int p0), .val (.int p1), .val (.int p2), .val (.int p3), .val (.int p4), .val (.int p5), .val (.int (3 : Int32)), .val (.int (1 : Int32)), .val (.int (0 : Int32)), .val (.ref b243), .val (.int (1 : Int32)), .unset] []))
          refine Goes.step (fun _ k => XS.iload X279.here hx rfl (hb hby at_178) rfl  k) ?_
          show Goes _ _ _ _ _ _ _ (T279.setTop (mkF m 180 #[.val (.int p0), .val (.int p1), .val (.int p2), .val (.int p3), .val (.int p4), .val (.int p5), .val (.int (3 : Int32)), .val (.int (1 : Int32)), .val (.int (0 : Int32)), .val (.ref b243), .val (.int (1 : Int32)), .unset] [(.int (3 : Int32))]))
          refine Goes.step (fun _ k => XS.iload X279.here hx rfl (hb hby at_180) rfl  k) ?_
          show Goes _ _ _ _ _ _ _ (T279.setTop (mkF m 182 #[.val (.int p0), .val (.int p1), .val (.int p2), .val (.int p3), .val (.int p4), .val (.int p5), .val (.int (3 : Int32)), .val (.int (1 : Int32)), .val (.int (0 : Int32)), .val (.ref b243), .val (.int (1 : Int32)), .unset] [(.int (1 : Int32)), (.int (3 : Int32))]))
          refine Goes.step (fun _ k => XS.icmpYes X279.here hx rfl (pc0 := 182) (pc' := 189) rfl (hb hby at_182) rfl (feq (by decide : ¬ ((3 : Int32) = (1 : Int32)))).2 (by decide) (by decide) k) ?_
          show Goes _ _ _ _ _ _ _ (T279.setTop (mkF m 189 #[.val (.int p0), .val (.int p1), .val (.int p2), .val (.int p3), .val (.int p4), .val (.int p5), .val (.int (3 : Int32)), .val (.int (1 : Int32)), .val (.int (0 : Int32)), .val (.ref b243), .val (.int (1 : Int32)), .unset] []))
          refine Goes.step (fun _ k => XS.iconst X279.here hx rfl (hb hby at_189) k) ?_
          show Goes _ _ _ _ _ _ _ (T279.setTop (mkF m 190 #[.val (.int p0), .val (.int p1), .val (.int p2), .val (.int p3), .val (.int p4), .val (.int p5), .val (.int (3 : Int32)), .val (.int (1 : Int32)), .val (.int (0 : Int32)), .val (.ref b243), .val (.int (1 : Int32)), .unset] [(.int (0 : Int32))]))
          refine Goes.step (fun _ k => XS.istore X279.here hx rfl (hb hby at_190) rfl (l' := #[.val (.int p0), .val (.int p1), .val (.int p2), .val (.int p3), .val (.int p4), .val (.int p5), .val (.int (3 : Int32)), .val (.int (1 : Int32)), .val (.int (0 : Int32)), .val (.ref b243), .val (.int (1 : Int32)), .val (.int (0 : Int32))]) rfl k) ?_
          show Goes _ _ _ _ _ _ _ (T279.setTop (mkF m 192 #[.val (.int p0), .val (.int p1), .val (.int p2), .val (.int p3), .val (.int p4), .val (.int p5), .val (.int (3 : Int32)), .val (.int (1 : Int32)), .val (.int (0 : Int32)), .val (.ref b243), .val (.int (1 : Int32)), .val (.int (0 : Int32))] []))
          refine Goes.step (fun _ k => XS.iload X279.here hx rfl (hb hby at_192) rfl  k) ?_
          show Goes _ _ _ _ _ _ _ (T279.setTop (mkF m 194 #[.val (.int p0), .val (.int p1), .val (.int p2), .val (.int p3), .val (.int p4), .val (.int p5), .val (.int (3 : Int32)), .val (.int (1 : Int32)), .val (.int (0 : Int32)), .val (.ref b243), .val (.int (1 : Int32)), .val (.int (0 : Int32))] [(.int (1 : Int32))]))
          refine Goes.step (fun _ k => XS.ifNo X279.here hx rfl (hb hby at_194) rfl ((if0 _ _).trans (feq (by decide : ¬ ((1 : Int32) = (0 : Int32)))).1) k) ?_
          show Goes _ _ _ _ _ _ _ (T279.setTop (mkF m 197 #[.val (.int p0), .val (.int p1), .val (.int p2), .val (.int p3), .val (.int p4), .val (.int p5), .val (.int (3 : Int32)), .val (.int (1 : Int32)), .val (.int (0 : Int32)), .val (.ref b243), .val (.int (1 : Int32)), .val (.int (0 : Int32))] []))
          refine Goes.step (fun _ k => XS.aload X279.here hx rfl (hb hby at_197) rfl rfl k) ?_
          show Goes _ _ _ _ _ _ _ (T279.setTop (mkF m 199 #[.val (.int p0), .val (.int p1), .val (.int p2), .val (.int p3), .val (.int p4), .val (.int p5), .val (.int (3 : Int32)), .val (.int (1 : Int32)), .val (.int (0 : Int32)), .val (.ref b243), .val (.int (1 : Int32)), .val (.int (0 : Int32))] [(.ref b243)]))
          obtain ⟨cq287, kq287, q287a, q287b, q287c⟩ := isOf hZ rfl v279_0_3
          obtain ⟨_, _, ⟨T287, L287, k287, n287⟩, -, X287, ⟨Lc287, hQ287, l287, y287, z287⟩, st287⟩ := X279.virtualBack hx (y := (⟨"com/example/hailwise/hailwise/NodeQueue", "isEmpty", "()Z"⟩ : MethodName)) (z := (⟨"com/example/hailwise/hailwise/NodeQueue", "isEmpty", "()Z"⟩ : MethodName)) hown (mvT hZ (hw _ (List.mem_of_getElem? (i := 22) rfl))) (mvT hZ (hw _ (List.mem_of_getElem? (i := 23) rfl))) (notFace_of_selects (args := #[]) (mvT hZ (hw _ (List.mem_of_getElem? (i := 25) rfl)))) (mvT hZ (hw _ (List.mem_of_getElem? (i := 25) rfl))) (mvT hZ (hw _ (List.mem_of_getElem? (i := 24) rfl))) (by decide) (backOf (W := 0) (rm4 l Z a0 hw [] b243 (2 : Int32) T279.heap n0 Z286 v279_0_2) hZ (hw _ (List.mem_of_getElem? (i := 26) rfl)) (hw _ (List.mem_of_getElem? (i := 2) rfl)) (by decide) (by decide)) q287a q287c (g := (mkF m 199 #[.val (.int p0), .val (.int p1), .val (.int p2), .val (.int p3), .val (.int p4), .val (.int p5), .val (.int (3 : Int32)), .val (.int (1 : Int32)), .val (.int (0 : Int32)), .val (.ref b243), .val (.int (1 : Int32)), .val (.int (0 : Int32))] [(.ref b243)])) rfl (by rw [hml]; rfl) (Steps.refl _) (argsL := []) (rest := []) (lenOf pd_2 rfl) rfl (by show 2 * 0 + _ ≤ _; exact Nat.le_of_eq rfl) (hb hby at_199) (fun _ _ => ⟨rfl, rfl, (by decide : 3 + 0 ≤ _), (by decide : 131 + 0 ≤ _)⟩)
          dsimp only [Pt.U, Pt.locs, Pt.cells, Pt.slots] at X287 l287 y287 z287 st287 hQ287
          subst l287 y287 z287
          obtain ⟨N287, eh287, hR287⟩ := hQ287
          have NA287 := Fr.app NA279 N287
          rcases hR287 with ⟨rfl, u287_0_0⟩ | ⟨rfl, u287_1_0⟩
          · exact absurd u287_0_0 (by decide : ¬ ((2 : Int32) = (0 : Int32)))
          · refine Goes.back st287 ?_
            show Goes _ _ _ _ _ _ _ (T287.setTop (mkF m 202 #[.val (.int p0), .val (.int p1), .val (.int p2), .val (.int p3), .val (.int p4), .val (.int p5), .val (.int (3 : Int32)), .val (.int (1 : Int32)), .val (.int (0 : Int32)), .val (.ref b243), .val (.int (1 : Int32)), .val (.int (0 : Int32))] [(.int (0 : Int32))]))
            refine Goes.step (fun _ k => XS.iload X287.here hx rfl (hb hby at_202) rfl  k) ?_
            show Goes _ _ _ _ _ _ _ (T287.setTop (mkF m 204 #[.val (.int p0), .val (.int p1), .val (.int p2), .val (.int p3), .val (.int p4), .val (.int p5), .val (.int (3 : Int32)), .val (.int (1 : Int32)), .val (.int (0 : Int32)), .val (.ref b243), .val (.int (1 : Int32)), .val (.int (0 : Int32))] [(.int (0 : Int32)), (.int (0 : Int32))]))
            refine Goes.step (fun _ k => XS.icmpNo X287.here hx rfl (hb hby at_204) rfl (teq (by decide : (0 : Int32) = (0 : Int32))).2 k) ?_
            show Goes _ _ _ _ _ _ _ (T287.setTop (mkF m 207 #[.val (.int p0), .val (.int p1), .val (.int p2), .val (.int p3), .val (.int p4), .val (.int p5), .val (.int (3 : Int32)), .val (.int (1 : Int32)), .val (.int (0 : Int32)), .val (.ref b243), .val (.int (1 : Int32)), .val (.int (0 : Int32))] []))
            refine Goes.step (fun _ k => XS.iconst X287.here hx rfl (hb hby at_207) k) ?_
            show Goes _ _ _ _ _ _ _ (T287.setTop (mkF m 208 #[.val (.int p0), .val (.int p1), .val (.int p2), .val (.int p3), .val (.int p4), .val (.int p5), .val (.int (3 : Int32)), .val (.int (1 : Int32)), .val (.int (0 : Int32)), .val (.ref b243), .val (.int (1 : Int32)), .val (.int (0 : Int32))] [(.int (1 : Int32))]))
            refine Goes.step (fun _ k => XS.goto X287.here hx rfl (pc0 := 208) (pc' := 212) rfl (hb hby at_208) (by decide) (by decide) k) ?_
            show Goes _ _ _ _ _ _ _ (T287.setTop (mkF m 212 #[.val (.int p0), .val (.int p1), .val (.int p2), .val (.int p3), .val (.int p4), .val (.int p5), .val (.int (3 : Int32)), .val (.int (1 : Int32)), .val (.int (0 : Int32)), .val (.ref b243), .val (.int (1 : Int32)), .val (.int (0 : Int32))] [(.int (1 : Int32))]))
            refine Goes.step (fun _ k => XS.istore X287.here hx rfl (hb hby at_212) rfl (l' := #[.val (.int p0), .val (.int p1), .val (.int p2), .val (.int p3), .val (.int p4), .val (.int p5), .val (.int (3 : Int32)), .val (.int (1 : Int32)), .val (.int (0 : Int32)), .val (.ref b243), .val (.int (1 : Int32)), .val (.int (0 : Int32))]) rfl k) ?_
            show Goes _ _ _ _ _ _ _ (T287.setTop (mkF m 214 #[.val (.int p0), .val (.int p1), .val (.int p2), .val (.int p3), .val (.int p4), .val (.int p5), .val (.int (3 : Int32)), .val (.int (1 : Int32)), .val (.int (0 : Int32)), .val (.ref b243), .val (.int (1 : Int32)), .val (.int (0 : Int32))] []))
            refine Goes.step (fun _ k => XS.iload X287.here hx rfl (hb hby at_214) rfl  k) ?_
            show Goes _ _ _ _ _ _ _ (T287.setTop (mkF m 216 #[.val (.int p0), .val (.int p1), .val (.int p2), .val (.int p3), .val (.int p4), .val (.int p5), .val (.int (3 : Int32)), .val (.int (1 : Int32)), .val (.int (0 : Int32)), .val (.ref b243), .val (.int (1 : Int32)), .val (.int (0 : Int32))] [(.int (1 : Int32))]))
            exact Goes.ret X287 hx (BodyLoose.notSynchronized Bd) Bd.returns rfl (Or.inl ⟨rfl, by simp, _, rfl⟩) (hb hby at_216) (by show Q0 Z p0 p1 p2 p3 p4 p5 h0 n0 (some (.int (1 : Int32))) T287.heap _; rw [eh287]; exact ⟨rfl, NA287⟩) (by decide) (by decide)
        · show Goes _ _ _ _ _ _ _ (T277.setTop (mkF m 127 #[.val (.int p0), .val (.int p1), .val (.int p2), .val (.int p3), .val (.int p4), .val (.int p5), .val (.int (3 : Int32)), .val (.int (2 : Int32)), .val (.int (0 : Int32)), .val (.ref b243), .val (.int (1 : Int32)), .unset] []))
          refine Goes.step (fun _ k => XS.iload X277.here hx rfl (hb hby at_127) rfl  k) ?_
          show Goes _ _ _ _ _ _ _ (T277.setTop (mkF m 129 #[.val (.int p0), .val (.int p1), .val (.int p2), .val (.int p3), .val (.int p4), .val (.int p5), .val (.int (3 : Int32)), .val (.int (2 : Int32)), .val (.int (0 : Int32)), .val (.ref b243), .val (.int (1 : Int32)), .unset] [(.int (2 : Int32))]))
          refine Goes.step (fun _ k => XS.iconst X277.here hx rfl (hb hby at_129) k) ?_
          show Goes _ _ _ _ _ _ _ (T277.setTop (mkF m 130 #[.val (.int p0), .val (.int p1), .val (.int p2), .val (.int p3), .val (.int p4), .val (.int p5), .val (.int (3 : Int32)), .val (.int (2 : Int32)), .val (.int (0 : Int32)), .val (.ref b243), .val (.int (1 : Int32)), .unset] [(.int (1 : Int32)), (.int (2 : Int32))]))
          refine Goes.step (fun _ k => XS.icmpNo X277.here hx rfl (hb hby at_130) rfl (flt (by decide : ¬ ((2 : Int32) < (1 : Int32)))).1 k) ?_
          show Goes _ _ _ _ _ _ _ (T277.setTop (mkF m 133 #[.val (.int p0), .val (.int p1), .val (.int p2), .val (.int p3), .val (.int p4), .val (.int p5), .val (.int (3 : Int32)), .val (.int (2 : Int32)), .val (.int (0 : Int32)), .val (.ref b243), .val (.int (1 : Int32)), .unset] []))
          refine Goes.step (fun _ k => XS.aload X277.here hx rfl (hb hby at_133) rfl rfl k) ?_
          show Goes _ _ _ _ _ _ _ (T277.setTop (mkF m 135 #[.val (.int p0), .val (.int p1), .val (.int p2), .val (.int p3), .val (.int p4), .val (.int p5), .val (.int (3 : Int32)), .val (.int (2 : Int32)), .val (.int (0 : Int32)), .val (.ref b243), .val (.int (1 : Int32)), .unset] [(.ref b243)]))
          obtain ⟨cq288, kq288, q288a, q288b, q288c⟩ := isOf hZ eh277 v269_0_3
          obtain ⟨_, _, ⟨T288, L288, k288, n288⟩, -, X288, ⟨Lc288, hQ288, l288, y288, z288⟩, st288⟩ := X277.virtualBack hx (y := (⟨"com/example/hailwise/hailwise/NodeQueue", "poll", "()I"⟩ : MethodName)) (z := (⟨"com/example/hailwise/hailwise/NodeQueue", "poll", "()I"⟩ : MethodName)) hown (mvT hZ (hw _ (List.mem_of_getElem? (i := 27) rfl))) (mvT hZ (hw _ (List.mem_of_getElem? (i := 28) rfl))) (notFace_of_selects (args := #[]) (mvT hZ (hw _ (List.mem_of_getElem? (i := 30) rfl)))) (mvT hZ (hw _ (List.mem_of_getElem? (i := 30) rfl))) (mvT hZ (hw _ (List.mem_of_getElem? (i := 29) rfl))) (by decide) (backOf (W := 0) (rm5_3 l Z a0 hw [] b243 r245_0_0 r245_0_1 kk245_0_0 kk245_0_1 T269.heap n0 Z276 v269_0_0 v269_0_1 v269_0_2 v269_0_3 v269_0_4 v269_0_5 g_b243 g_r245_0_0 g_r245_0_1 ne251 ne252 (Ne.symm nn245_0_0)) hZ (hw _ (List.mem_of_getElem? (i := 31) rfl)) (hw _ (List.mem_of_getElem? (i := 2) rfl)) (by decide) (by decide)) q288a q288c (g := (mkF m 135 #[.val (.int p0), .val (.int p1), .val (.int p2), .val (.int p3), .val (.int p4), .val (.int p5), .val (.int (3 : Int32)), .val (.int (2 : Int32)), .val (.int (0 : Int32)), .val (.ref b243), .val (.int (1 : Int32)), .unset] [(.ref b243)])) rfl (by rw [hml]; rfl) (Steps.refl _) (argsL := []) (rest := []) (lenOf pd_3 rfl) rfl (by show 2 * 0 + _ ≤ _; exact Nat.le_of_eq rfl) (hb hby at_135) (fun _ _ => ⟨rfl, eh277, (by decide : 3 + 0 ≤ _), (by decide : 131 + 0 ≤ _)⟩)
          dsimp only [Pt.U, Pt.locs, Pt.cells, Pt.slots] at X288 l288 y288 z288 st288 hQ288
          subst l288 y288 z288
          obtain ⟨N288, KK288, hR288⟩ := hQ288
          have NA288 := Fr.app NA277 N288
          have f289 := v269_0_3.keep KK288
          have K295 : Keep h0 T288.heap [] := K276.trans KK288 (allS (Or.inr sz_b243) (allS (Or.inr sz_r245_0_0) (allS (Or.inr sz_r245_0_1) all0)))
          have Z295 : n0 ≤ T288.heap.size := Nat.le_trans Z276 KK288.1
          obtain ⟨rv288_0, rfl, v288_0_0, v288_0_1, v288_0_2, v288_0_3, v288_0_4, v288_0_5⟩ := hR288
          refine Goes.back st288 ?_
          show Goes _ _ _ _ _ _ _ (T288.setTop (mkF m 138 #[.val (.int p0), .val (.int p1), .val (.int p2), .val (.int p3), .val (.int p4), .val (.int p5), .val (.int (3 : Int32)), .val (.int (2 : Int32)), .val (.int (0 : Int32)), .val (.ref b243), .val (.int (1 : Int32)), .unset] [(.int rv288_0)]))
          refine Goes.step (fun _ k => XS.pop X288.here hx rfl (hb hby at_138) rfl rfl k) ?_
          show Goes _ _ _ _ _ _ _ (T288.setTop (mkF m 139 #[.val (.int p0), .val (.int p1), .val (.int p2), .val (.int p3), .val (.int p4), .val (.int p5), .val (.int (3 : Int32)), .val (.int (2 : Int32)), .val (.int (0 : Int32)), .val (.ref b243), .val (.int (1 : Int32)), .unset] []))
          refine Goes.step (fun _ k => XS.iload X288.here hx rfl (hb hby at_139) rfl  k) ?_
          show Goes _ _ _ _ _ _ _ (T288.setTop (mkF m 141 #[.val (.int p0), .val (.int p1), .val (.int p2), .val (.int p3), .val (.int p4), .val (.int p5), .val (.int (3 : Int32)), .val (.int (2 : Int32)), .val (.int (0 : Int32)), .val (.ref b243), .val (.int (1 : Int32)), .unset] [(.int (2 : Int32))]))
          refine Goes.step (fun _ k => XS.iconst X288.here hx rfl (hb hby at_141) k) ?_
          show Goes _ _ _ _ _ _ _ (T288.setTop (mkF m 142 #[.val (.int p0), .val (.int p1), .val (.int p2), .val (.int p3), .val (.int p4), .val (.int p5), .val (.int (3 : Int32)), .val (.int (2 : Int32)), .val (.int (0 : Int32)), .val (.ref b243), .val (.int (1 : Int32)), .unset] [(.int (2 : Int32)), (.int (2 : Int32))]))
          refine Goes.step (fun _ k => XS.icmpNo X288.here hx rfl (hb hby at_142) rfl (flt (by decide : ¬ ((2 : Int32) < (2 : Int32)))).1 k) ?_
          show Goes _ _ _ _ _ _ _ (T288.setTop (mkF m 145 #[.val (.int p0), .val (.int p1), .val (.int p2), .val (.int p3), .val (.int p4), .val (.int p5), .val (.int (3 : Int32)), .val (.int (2 : Int32)), .val (.int (0 : Int32)), .val (.ref b243), .val (.int (1 : Int32)), .unset] []))
          refine Goes.step (fun _ k => XS.aload X288.here hx rfl (hb hby at_145) rfl rfl k) ?_
          show Goes _ _ _ _ _ _ _ (T288.setTop (mkF m 147 #[.val (.int p0), .val (.int p1), .val (.int p2), .val (.int p3), .val (.int p4), .val (.int p5), .val (.int (3 : Int32)), .val (.int (2 : Int32)), .val (.int (0 : Int32)), .val (.ref b243), .val (.int (1 : Int32)), .unset] [(.ref b243)]))
          obtain ⟨cq296, kq296, q296a, q296b, q296c⟩ := isOf hZ rfl v288_0_3
          obtain ⟨_, _, ⟨T296, L296, k296, n296⟩, -, X296, ⟨Lc296, hQ296, l296, y296, z296⟩, st296⟩ := X288.virtualBack hx (y := (⟨"com/example/hailwise/hailwise/NodeQueue", "poll", "()I"⟩ : MethodName)) (z := (⟨"com/example/hailwise/hailwise/NodeQueue", "poll", "()I"⟩ : MethodName)) hown (mvT hZ (hw _ (List.mem_of_getElem? (i := 27) rfl))) (mvT hZ (hw _ (List.mem_of_getElem? (i := 28) rfl))) (notFace_of_selects (args := #[]) (mvT hZ (hw _ (List.mem_of_getElem? (i := 30) rfl)))) (mvT hZ (hw _ (List.mem_of_getElem? (i := 30) rfl))) (mvT hZ (hw _ (List.mem_of_getElem? (i := 29) rfl))) (by decide) (backOf (W := 0) (rm5_2 l Z a0 hw [] b243 r245_0_0 r245_0_1 kk245_0_0 kk245_0_1 T288.heap n0 Z295 v288_0_0 v288_0_1 v288_0_2 v288_0_3 v288_0_4 v288_0_5 g_b243 g_r245_0_0 g_r245_0_1 ne251 ne252 (Ne.symm nn245_0_0)) hZ (hw _ (List.mem_of_getElem? (i := 31) rfl)) (hw _ (List.mem_of_getElem? (i := 2) rfl)) (by decide) (by decide)) q296a q296c (g := (mkF m 147 #[.val (.int p0), .val (.int p1), .val (.int p2), .val (.int p3), .val (.int p4), .val (.int p5), .val (.int (3 : Int32)), .val (.int (2 : Int32)), .val (.int (0 : Int32)), .val (.ref b243), .val (.int (1 : Int32)), .unset] [(.ref b243)])) rfl (by rw [hml]; rfl) (Steps.refl _) (argsL := []) (rest := []) (lenOf pd_3 rfl) rfl (by show 2 * 0 + _ ≤ _; exact Nat.le_of_eq rfl) (hb hby at_147) (fun _ _ => ⟨rfl, rfl, (by decide : 3 + 0 ≤ _), (by decide : 131 + 0 ≤ _)⟩)
          dsimp only [Pt.U, Pt.locs, Pt.cells, Pt.slots] at X296 l296 y296 z296 st296 hQ296
          subst l296 y296 z296
          obtain ⟨N296, KK296, hR296⟩ := hQ296
          have NA296 := Fr.app NA288 N296
          have f297 := v288_0_3.keep KK296
          have K303 : Keep h0 T296.heap [] := K295.trans KK296 (allS (Or.inr sz_b243) (allS (Or.inr sz_r245_0_0) (allS (Or.inr sz_r245_0_1) all0)))
          have Z303 : n0 ≤ T296.heap.size := Nat.le_trans Z295 KK296.1
          obtain ⟨rv296_0, rfl, v296_0_0, v296_0_1, v296_0_2, v296_0_3, v296_0_4, v296_0_5⟩ := hR296
          refine Goes.back st296 ?_
          show Goes _ _ _ _ _ _ _ (T296.setTop (mkF m 150 #[.val (.int p0), .val (.int p1), .val (.int p2), .val (.int p3), .val (.int p4), .val (.int p5), .val (.int (3 : Int32)), .val (.int (2 : Int32)), .val (.int (0 : Int32)), .val (.ref b243), .val (.int (1 : Int32)), .unset] [(.int rv296_0)]))
          refine Goes.step (fun _ k => XS.pop X296.here hx rfl (hb hby at_150) rfl rfl k) ?_
          show Goes _ _ _ _ _ _ _ (T296.setTop (mkF m 151 #[.val (.int p0), .val (.int p1), .val (.int p2), .val (.int p3), .val (.int p4), .val (.int p5), .val (.int (3 : Int32)), .val (.int (2 : Int32)), .val (.int (0 : Int32)), .val (.ref b243), .val (.int (1 : Int32)), .unset] []))
          refine Goes.step (fun _ k => XS.iload X296.here hx rfl (hb hby at_151) rfl  k) ?_
          show Goes _ _ _ _ _ _ _ (T296.setTop (mkF m 153 #[.val (.int p0), .val (.int p1), .val (.int p2), .val (.int p3), .val (.int p4), .val (.int p5), .val (.int (3 : Int32)), .val (.int (2 : Int32)), .val (.int (0 : Int32)), .val (.ref b243), .val (.int (1 : Int32)), .unset] [(.int (2 : Int32))]))
          refine Goes.step (fun _ k => XS.iconst X296.here hx rfl (hb hby at_153) k) ?_
          show Goes _ _ _ _ _ _ _ (T296.setTop (mkF m 154 #[.val (.int p0), .val (.int p1), .val (.int p2), .val (.int p3), .val (.int p4), .val (.int p5), .val (.int (3 : Int32)), .val (.int (2 : Int32)), .val (.int (0 : Int32)), .val (.ref b243), .val (.int (1 : Int32)), .unset] [(.int (3 : Int32)), (.int (2 : Int32))]))
          refine Goes.step (fun _ k => XS.icmpYes X296.here hx rfl (pc0 := 154) (pc' := 163) rfl (hb hby at_154) rfl (tlt (by decide : (2 : Int32) < (3 : Int32))).1 (by decide) (by decide) k) ?_
          show Goes _ _ _ _ _ _ _ (T296.setTop (mkF m 163 #[.val (.int p0), .val (.int p1), .val (.int p2), .val (.int p3), .val (.int p4), .val (.int p5), .val (.int (3 : Int32)), .val (.int (2 : Int32)), .val (.int (0 : Int32)), .val (.ref b243), .val (.int (1 : Int32)), .unset] []))
          refine Goes.step (fun _ k => XS.iload X296.here hx rfl (hb hby at_163) rfl  k) ?_
          show Goes _ _ _ _ _ _ _ (T296.setTop (mkF m 165 #[.val (.int p0), .val (.int p1), .val (.int p2), .val (.int p3), .val (.int p4), .val (.int p5), .val (.int (3 : Int32)), .val (.int (2 : Int32)), .val (.int (0 : Int32)), .val (.ref b243), .val (.int (1 : Int32)), .unset] [(.int (0 : Int32))]))
          refine Goes.step (fun _ k => XS.ifYes X296.here hx rfl (pc0 := 165) (pc' := 173) rfl (hb hby at_165) rfl ((if0 _ _).trans (teq (by decide : (0 : Int32) = (0 : Int32))).1) (by decide) (by decide) k) ?_
          show Goes _ _ _ _ _ _ _ (T296.setTop (mkF m 173 #[.val (.int p0), .val (.int p1), .val (.int p2), .val (.int p3), .val (.int p4), .val (.int p5), .val (.int (3 : Int32)), .val (.int (2 : Int32)), .val (.int (0 : Int32)), .val (.ref b243), .val (.int (1 : Int32)), .unset] []))
          refine Goes.step (fun _ k => XS.iload X296.here hx rfl (hb hby at_173) rfl  k) ?_
          show Goes _ _ _ _ _ _ _ (T296.setTop (mkF m 175 #[.val (.int p0), .val (.int p1), .val (.int p2), .val (.int p3), .val (.int p4), .val (.int p5), .val (.int (3 : Int32)), .val (.int (2 : Int32)), .val (.int (0 : Int32)), .val (.ref b243), .val (.int (1 : Int32)), .unset] [(.int (0 : Int32))]))
          refine Goes.step (fun _ k => XS.ifNo X296.here hx rfl (hb hby at_175) rfl ((if0 _ _).trans (teq (by decide : (0 : Int32) = (0 : Int32))).2) k) ?_
          show Goes _ _ _ _ _ _ _ (T296.setTop (mkF m 178 #[.val (.int p0), .val (.int p1), .val (.int p2), .val (.int p3), .val (.int p4), .val (.int p5), .val (.int (3 : Int32)), .val (.int (2 : Int32)), .val (.int (0 : Int32)), .val (.ref b243), .val (.int (1 : Int32)), .unset] []))
          refine Goes.step (fun _ k => XS.iload X296.here hx rfl (hb hby at_178) rfl  k) ?_
          show Goes _ _ _ _ _ _ _ (T296.setTop (mkF m 180 #[.val (.int p0), .val (.int p1), .val (.int p2), .val (.int p3), .val (.int p4), .val (.int p5), .val (.int (3 : Int32)), .val (.int (2 : Int32)), .val (.int (0 : Int32)), .val (.ref b243), .val (.int (1 : Int32)), .unset] [(.int (3 : Int32))]))
          refine Goes.step (fun _ k => XS.iload X296.here hx rfl (hb hby at_180) rfl  k) ?_
          show Goes _ _ _ _ _ _ _ (T296.setTop (mkF m 182 #[.val (.int p0), .val (.int p1), .val (.int p2), .val (.int p3), .val (.int p4), .val (.int p5), .val (.int (3 : Int32)), .val (.int (2 : Int32)), .val (.int (0 : Int32)), .val (.ref b243), .val (.int (1 : Int32)), .unset] [(.int (2 : Int32)), (.int (3 : Int32))]))
          refine Goes.step (fun _ k => XS.icmpYes X296.here hx rfl (pc0 := 182) (pc' := 189) rfl (hb hby at_182) rfl (feq (by decide : ¬ ((3 : Int32) = (2 : Int32)))).2 (by decide) (by decide) k) ?_
          show Goes _ _ _ _ _ _ _ (T296.setTop (mkF m 189 #[.val (.int p0), .val (.int p1), .val (.int p2), .val (.int p3), .val (.int p4), .val (.int p5), .val (.int (3 : Int32)), .val (.int (2 : Int32)), .val (.int (0 : Int32)), .val (.ref b243), .val (.int (1 : Int32)), .unset] []))
          refine Goes.step (fun _ k => XS.iconst X296.here hx rfl (hb hby at_189) k) ?_
          show Goes _ _ _ _ _ _ _ (T296.setTop (mkF m 190 #[.val (.int p0), .val (.int p1), .val (.int p2), .val (.int p3), .val (.int p4), .val (.int p5), .val (.int (3 : Int32)), .val (.int (2 : Int32)), .val (.int (0 : Int32)), .val (.ref b243), .val (.int (1 : Int32)), .unset] [(.int (0 : Int32))]))
          refine Goes.step (fun _ k => XS.istore X296.here hx rfl (hb hby at_190) rfl (l' := #[.val (.int p0), .val (.int p1), .val (.int p2), .val (.int p3), .val (.int p4), .val (.int p5), .val (.int (3 : Int32)), .val (.int (2 : Int32)), .val (.int (0 : Int32)), .val (.ref b243), .val (.int (1 : Int32)), .val (.int (0 : Int32))]) rfl k) ?_
          show Goes _ _ _ _ _ _ _ (T296.setTop (mkF m 192 #[.val (.int p0), .val (.int p1), .val (.int p2), .val (.int p3), .val (.int p4), .val (.int p5), .val (.int (3 : Int32)), .val (.int (2 : Int32)), .val (.int (0 : Int32)), .val (.ref b243), .val (.int (1 : Int32)), .val (.int (0 : Int32))] []))
          refine Goes.step (fun _ k => XS.iload X296.here hx rfl (hb hby at_192) rfl  k) ?_
          show Goes _ _ _ _ _ _ _ (T296.setTop (mkF m 194 #[.val (.int p0), .val (.int p1), .val (.int p2), .val (.int p3), .val (.int p4), .val (.int p5), .val (.int (3 : Int32)), .val (.int (2 : Int32)), .val (.int (0 : Int32)), .val (.ref b243), .val (.int (1 : Int32)), .val (.int (0 : Int32))] [(.int (1 : Int32))]))
          refine Goes.step (fun _ k => XS.ifNo X296.here hx rfl (hb hby at_194) rfl ((if0 _ _).trans (feq (by decide : ¬ ((1 : Int32) = (0 : Int32)))).1) k) ?_
          show Goes _ _ _ _ _ _ _ (T296.setTop (mkF m 197 #[.val (.int p0), .val (.int p1), .val (.int p2), .val (.int p3), .val (.int p4), .val (.int p5), .val (.int (3 : Int32)), .val (.int (2 : Int32)), .val (.int (0 : Int32)), .val (.ref b243), .val (.int (1 : Int32)), .val (.int (0 : Int32))] []))
          refine Goes.step (fun _ k => XS.aload X296.here hx rfl (hb hby at_197) rfl rfl k) ?_
          show Goes _ _ _ _ _ _ _ (T296.setTop (mkF m 199 #[.val (.int p0), .val (.int p1), .val (.int p2), .val (.int p3), .val (.int p4), .val (.int p5), .val (.int (3 : Int32)), .val (.int (2 : Int32)), .val (.int (0 : Int32)), .val (.ref b243), .val (.int (1 : Int32)), .val (.int (0 : Int32))] [(.ref b243)]))
          obtain ⟨cq304, kq304, q304a, q304b, q304c⟩ := isOf hZ rfl v296_0_3
          obtain ⟨_, _, ⟨T304, L304, k304, n304⟩, -, X304, ⟨Lc304, hQ304, l304, y304, z304⟩, st304⟩ := X296.virtualBack hx (y := (⟨"com/example/hailwise/hailwise/NodeQueue", "isEmpty", "()Z"⟩ : MethodName)) (z := (⟨"com/example/hailwise/hailwise/NodeQueue", "isEmpty", "()Z"⟩ : MethodName)) hown (mvT hZ (hw _ (List.mem_of_getElem? (i := 22) rfl))) (mvT hZ (hw _ (List.mem_of_getElem? (i := 23) rfl))) (notFace_of_selects (args := #[]) (mvT hZ (hw _ (List.mem_of_getElem? (i := 25) rfl)))) (mvT hZ (hw _ (List.mem_of_getElem? (i := 25) rfl))) (mvT hZ (hw _ (List.mem_of_getElem? (i := 24) rfl))) (by decide) (backOf (W := 0) (rm4 l Z a0 hw [] b243 (1 : Int32) T296.heap n0 Z303 v296_0_2) hZ (hw _ (List.mem_of_getElem? (i := 26) rfl)) (hw _ (List.mem_of_getElem? (i := 2) rfl)) (by decide) (by decide)) q304a q304c (g := (mkF m 199 #[.val (.int p0), .val (.int p1), .val (.int p2), .val (.int p3), .val (.int p4), .val (.int p5), .val (.int (3 : Int32)), .val (.int (2 : Int32)), .val (.int (0 : Int32)), .val (.ref b243), .val (.int (1 : Int32)), .val (.int (0 : Int32))] [(.ref b243)])) rfl (by rw [hml]; rfl) (Steps.refl _) (argsL := []) (rest := []) (lenOf pd_2 rfl) rfl (by show 2 * 0 + _ ≤ _; exact Nat.le_of_eq rfl) (hb hby at_199) (fun _ _ => ⟨rfl, rfl, (by decide : 3 + 0 ≤ _), (by decide : 131 + 0 ≤ _)⟩)
          dsimp only [Pt.U, Pt.locs, Pt.cells, Pt.slots] at X304 l304 y304 z304 st304 hQ304
          subst l304 y304 z304
          obtain ⟨N304, eh304, hR304⟩ := hQ304
          have NA304 := Fr.app NA296 N304
          rcases hR304 with ⟨rfl, u304_0_0⟩ | ⟨rfl, u304_1_0⟩
          · exact absurd u304_0_0 (by decide : ¬ ((1 : Int32) = (0 : Int32)))
          · refine Goes.back st304 ?_
            show Goes _ _ _ _ _ _ _ (T304.setTop (mkF m 202 #[.val (.int p0), .val (.int p1), .val (.int p2), .val (.int p3), .val (.int p4), .val (.int p5), .val (.int (3 : Int32)), .val (.int (2 : Int32)), .val (.int (0 : Int32)), .val (.ref b243), .val (.int (1 : Int32)), .val (.int (0 : Int32))] [(.int (0 : Int32))]))
            refine Goes.step (fun _ k => XS.iload X304.here hx rfl (hb hby at_202) rfl  k) ?_
            show Goes _ _ _ _ _ _ _ (T304.setTop (mkF m 204 #[.val (.int p0), .val (.int p1), .val (.int p2), .val (.int p3), .val (.int p4), .val (.int p5), .val (.int (3 : Int32)), .val (.int (2 : Int32)), .val (.int (0 : Int32)), .val (.ref b243), .val (.int (1 : Int32)), .val (.int (0 : Int32))] [(.int (0 : Int32)), (.int (0 : Int32))]))
            refine Goes.step (fun _ k => XS.icmpNo X304.here hx rfl (hb hby at_204) rfl (teq (by decide : (0 : Int32) = (0 : Int32))).2 k) ?_
            show Goes _ _ _ _ _ _ _ (T304.setTop (mkF m 207 #[.val (.int p0), .val (.int p1), .val (.int p2), .val (.int p3), .val (.int p4), .val (.int p5), .val (.int (3 : Int32)), .val (.int (2 : Int32)), .val (.int (0 : Int32)), .val (.ref b243), .val (.int (1 : Int32)), .val (.int (0 : Int32))] []))
            refine Goes.step (fun _ k => XS.iconst X304.here hx rfl (hb hby at_207) k) ?_
            show Goes _ _ _ _ _ _ _ (T304.setTop (mkF m 208 #[.val (.int p0), .val (.int p1), .val (.int p2), .val (.int p3), .val (.int p4), .val (.int p5), .val (.int (3 : Int32)), .val (.int (2 : Int32)), .val (.int (0 : Int32)), .val (.ref b243), .val (.int (1 : Int32)), .val (.int (0 : Int32))] [(.int (1 : Int32))]))
            refine Goes.step (fun _ k => XS.goto X304.here hx rfl (pc0 := 208) (pc' := 212) rfl (hb hby at_208) (by decide) (by decide) k) ?_
            show Goes _ _ _ _ _ _ _ (T304.setTop (mkF m 212 #[.val (.int p0), .val (.int p1), .val (.int p2), .val (.int p3), .val (.int p4), .val (.int p5), .val (.int (3 : Int32)), .val (.int (2 : Int32)), .val (.int (0 : Int32)), .val (.ref b243), .val (.int (1 : Int32)), .val (.int (0 : Int32))] [(.int (1 : Int32))]))
            refine Goes.step (fun _ k => XS.istore X304.here hx rfl (hb hby at_212) rfl (l' := #[.val (.int p0), .val (.int p1), .val (.int p2), .val (.int p3), .val (.int p4), .val (.int p5), .val (.int (3 : Int32)), .val (.int (2 : Int32)), .val (.int (0 : Int32)), .val (.ref b243), .val (.int (1 : Int32)), .val (.int (0 : Int32))]) rfl k) ?_
            show Goes _ _ _ _ _ _ _ (T304.setTop (mkF m 214 #[.val (.int p0), .val (.int p1), .val (.int p2), .val (.int p3), .val (.int p4), .val (.int p5), .val (.int (3 : Int32)), .val (.int (2 : Int32)), .val (.int (0 : Int32)), .val (.ref b243), .val (.int (1 : Int32)), .val (.int (0 : Int32))] []))
            refine Goes.step (fun _ k => XS.iload X304.here hx rfl (hb hby at_214) rfl  k) ?_
            show Goes _ _ _ _ _ _ _ (T304.setTop (mkF m 216 #[.val (.int p0), .val (.int p1), .val (.int p2), .val (.int p3), .val (.int p4), .val (.int p5), .val (.int (3 : Int32)), .val (.int (2 : Int32)), .val (.int (0 : Int32)), .val (.ref b243), .val (.int (1 : Int32)), .val (.int (0 : Int32))] [(.int (1 : Int32))]))
            exact Goes.ret X304 hx (BodyLoose.notSynchronized Bd) Bd.returns rfl (Or.inl ⟨rfl, by simp, _, rfl⟩) (hb hby at_216) (by show Q0 Z p0 p1 p2 p3 p4 p5 h0 n0 (some (.int (1 : Int32))) T304.heap _; rw [eh304]; exact ⟨rfl, NA304⟩) (by decide) (by decide)
        · show Goes _ _ _ _ _ _ _ (T277.setTop (mkF m 127 #[.val (.int p0), .val (.int p1), .val (.int p2), .val (.int p3), .val (.int p4), .val (.int p5), .val (.int (3 : Int32)), .val (.int (3 : Int32)), .val (.int (0 : Int32)), .val (.ref b243), .val (.int (1 : Int32)), .unset] []))
          refine Goes.step (fun _ k => XS.iload X277.here hx rfl (hb hby at_127) rfl  k) ?_
          show Goes _ _ _ _ _ _ _ (T277.setTop (mkF m 129 #[.val (.int p0), .val (.int p1), .val (.int p2), .val (.int p3), .val (.int p4), .val (.int p5), .val (.int (3 : Int32)), .val (.int (3 : Int32)), .val (.int (0 : Int32)), .val (.ref b243), .val (.int (1 : Int32)), .unset] [(.int (3 : Int32))]))
          refine Goes.step (fun _ k => XS.iconst X277.here hx rfl (hb hby at_129) k) ?_
          show Goes _ _ _ _ _ _ _ (T277.setTop (mkF m 130 #[.val (.int p0), .val (.int p1), .val (.int p2), .val (.int p3), .val (.int p4), .val (.int p5), .val (.int (3 : Int32)), .val (.int (3 : Int32)), .val (.int (0 : Int32)), .val (.ref b243), .val (.int (1 : Int32)), .unset] [(.int (1 : Int32)), (.int (3 : Int32))]))
          refine Goes.step (fun _ k => XS.icmpNo X277.here hx rfl (hb hby at_130) rfl (flt (by decide : ¬ ((3 : Int32) < (1 : Int32)))).1 k) ?_
          show Goes _ _ _ _ _ _ _ (T277.setTop (mkF m 133 #[.val (.int p0), .val (.int p1), .val (.int p2), .val (.int p3), .val (.int p4), .val (.int p5), .val (.int (3 : Int32)), .val (.int (3 : Int32)), .val (.int (0 : Int32)), .val (.ref b243), .val (.int (1 : Int32)), .unset] []))
          refine Goes.step (fun _ k => XS.aload X277.here hx rfl (hb hby at_133) rfl rfl k) ?_
          show Goes _ _ _ _ _ _ _ (T277.setTop (mkF m 135 #[.val (.int p0), .val (.int p1), .val (.int p2), .val (.int p3), .val (.int p4), .val (.int p5), .val (.int (3 : Int32)), .val (.int (3 : Int32)), .val (.int (0 : Int32)), .val (.ref b243), .val (.int (1 : Int32)), .unset] [(.ref b243)]))
          obtain ⟨cq305, kq305, q305a, q305b, q305c⟩ := isOf hZ eh277 v269_0_3
          obtain ⟨_, _, ⟨T305, L305, k305, n305⟩, -, X305, ⟨Lc305, hQ305, l305, y305, z305⟩, st305⟩ := X277.virtualBack hx (y := (⟨"com/example/hailwise/hailwise/NodeQueue", "poll", "()I"⟩ : MethodName)) (z := (⟨"com/example/hailwise/hailwise/NodeQueue", "poll", "()I"⟩ : MethodName)) hown (mvT hZ (hw _ (List.mem_of_getElem? (i := 27) rfl))) (mvT hZ (hw _ (List.mem_of_getElem? (i := 28) rfl))) (notFace_of_selects (args := #[]) (mvT hZ (hw _ (List.mem_of_getElem? (i := 30) rfl)))) (mvT hZ (hw _ (List.mem_of_getElem? (i := 30) rfl))) (mvT hZ (hw _ (List.mem_of_getElem? (i := 29) rfl))) (by decide) (backOf (W := 0) (rm5_3 l Z a0 hw [] b243 r245_0_0 r245_0_1 kk245_0_0 kk245_0_1 T269.heap n0 Z276 v269_0_0 v269_0_1 v269_0_2 v269_0_3 v269_0_4 v269_0_5 g_b243 g_r245_0_0 g_r245_0_1 ne251 ne252 (Ne.symm nn245_0_0)) hZ (hw _ (List.mem_of_getElem? (i := 31) rfl)) (hw _ (List.mem_of_getElem? (i := 2) rfl)) (by decide) (by decide)) q305a q305c (g := (mkF m 135 #[.val (.int p0), .val (.int p1), .val (.int p2), .val (.int p3), .val (.int p4), .val (.int p5), .val (.int (3 : Int32)), .val (.int (3 : Int32)), .val (.int (0 : Int32)), .val (.ref b243), .val (.int (1 : Int32)), .unset] [(.ref b243)])) rfl (by rw [hml]; rfl) (Steps.refl _) (argsL := []) (rest := []) (lenOf pd_3 rfl) rfl (by show 2 * 0 + _ ≤ _; exact Nat.le_of_eq rfl) (hb hby at_135) (fun _ _ => ⟨rfl, eh277, (by decide : 3 + 0 ≤ _), (by decide : 131 + 0 ≤ _)⟩)
          dsimp only [Pt.U, Pt.locs, Pt.cells, Pt.slots] at X305 l305 y305 z305 st305 hQ305
          subst l305 y305 z305
          obtain ⟨N305, KK305, hR305⟩ := hQ305
          have NA305 := Fr.app NA277 N305
          have f306 := v269_0_3.keep KK305
          have K312 : Keep h0 T305.heap [] := K276.trans KK305 (allS (Or.inr sz_b243) (allS (Or.inr sz_r245_0_0) (allS (Or.inr sz_r245_0_1) all0)))
          have Z312 : n0 ≤ T305.heap.size := Nat.le_trans Z276 KK305.1
          obtain ⟨rv305_0, rfl, v305_0_0, v305_0_1, v305_0_2, v305_0_3, v305_0_4, v305_0_5⟩ := hR305
          refine Goes.back st305 ?_
          show Goes _ _ _ _ _ _ _ (T305.setTop (mkF m 138 #[.val (.int p0), .val (.int p1), .val (.int p2), .val (.int p3), .val (.int p4), .val (.int p5), .val (.int (3 : Int32)), .val (.int (3 : Int32)), .val (.int (0 : Int32)), .val (.ref b243), .val (.int (1 : Int32)), .unset] [(.int rv305_0)]))
          refine Goes.step (fun _ k => XS.pop X305.here hx rfl (hb hby at_138) rfl rfl k) ?_
          show Goes _ _ _ _ _ _ _ (T305.setTop (mkF m 139 #[.val (.int p0), .val (.int p1), .val (.int p2), .val (.int p3), .val (.int p4), .val (.int p5), .val (.int (3 : Int32)), .val (.int (3 : Int32)), .val (.int (0 : Int32)), .val (.ref b243), .val (.int (1 : Int32)), .unset] []))
          refine Goes.step (fun _ k => XS.iload X305.here hx rfl (hb hby at_139) rfl  k) ?_
          show Goes _ _ _ _ _ _ _ (T305.setTop (mkF m 141 #[.val (.int p0), .val (.int p1), .val (.int p2), .val (.int p3), .val (.int p4), .val (.int p5), .val (.int (3 : Int32)), .val (.int (3 : Int32)), .val (.int (0 : Int32)), .val (.ref b243), .val (.int (1 : Int32)), .unset] [(.int (3 : Int32))]))
          refine Goes.step (fun _ k => XS.iconst X305.here hx rfl (hb hby at_141) k) ?_
          show Goes _ _ _ _ _ _ _ (T305.setTop (mkF m 142 #[.val (.int p0), .val (.int p1), .val (.int p2), .val (.int p3), .val (.int p4), .val (.int p5), .val (.int (3 : Int32)), .val (.int (3 : Int32)), .val (.int (0 : Int32)), .val (.ref b243), .val (.int (1 : Int32)), .unset] [(.int (2 : Int32)), (.int (3 : Int32))]))
          refine Goes.step (fun _ k => XS.icmpNo X305.here hx rfl (hb hby at_142) rfl (flt (by decide : ¬ ((3 : Int32) < (2 : Int32)))).1 k) ?_
          show Goes _ _ _ _ _ _ _ (T305.setTop (mkF m 145 #[.val (.int p0), .val (.int p1), .val (.int p2), .val (.int p3), .val (.int p4), .val (.int p5), .val (.int (3 : Int32)), .val (.int (3 : Int32)), .val (.int (0 : Int32)), .val (.ref b243), .val (.int (1 : Int32)), .unset] []))
          refine Goes.step (fun _ k => XS.aload X305.here hx rfl (hb hby at_145) rfl rfl k) ?_
          show Goes _ _ _ _ _ _ _ (T305.setTop (mkF m 147 #[.val (.int p0), .val (.int p1), .val (.int p2), .val (.int p3), .val (.int p4), .val (.int p5), .val (.int (3 : Int32)), .val (.int (3 : Int32)), .val (.int (0 : Int32)), .val (.ref b243), .val (.int (1 : Int32)), .unset] [(.ref b243)]))
          obtain ⟨cq313, kq313, q313a, q313b, q313c⟩ := isOf hZ rfl v305_0_3
          obtain ⟨_, _, ⟨T313, L313, k313, n313⟩, -, X313, ⟨Lc313, hQ313, l313, y313, z313⟩, st313⟩ := X305.virtualBack hx (y := (⟨"com/example/hailwise/hailwise/NodeQueue", "poll", "()I"⟩ : MethodName)) (z := (⟨"com/example/hailwise/hailwise/NodeQueue", "poll", "()I"⟩ : MethodName)) hown (mvT hZ (hw _ (List.mem_of_getElem? (i := 27) rfl))) (mvT hZ (hw _ (List.mem_of_getElem? (i := 28) rfl))) (notFace_of_selects (args := #[]) (mvT hZ (hw _ (List.mem_of_getElem? (i := 30) rfl)))) (mvT hZ (hw _ (List.mem_of_getElem? (i := 30) rfl))) (mvT hZ (hw _ (List.mem_of_getElem? (i := 29) rfl))) (by decide) (backOf (W := 0) (rm5_2 l Z a0 hw [] b243 r245_0_0 r245_0_1 kk245_0_0 kk245_0_1 T305.heap n0 Z312 v305_0_0 v305_0_1 v305_0_2 v305_0_3 v305_0_4 v305_0_5 g_b243 g_r245_0_0 g_r245_0_1 ne251 ne252 (Ne.symm nn245_0_0)) hZ (hw _ (List.mem_of_getElem? (i := 31) rfl)) (hw _ (List.mem_of_getElem? (i := 2) rfl)) (by decide) (by decide)) q313a q313c (g := (mkF m 147 #[.val (.int p0), .val (.int p1), .val (.int p2), .val (.int p3), .val (.int p4), .val (.int p5), .val (.int (3 : Int32)), .val (.int (3 : Int32)), .val (.int (0 : Int32)), .val (.ref b243), .val (.int (1 : Int32)), .unset] [(.ref b243)])) rfl (by rw [hml]; rfl) (Steps.refl _) (argsL := []) (rest := []) (lenOf pd_3 rfl) rfl (by show 2 * 0 + _ ≤ _; exact Nat.le_of_eq rfl) (hb hby at_147) (fun _ _ => ⟨rfl, rfl, (by decide : 3 + 0 ≤ _), (by decide : 131 + 0 ≤ _)⟩)
          dsimp only [Pt.U, Pt.locs, Pt.cells, Pt.slots] at X313 l313 y313 z313 st313 hQ313
          subst l313 y313 z313
          obtain ⟨N313, KK313, hR313⟩ := hQ313
          have NA313 := Fr.app NA305 N313
          have f314 := v305_0_3.keep KK313
          have K320 : Keep h0 T313.heap [] := K312.trans KK313 (allS (Or.inr sz_b243) (allS (Or.inr sz_r245_0_0) (allS (Or.inr sz_r245_0_1) all0)))
          have Z320 : n0 ≤ T313.heap.size := Nat.le_trans Z312 KK313.1
          obtain ⟨rv313_0, rfl, v313_0_0, v313_0_1, v313_0_2, v313_0_3, v313_0_4, v313_0_5⟩ := hR313
          refine Goes.back st313 ?_
          show Goes _ _ _ _ _ _ _ (T313.setTop (mkF m 150 #[.val (.int p0), .val (.int p1), .val (.int p2), .val (.int p3), .val (.int p4), .val (.int p5), .val (.int (3 : Int32)), .val (.int (3 : Int32)), .val (.int (0 : Int32)), .val (.ref b243), .val (.int (1 : Int32)), .unset] [(.int rv313_0)]))
          refine Goes.step (fun _ k => XS.pop X313.here hx rfl (hb hby at_150) rfl rfl k) ?_
          show Goes _ _ _ _ _ _ _ (T313.setTop (mkF m 151 #[.val (.int p0), .val (.int p1), .val (.int p2), .val (.int p3), .val (.int p4), .val (.int p5), .val (.int (3 : Int32)), .val (.int (3 : Int32)), .val (.int (0 : Int32)), .val (.ref b243), .val (.int (1 : Int32)), .unset] []))
          refine Goes.step (fun _ k => XS.iload X313.here hx rfl (hb hby at_151) rfl  k) ?_
          show Goes _ _ _ _ _ _ _ (T313.setTop (mkF m 153 #[.val (.int p0), .val (.int p1), .val (.int p2), .val (.int p3), .val (.int p4), .val (.int p5), .val (.int (3 : Int32)), .val (.int (3 : Int32)), .val (.int (0 : Int32)), .val (.ref b243), .val (.int (1 : Int32)), .unset] [(.int (3 : Int32))]))
          refine Goes.step (fun _ k => XS.iconst X313.here hx rfl (hb hby at_153) k) ?_
          show Goes _ _ _ _ _ _ _ (T313.setTop (mkF m 154 #[.val (.int p0), .val (.int p1), .val (.int p2), .val (.int p3), .val (.int p4), .val (.int p5), .val (.int (3 : Int32)), .val (.int (3 : Int32)), .val (.int (0 : Int32)), .val (.ref b243), .val (.int (1 : Int32)), .unset] [(.int (3 : Int32)), (.int (3 : Int32))]))
          refine Goes.step (fun _ k => XS.icmpNo X313.here hx rfl (hb hby at_154) rfl (flt (by decide : ¬ ((3 : Int32) < (3 : Int32)))).1 k) ?_
          show Goes _ _ _ _ _ _ _ (T313.setTop (mkF m 157 #[.val (.int p0), .val (.int p1), .val (.int p2), .val (.int p3), .val (.int p4), .val (.int p5), .val (.int (3 : Int32)), .val (.int (3 : Int32)), .val (.int (0 : Int32)), .val (.ref b243), .val (.int (1 : Int32)), .unset] []))
          refine Goes.step (fun _ k => XS.aload X313.here hx rfl (hb hby at_157) rfl rfl k) ?_
          show Goes _ _ _ _ _ _ _ (T313.setTop (mkF m 159 #[.val (.int p0), .val (.int p1), .val (.int p2), .val (.int p3), .val (.int p4), .val (.int p5), .val (.int (3 : Int32)), .val (.int (3 : Int32)), .val (.int (0 : Int32)), .val (.ref b243), .val (.int (1 : Int32)), .unset] [(.ref b243)]))
          obtain ⟨cq321, kq321, q321a, q321b, q321c⟩ := isOf hZ rfl v313_0_3
          obtain ⟨_, _, ⟨T321, L321, k321, n321⟩, -, X321, ⟨Lc321, hQ321, l321, y321, z321⟩, st321⟩ := X313.virtualBack hx (y := (⟨"com/example/hailwise/hailwise/NodeQueue", "poll", "()I"⟩ : MethodName)) (z := (⟨"com/example/hailwise/hailwise/NodeQueue", "poll", "()I"⟩ : MethodName)) hown (mvT hZ (hw _ (List.mem_of_getElem? (i := 27) rfl))) (mvT hZ (hw _ (List.mem_of_getElem? (i := 28) rfl))) (notFace_of_selects (args := #[]) (mvT hZ (hw _ (List.mem_of_getElem? (i := 30) rfl)))) (mvT hZ (hw _ (List.mem_of_getElem? (i := 30) rfl))) (mvT hZ (hw _ (List.mem_of_getElem? (i := 29) rfl))) (by decide) (backOf (W := 0) (rm5_1 l Z a0 hw [] b243 r245_0_0 r245_0_1 kk245_0_0 kk245_0_1 T313.heap n0 Z320 v313_0_0 v313_0_1 v313_0_2 v313_0_3 v313_0_4 v313_0_5 g_b243 g_r245_0_0 g_r245_0_1 ne251 ne252 (Ne.symm nn245_0_0)) hZ (hw _ (List.mem_of_getElem? (i := 31) rfl)) (hw _ (List.mem_of_getElem? (i := 2) rfl)) (by decide) (by decide)) q321a q321c (g := (mkF m 159 #[.val (.int p0), .val (.int p1), .val (.int p2), .val (.int p3), .val (.int p4), .val (.int p5), .val (.int (3 : Int32)), .val (.int (3 : Int32)), .val (.int (0 : Int32)), .val (.ref b243), .val (.int (1 : Int32)), .unset] [(.ref b243)])) rfl (by rw [hml]; rfl) (Steps.refl _) (argsL := []) (rest := []) (lenOf pd_3 rfl) rfl (by show 2 * 0 + _ ≤ _; exact Nat.le_of_eq rfl) (hb hby at_159) (fun _ _ => ⟨rfl, rfl, (by decide : 3 + 0 ≤ _), (by decide : 131 + 0 ≤ _)⟩)
          dsimp only [Pt.U, Pt.locs, Pt.cells, Pt.slots] at X321 l321 y321 z321 st321 hQ321
          subst l321 y321 z321
          obtain ⟨N321, KK321, hR321⟩ := hQ321
          have NA321 := Fr.app NA313 N321
          have f322 := v313_0_3.keep KK321
          have K328 : Keep h0 T321.heap [] := K320.trans KK321 (allS (Or.inr sz_b243) (allS (Or.inr sz_r245_0_0) (allS (Or.inr sz_r245_0_1) all0)))
          have Z328 : n0 ≤ T321.heap.size := Nat.le_trans Z320 KK321.1
          obtain ⟨rv321_0, rfl, v321_0_0, v321_0_1, v321_0_2, v321_0_3, v321_0_4, v321_0_5⟩ := hR321
          refine Goes.back st321 ?_
          show Goes _ _ _ _ _ _ _ (T321.setTop (mkF m 162 #[.val (.int p0), .val (.int p1), .val (.int p2), .val (.int p3), .val (.int p4), .val (.int p5), .val (.int (3 : Int32)), .val (.int (3 : Int32)), .val (.int (0 : Int32)), .val (.ref b243), .val (.int (1 : Int32)), .unset] [(.int rv321_0)]))
          refine Goes.step (fun _ k => XS.pop X321.here hx rfl (hb hby at_162) rfl rfl k) ?_
          show Goes _ _ _ _ _ _ _ (T321.setTop (mkF m 163 #[.val (.int p0), .val (.int p1), .val (.int p2), .val (.int p3), .val (.int p4), .val (.int p5), .val (.int (3 : Int32)), .val (.int (3 : Int32)), .val (.int (0 : Int32)), .val (.ref b243), .val (.int (1 : Int32)), .unset] []))
          refine Goes.step (fun _ k => XS.iload X321.here hx rfl (hb hby at_163) rfl  k) ?_
          show Goes _ _ _ _ _ _ _ (T321.setTop (mkF m 165 #[.val (.int p0), .val (.int p1), .val (.int p2), .val (.int p3), .val (.int p4), .val (.int p5), .val (.int (3 : Int32)), .val (.int (3 : Int32)), .val (.int (0 : Int32)), .val (.ref b243), .val (.int (1 : Int32)), .unset] [(.int (0 : Int32))]))
          refine Goes.step (fun _ k => XS.ifYes X321.here hx rfl (pc0 := 165) (pc' := 173) rfl (hb hby at_165) rfl ((if0 _ _).trans (teq (by decide : (0 : Int32) = (0 : Int32))).1) (by decide) (by decide) k) ?_
          show Goes _ _ _ _ _ _ _ (T321.setTop (mkF m 173 #[.val (.int p0), .val (.int p1), .val (.int p2), .val (.int p3), .val (.int p4), .val (.int p5), .val (.int (3 : Int32)), .val (.int (3 : Int32)), .val (.int (0 : Int32)), .val (.ref b243), .val (.int (1 : Int32)), .unset] []))
          refine Goes.step (fun _ k => XS.iload X321.here hx rfl (hb hby at_173) rfl  k) ?_
          show Goes _ _ _ _ _ _ _ (T321.setTop (mkF m 175 #[.val (.int p0), .val (.int p1), .val (.int p2), .val (.int p3), .val (.int p4), .val (.int p5), .val (.int (3 : Int32)), .val (.int (3 : Int32)), .val (.int (0 : Int32)), .val (.ref b243), .val (.int (1 : Int32)), .unset] [(.int (0 : Int32))]))
          refine Goes.step (fun _ k => XS.ifNo X321.here hx rfl (hb hby at_175) rfl ((if0 _ _).trans (teq (by decide : (0 : Int32) = (0 : Int32))).2) k) ?_
          show Goes _ _ _ _ _ _ _ (T321.setTop (mkF m 178 #[.val (.int p0), .val (.int p1), .val (.int p2), .val (.int p3), .val (.int p4), .val (.int p5), .val (.int (3 : Int32)), .val (.int (3 : Int32)), .val (.int (0 : Int32)), .val (.ref b243), .val (.int (1 : Int32)), .unset] []))
          refine Goes.step (fun _ k => XS.iload X321.here hx rfl (hb hby at_178) rfl  k) ?_
          show Goes _ _ _ _ _ _ _ (T321.setTop (mkF m 180 #[.val (.int p0), .val (.int p1), .val (.int p2), .val (.int p3), .val (.int p4), .val (.int p5), .val (.int (3 : Int32)), .val (.int (3 : Int32)), .val (.int (0 : Int32)), .val (.ref b243), .val (.int (1 : Int32)), .unset] [(.int (3 : Int32))]))
          refine Goes.step (fun _ k => XS.iload X321.here hx rfl (hb hby at_180) rfl  k) ?_
          show Goes _ _ _ _ _ _ _ (T321.setTop (mkF m 182 #[.val (.int p0), .val (.int p1), .val (.int p2), .val (.int p3), .val (.int p4), .val (.int p5), .val (.int (3 : Int32)), .val (.int (3 : Int32)), .val (.int (0 : Int32)), .val (.ref b243), .val (.int (1 : Int32)), .unset] [(.int (3 : Int32)), (.int (3 : Int32))]))
          refine Goes.step (fun _ k => XS.icmpNo X321.here hx rfl (hb hby at_182) rfl (teq (by decide : (3 : Int32) = (3 : Int32))).2 k) ?_
          show Goes _ _ _ _ _ _ _ (T321.setTop (mkF m 185 #[.val (.int p0), .val (.int p1), .val (.int p2), .val (.int p3), .val (.int p4), .val (.int p5), .val (.int (3 : Int32)), .val (.int (3 : Int32)), .val (.int (0 : Int32)), .val (.ref b243), .val (.int (1 : Int32)), .unset] []))
          refine Goes.step (fun _ k => XS.iconst X321.here hx rfl (hb hby at_185) k) ?_
          show Goes _ _ _ _ _ _ _ (T321.setTop (mkF m 186 #[.val (.int p0), .val (.int p1), .val (.int p2), .val (.int p3), .val (.int p4), .val (.int p5), .val (.int (3 : Int32)), .val (.int (3 : Int32)), .val (.int (0 : Int32)), .val (.ref b243), .val (.int (1 : Int32)), .unset] [(.int (1 : Int32))]))
          refine Goes.step (fun _ k => XS.goto X321.here hx rfl (pc0 := 186) (pc' := 190) rfl (hb hby at_186) (by decide) (by decide) k) ?_
          show Goes _ _ _ _ _ _ _ (T321.setTop (mkF m 190 #[.val (.int p0), .val (.int p1), .val (.int p2), .val (.int p3), .val (.int p4), .val (.int p5), .val (.int (3 : Int32)), .val (.int (3 : Int32)), .val (.int (0 : Int32)), .val (.ref b243), .val (.int (1 : Int32)), .unset] [(.int (1 : Int32))]))
          refine Goes.step (fun _ k => XS.istore X321.here hx rfl (hb hby at_190) rfl (l' := #[.val (.int p0), .val (.int p1), .val (.int p2), .val (.int p3), .val (.int p4), .val (.int p5), .val (.int (3 : Int32)), .val (.int (3 : Int32)), .val (.int (0 : Int32)), .val (.ref b243), .val (.int (1 : Int32)), .val (.int (1 : Int32))]) rfl k) ?_
          show Goes _ _ _ _ _ _ _ (T321.setTop (mkF m 192 #[.val (.int p0), .val (.int p1), .val (.int p2), .val (.int p3), .val (.int p4), .val (.int p5), .val (.int (3 : Int32)), .val (.int (3 : Int32)), .val (.int (0 : Int32)), .val (.ref b243), .val (.int (1 : Int32)), .val (.int (1 : Int32))] []))
          refine Goes.step (fun _ k => XS.iload X321.here hx rfl (hb hby at_192) rfl  k) ?_
          show Goes _ _ _ _ _ _ _ (T321.setTop (mkF m 194 #[.val (.int p0), .val (.int p1), .val (.int p2), .val (.int p3), .val (.int p4), .val (.int p5), .val (.int (3 : Int32)), .val (.int (3 : Int32)), .val (.int (0 : Int32)), .val (.ref b243), .val (.int (1 : Int32)), .val (.int (1 : Int32))] [(.int (1 : Int32))]))
          refine Goes.step (fun _ k => XS.ifNo X321.here hx rfl (hb hby at_194) rfl ((if0 _ _).trans (feq (by decide : ¬ ((1 : Int32) = (0 : Int32)))).1) k) ?_
          show Goes _ _ _ _ _ _ _ (T321.setTop (mkF m 197 #[.val (.int p0), .val (.int p1), .val (.int p2), .val (.int p3), .val (.int p4), .val (.int p5), .val (.int (3 : Int32)), .val (.int (3 : Int32)), .val (.int (0 : Int32)), .val (.ref b243), .val (.int (1 : Int32)), .val (.int (1 : Int32))] []))
          refine Goes.step (fun _ k => XS.aload X321.here hx rfl (hb hby at_197) rfl rfl k) ?_
          show Goes _ _ _ _ _ _ _ (T321.setTop (mkF m 199 #[.val (.int p0), .val (.int p1), .val (.int p2), .val (.int p3), .val (.int p4), .val (.int p5), .val (.int (3 : Int32)), .val (.int (3 : Int32)), .val (.int (0 : Int32)), .val (.ref b243), .val (.int (1 : Int32)), .val (.int (1 : Int32))] [(.ref b243)]))
          obtain ⟨cq329, kq329, q329a, q329b, q329c⟩ := isOf hZ rfl v321_0_3
          obtain ⟨_, _, ⟨T329, L329, k329, n329⟩, -, X329, ⟨Lc329, hQ329, l329, y329, z329⟩, st329⟩ := X321.virtualBack hx (y := (⟨"com/example/hailwise/hailwise/NodeQueue", "isEmpty", "()Z"⟩ : MethodName)) (z := (⟨"com/example/hailwise/hailwise/NodeQueue", "isEmpty", "()Z"⟩ : MethodName)) hown (mvT hZ (hw _ (List.mem_of_getElem? (i := 22) rfl))) (mvT hZ (hw _ (List.mem_of_getElem? (i := 23) rfl))) (notFace_of_selects (args := #[]) (mvT hZ (hw _ (List.mem_of_getElem? (i := 25) rfl)))) (mvT hZ (hw _ (List.mem_of_getElem? (i := 25) rfl))) (mvT hZ (hw _ (List.mem_of_getElem? (i := 24) rfl))) (by decide) (backOf (W := 0) (rm4 l Z a0 hw [] b243 (0 : Int32) T321.heap n0 Z328 v321_0_2) hZ (hw _ (List.mem_of_getElem? (i := 26) rfl)) (hw _ (List.mem_of_getElem? (i := 2) rfl)) (by decide) (by decide)) q329a q329c (g := (mkF m 199 #[.val (.int p0), .val (.int p1), .val (.int p2), .val (.int p3), .val (.int p4), .val (.int p5), .val (.int (3 : Int32)), .val (.int (3 : Int32)), .val (.int (0 : Int32)), .val (.ref b243), .val (.int (1 : Int32)), .val (.int (1 : Int32))] [(.ref b243)])) rfl (by rw [hml]; rfl) (Steps.refl _) (argsL := []) (rest := []) (lenOf pd_2 rfl) rfl (by show 2 * 0 + _ ≤ _; exact Nat.le_of_eq rfl) (hb hby at_199) (fun _ _ => ⟨rfl, rfl, (by decide : 3 + 0 ≤ _), (by decide : 131 + 0 ≤ _)⟩)
          dsimp only [Pt.U, Pt.locs, Pt.cells, Pt.slots] at X329 l329 y329 z329 st329 hQ329
          subst l329 y329 z329
          obtain ⟨N329, eh329, hR329⟩ := hQ329
          have NA329 := Fr.app NA321 N329
          rcases hR329 with ⟨rfl, u329_0_0⟩ | ⟨rfl, u329_1_0⟩
          · refine Goes.back st329 ?_
            show Goes _ _ _ _ _ _ _ (T329.setTop (mkF m 202 #[.val (.int p0), .val (.int p1), .val (.int p2), .val (.int p3), .val (.int p4), .val (.int p5), .val (.int (3 : Int32)), .val (.int (3 : Int32)), .val (.int (0 : Int32)), .val (.ref b243), .val (.int (1 : Int32)), .val (.int (1 : Int32))] [(.int (1 : Int32))]))
            refine Goes.step (fun _ k => XS.iload X329.here hx rfl (hb hby at_202) rfl  k) ?_
            show Goes _ _ _ _ _ _ _ (T329.setTop (mkF m 204 #[.val (.int p0), .val (.int p1), .val (.int p2), .val (.int p3), .val (.int p4), .val (.int p5), .val (.int (3 : Int32)), .val (.int (3 : Int32)), .val (.int (0 : Int32)), .val (.ref b243), .val (.int (1 : Int32)), .val (.int (1 : Int32))] [(.int (1 : Int32)), (.int (1 : Int32))]))
            refine Goes.step (fun _ k => XS.icmpNo X329.here hx rfl (hb hby at_204) rfl (teq (by decide : (1 : Int32) = (1 : Int32))).2 k) ?_
            show Goes _ _ _ _ _ _ _ (T329.setTop (mkF m 207 #[.val (.int p0), .val (.int p1), .val (.int p2), .val (.int p3), .val (.int p4), .val (.int p5), .val (.int (3 : Int32)), .val (.int (3 : Int32)), .val (.int (0 : Int32)), .val (.ref b243), .val (.int (1 : Int32)), .val (.int (1 : Int32))] []))
            refine Goes.step (fun _ k => XS.iconst X329.here hx rfl (hb hby at_207) k) ?_
            show Goes _ _ _ _ _ _ _ (T329.setTop (mkF m 208 #[.val (.int p0), .val (.int p1), .val (.int p2), .val (.int p3), .val (.int p4), .val (.int p5), .val (.int (3 : Int32)), .val (.int (3 : Int32)), .val (.int (0 : Int32)), .val (.ref b243), .val (.int (1 : Int32)), .val (.int (1 : Int32))] [(.int (1 : Int32))]))
            refine Goes.step (fun _ k => XS.goto X329.here hx rfl (pc0 := 208) (pc' := 212) rfl (hb hby at_208) (by decide) (by decide) k) ?_
            show Goes _ _ _ _ _ _ _ (T329.setTop (mkF m 212 #[.val (.int p0), .val (.int p1), .val (.int p2), .val (.int p3), .val (.int p4), .val (.int p5), .val (.int (3 : Int32)), .val (.int (3 : Int32)), .val (.int (0 : Int32)), .val (.ref b243), .val (.int (1 : Int32)), .val (.int (1 : Int32))] [(.int (1 : Int32))]))
            refine Goes.step (fun _ k => XS.istore X329.here hx rfl (hb hby at_212) rfl (l' := #[.val (.int p0), .val (.int p1), .val (.int p2), .val (.int p3), .val (.int p4), .val (.int p5), .val (.int (3 : Int32)), .val (.int (3 : Int32)), .val (.int (0 : Int32)), .val (.ref b243), .val (.int (1 : Int32)), .val (.int (1 : Int32))]) rfl k) ?_
            show Goes _ _ _ _ _ _ _ (T329.setTop (mkF m 214 #[.val (.int p0), .val (.int p1), .val (.int p2), .val (.int p3), .val (.int p4), .val (.int p5), .val (.int (3 : Int32)), .val (.int (3 : Int32)), .val (.int (0 : Int32)), .val (.ref b243), .val (.int (1 : Int32)), .val (.int (1 : Int32))] []))
            refine Goes.step (fun _ k => XS.iload X329.here hx rfl (hb hby at_214) rfl  k) ?_
            show Goes _ _ _ _ _ _ _ (T329.setTop (mkF m 216 #[.val (.int p0), .val (.int p1), .val (.int p2), .val (.int p3), .val (.int p4), .val (.int p5), .val (.int (3 : Int32)), .val (.int (3 : Int32)), .val (.int (0 : Int32)), .val (.ref b243), .val (.int (1 : Int32)), .val (.int (1 : Int32))] [(.int (1 : Int32))]))
            exact Goes.ret X329 hx (BodyLoose.notSynchronized Bd) Bd.returns rfl (Or.inl ⟨rfl, by simp, _, rfl⟩) (hb hby at_216) (by show Q0 Z p0 p1 p2 p3 p4 p5 h0 n0 (some (.int (1 : Int32))) T329.heap _; rw [eh329]; exact ⟨rfl, NA329⟩) (by decide) (by decide)
          · exact absurd (by decide : (0 : Int32) = (0 : Int32)) u329_1_0
    · refine Goes.step (fun _ k => XS.ifNo X0.here hx rfl (hb hby at_25) rfl ((if0 _ _).trans (feq c25_242).1) k) ?_
      show Goes _ _ _ _ _ _ _ (s₁.setTop (mkF m 28 #[.val (.int p0), .val (.int p1), .val (.int p2), .val (.int p3), .val (.int p4), .val (.int p5), .val (.int (3 : Int32)), .val (.int ((((p5.toUInt32 >>> ((2 : Int32) &&& 31).toUInt32).toInt32) &&& (3 : Int32)) % (4 : Int32))), .unset, .unset, .unset, .unset] []))
      refine Goes.step (fun _ k => XS.iconst X0.here hx rfl (hb hby at_28) k) ?_
      show Goes _ _ _ _ _ _ _ (s₁.setTop (mkF m 29 #[.val (.int p0), .val (.int p1), .val (.int p2), .val (.int p3), .val (.int p4), .val (.int p5), .val (.int (3 : Int32)), .val (.int ((((p5.toUInt32 >>> ((2 : Int32) &&& 31).toUInt32).toInt32) &&& (3 : Int32)) % (4 : Int32))), .unset, .unset, .unset, .unset] [(.int (1 : Int32))]))
      refine Goes.step (fun _ k => XS.goto X0.here hx rfl (pc0 := 29) (pc' := 33) rfl (hb hby at_29) (by decide) (by decide) k) ?_
      show Goes _ _ _ _ _ _ _ (s₁.setTop (mkF m 33 #[.val (.int p0), .val (.int p1), .val (.int p2), .val (.int p3), .val (.int p4), .val (.int p5), .val (.int (3 : Int32)), .val (.int ((((p5.toUInt32 >>> ((2 : Int32) &&& 31).toUInt32).toInt32) &&& (3 : Int32)) % (4 : Int32))), .unset, .unset, .unset, .unset] [(.int (1 : Int32))]))
      refine Goes.step (fun _ k => XS.istore X0.here hx rfl (hb hby at_33) rfl (l' := #[.val (.int p0), .val (.int p1), .val (.int p2), .val (.int p3), .val (.int p4), .val (.int p5), .val (.int (3 : Int32)), .val (.int ((((p5.toUInt32 >>> ((2 : Int32) &&& 31).toUInt32).toInt32) &&& (3 : Int32)) % (4 : Int32))), .val (.int (1 : Int32)), .unset, .unset, .unset]) rfl k) ?_
      show Goes _ _ _ _ _ _ _ (s₁.setTop (mkF m 35 #[.val (.int p0), .val (.int p1), .val (.int p2), .val (.int p3), .val (.int p4), .val (.int p5), .val (.int (3 : Int32)), .val (.int ((((p5.toUInt32 >>> ((2 : Int32) &&& 31).toUInt32).toInt32) &&& (3 : Int32)) % (4 : Int32))), .val (.int (1 : Int32)), .unset, .unset, .unset] []))
      obtain ⟨T330, h330, X330, e330, E330, A330, D330, -, st330⟩ := newO X0 hx hZ hown (hw _ (List.mem_of_getElem? (i := 0) rfl)) (hw _ (List.mem_of_getElem? (i := 1) rfl)) (hw _ (List.mem_of_getElem? (i := 2) rfl)) e0 (g := (mkF m 35 #[.val (.int p0), .val (.int p1), .val (.int p2), .val (.int p3), .val (.int p4), .val (.int p5), .val (.int (3 : Int32)), .val (.int ((((p5.toUInt32 >>> ((2 : Int32) &&& 31).toUInt32).toInt32) &&& (3 : Int32)) % (4 : Int32))), .val (.int (1 : Int32)), .unset, .unset, .unset] [])) rfl (hb hby at_35) (by decide) (by decide)
      obtain ⟨b330, g330⟩ : ∃ z, z = h0.size := ⟨_, rfl⟩
      rw [← g330] at A330 D330 st330
      refine Goes.step st330 ?_
      have g_b330 : n0 ≤ b330 := Nat.le_trans Z0 (Nat.le_of_eq g330.symm)
      have sz_b330 : h0.size ≤ b330 := Nat.le_trans K0.1 (Nat.le_of_eq g330.symm)
      have K331 : Keep h0 h330 [] := K0.ext E330
      have Z331 : n0 ≤ h330.size := Nat.le_trans Z0 E330.1
      have E_b330 := A330
      have F_nodes_b330 : Fld Z h330 b330 "com/example/hailwise/hailwise/NodeQueue" "nodes" "[I" .null := D330 (Or.inl (hw _ (List.mem_of_getElem? (i := 11) rfl))) (ty := (.array .int)) (by decide)
      have F_keys_b330 : Fld Z h330 b330 "com/example/hailwise/hailwise/NodeQueue" "keys" "[D" .null := D330 (Or.inl (hw _ (List.mem_of_getElem? (i := 14) rfl))) (ty := (.array .double)) (by decide)
      have F_size_b330 : Fld Z h330 b330 "com/example/hailwise/hailwise/NodeQueue" "size" "I" (.int (0 : Int32)) := D330 (Or.inl (hw _ (List.mem_of_getElem? (i := 21) rfl))) (ty := .int) (by decide)
      show Goes _ _ _ _ _ _ _ (T330.setTop (mkF m 38 #[.val (.int p0), .val (.int p1), .val (.int p2), .val (.int p3), .val (.int p4), .val (.int p5), .val (.int (3 : Int32)), .val (.int ((((p5.toUInt32 >>> ((2 : Int32) &&& 31).toUInt32).toInt32) &&& (3 : Int32)) % (4 : Int32))), .val (.int (1 : Int32)), .unset, .unset, .unset] [(.ref b330)]))
      refine Goes.step (fun _ k => XS.dup X330.here hx rfl (hb hby at_38) rfl rfl k) ?_
      show Goes _ _ _ _ _ _ _ (T330.setTop (mkF m 39 #[.val (.int p0), .val (.int p1), .val (.int p2), .val (.int p3), .val (.int p4), .val (.int p5), .val (.int (3 : Int32)), .val (.int ((((p5.toUInt32 >>> ((2 : Int32) &&& 31).toUInt32).toInt32) &&& (3 : Int32)) % (4 : Int32))), .val (.int (1 : Int32)), .unset, .unset, .unset] [(.ref b330), (.ref b330)]))
      obtain ⟨_, _, ⟨T332, L332, k332, n332⟩, -, X332, ⟨Lc332, hQ332, l332, y332, z332⟩, st332⟩ := X330.specialBack hx (y := (⟨"com/example/hailwise/hailwise/NodeQueue", "<init>", "()V"⟩ : MethodName)) rfl hown (mvT hZ (hw _ (List.mem_of_getElem? (i := 3) rfl))) (mvT hZ (hw _ (List.mem_of_getElem? (i := 4) rfl))) (mvT hZ (hw _ (List.mem_of_getElem? (i := 5) rfl))) (by decide) (backOf (W := 1) (rm1 l Z a0 hw [] b330 h330 n0 Z331 F_nodes_b330 F_keys_b330 F_size_b330 E_b330 g_b330) hZ (hw _ (List.mem_of_getElem? (i := 5) rfl)) (hw _ (List.mem_of_getElem? (i := 2) rfl)) (by decide) (by decide)) (g := (mkF m 39 #[.val (.int p0), .val (.int p1), .val (.int p2), .val (.int p3), .val (.int p4), .val (.int p5), .val (.int (3 : Int32)), .val (.int ((((p5.toUInt32 >>> ((2 : Int32) &&& 31).toUInt32).toInt32) &&& (3 : Int32)) % (4 : Int32))), .val (.int (1 : Int32)), .unset, .unset, .unset] [(.ref b330), (.ref b330)])) rfl (by rw [hml]; rfl) (Steps.refl _) (a := b330) (argsL := []) (rest := [(.ref b330)]) (lenOf pd_0 rfl) rfl (by show 2 * 0 + _ ≤ _; exact Nat.le_of_eq rfl) (hb hby at_39) (fun _ _ => ⟨rfl, e330, (by decide : 1 + 2 ≤ _), (by decide : 3 + 128 ≤ _)⟩)
      dsimp only [Pt.U, Pt.locs, Pt.cells, Pt.slots] at X332 l332 y332 z332 st332 hQ332
      subst l332 y332 z332
      obtain ⟨N332, KK332, hR332⟩ := hQ332
      have NA332 := Fr.app N0 N332
      have f333 := E_b330.keep KK332
      have K337 : Keep h0 T332.heap [] := K331.trans KK332 (allS (Or.inr sz_b330) all0)
      have Z337 : n0 ≤ T332.heap.size := Nat.le_trans Z331 KK332.1
      obtain ⟨r332_0_0, r332_0_1, kk332_0_0, kk332_0_1, rfl, g_r332_0_0, le_r332_0_0, g_r332_0_1, le_r332_0_1, nn332_0_0, v332_0_0, v332_0_1, v332_0_2, v332_0_3, v332_0_4, v332_0_5⟩ := hR332
      have ne338 : b330 ≠ r332_0_0 := Nat.ne_of_lt (Nat.lt_of_lt_of_le E_b330.lt le_r332_0_0)
      have sz_r332_0_0 : h0.size ≤ r332_0_0 := Nat.le_trans K331.1 le_r332_0_0
      have ne339 : b330 ≠ r332_0_1 := Nat.ne_of_lt (Nat.lt_of_lt_of_le E_b330.lt le_r332_0_1)
      have sz_r332_0_1 : h0.size ≤ r332_0_1 := Nat.le_trans K331.1 le_r332_0_1
      refine Goes.back st332 ?_
      show Goes _ _ _ _ _ _ _ (T332.setTop (mkF m 42 #[.val (.int p0), .val (.int p1), .val (.int p2), .val (.int p3), .val (.int p4), .val (.int p5), .val (.int (3 : Int32)), .val (.int ((((p5.toUInt32 >>> ((2 : Int32) &&& 31).toUInt32).toInt32) &&& (3 : Int32)) % (4 : Int32))), .val (.int (1 : Int32)), .unset, .unset, .unset] [(.ref b330)]))
      refine Goes.step (fun _ k => XS.astore X332.here hx rfl (hb hby at_42) rfl rfl (l' := #[.val (.int p0), .val (.int p1), .val (.int p2), .val (.int p3), .val (.int p4), .val (.int p5), .val (.int (3 : Int32)), .val (.int ((((p5.toUInt32 >>> ((2 : Int32) &&& 31).toUInt32).toInt32) &&& (3 : Int32)) % (4 : Int32))), .val (.int (1 : Int32)), .val (.ref b330), .unset, .unset]) rfl k) ?_
      show Goes _ _ _ _ _ _ _ (T332.setTop (mkF m 44 #[.val (.int p0), .val (.int p1), .val (.int p2), .val (.int p3), .val (.int p4), .val (.int p5), .val (.int (3 : Int32)), .val (.int ((((p5.toUInt32 >>> ((2 : Int32) &&& 31).toUInt32).toInt32) &&& (3 : Int32)) % (4 : Int32))), .val (.int (1 : Int32)), .val (.ref b330), .unset, .unset] []))
      refine Goes.step (fun _ k => XS.iload X332.here hx rfl (hb hby at_44) rfl  k) ?_
      show Goes _ _ _ _ _ _ _ (T332.setTop (mkF m 46 #[.val (.int p0), .val (.int p1), .val (.int p2), .val (.int p3), .val (.int p4), .val (.int p5), .val (.int (3 : Int32)), .val (.int ((((p5.toUInt32 >>> ((2 : Int32) &&& 31).toUInt32).toInt32) &&& (3 : Int32)) % (4 : Int32))), .val (.int (1 : Int32)), .val (.ref b330), .unset, .unset] [(.int (3 : Int32))]))
      refine Goes.step (fun _ k => XS.iconst X332.here hx rfl (hb hby at_46) k) ?_
      show Goes _ _ _ _ _ _ _ (T332.setTop (mkF m 47 #[.val (.int p0), .val (.int p1), .val (.int p2), .val (.int p3), .val (.int p4), .val (.int p5), .val (.int (3 : Int32)), .val (.int ((((p5.toUInt32 >>> ((2 : Int32) &&& 31).toUInt32).toInt32) &&& (3 : Int32)) % (4 : Int32))), .val (.int (1 : Int32)), .val (.ref b330), .unset, .unset] [(.int (1 : Int32)), (.int (3 : Int32))]))
      refine Goes.step (fun _ k => XS.icmpNo X332.here hx rfl (hb hby at_47) rfl (flt (by decide : ¬ ((3 : Int32) < (1 : Int32)))).1 k) ?_
      show Goes _ _ _ _ _ _ _ (T332.setTop (mkF m 50 #[.val (.int p0), .val (.int p1), .val (.int p2), .val (.int p3), .val (.int p4), .val (.int p5), .val (.int (3 : Int32)), .val (.int ((((p5.toUInt32 >>> ((2 : Int32) &&& 31).toUInt32).toInt32) &&& (3 : Int32)) % (4 : Int32))), .val (.int (1 : Int32)), .val (.ref b330), .unset, .unset] []))
      refine Goes.step (fun _ k => XS.aload X332.here hx rfl (hb hby at_50) rfl rfl k) ?_
      show Goes _ _ _ _ _ _ _ (T332.setTop (mkF m 52 #[.val (.int p0), .val (.int p1), .val (.int p2), .val (.int p3), .val (.int p4), .val (.int p5), .val (.int (3 : Int32)), .val (.int ((((p5.toUInt32 >>> ((2 : Int32) &&& 31).toUInt32).toInt32) &&& (3 : Int32)) % (4 : Int32))), .val (.int (1 : Int32)), .val (.ref b330), .unset, .unset] [(.ref b330)]))
      refine Goes.step (fun _ k => XS.iloadN X332.here hx rfl (hb hby at_52) rfl  k) ?_
      show Goes _ _ _ _ _ _ _ (T332.setTop (mkF m 53 #[.val (.int p0), .val (.int p1), .val (.int p2), .val (.int p3), .val (.int p4), .val (.int p5), .val (.int (3 : Int32)), .val (.int ((((p5.toUInt32 >>> ((2 : Int32) &&& 31).toUInt32).toInt32) &&& (3 : Int32)) % (4 : Int32))), .val (.int (1 : Int32)), .val (.ref b330), .unset, .unset] [(.int p0), (.ref b330)]))
      refine Goes.step (fun _ k => XS.iloadN X332.here hx rfl (hb hby at_53) rfl  k) ?_
      show Goes _ _ _ _ _ _ _ (T332.setTop (mkF m 54 #[.val (.int p0), .val (.int p1), .val (.int p2), .val (.int p3), .val (.int p4), .val (.int p5), .val (.int (3 : Int32)), .val (.int ((((p5.toUInt32 >>> ((2 : Int32) &&& 31).toUInt32).toInt32) &&& (3 : Int32)) % (4 : Int32))), .val (.int (1 : Int32)), .val (.ref b330), .unset, .unset] [(.int p3), (.int p0), (.ref b330)]))
      refine Goes.step (fun _ k => XS.sipush X332.here hx rfl (hb hby at_54) k) ?_
      show Goes _ _ _ _ _ _ _ (T332.setTop (mkF m 57 #[.val (.int p0), .val (.int p1), .val (.int p2), .val (.int p3), .val (.int p4), .val (.int p5), .val (.int (3 : Int32)), .val (.int ((((p5.toUInt32 >>> ((2 : Int32) &&& 31).toUInt32).toInt32) &&& (3 : Int32)) % (4 : Int32))), .val (.int (1 : Int32)), .val (.ref b330), .unset, .unset] [(.int (255 : Int32)), (.int p3), (.int p0), (.ref b330)]))
      refine Goes.step (fun _ k => XS.iand X332.here hx rfl (hb hby at_57) rfl k) ?_
      show Goes _ _ _ _ _ _ _ (T332.setTop (mkF m 58 #[.val (.int p0), .val (.int p1), .val (.int p2), .val (.int p3), .val (.int p4), .val (.int p5), .val (.int (3 : Int32)), .val (.int ((((p5.toUInt32 >>> ((2 : Int32) &&& 31).toUInt32).toInt32) &&& (3 : Int32)) % (4 : Int32))), .val (.int (1 : Int32)), .val (.ref b330), .unset, .unset] [(.int (p3 &&& (255 : Int32))), (.int p0), (.ref b330)]))
      refine Goes.step (fun _ k => XS.i2dS X332.here hx rfl (hb hby at_58) rfl rfl k) ?_
      show Goes _ _ _ _ _ _ _ (T332.setTop (mkF m 59 #[.val (.int p0), .val (.int p1), .val (.int p2), .val (.int p3), .val (.int p4), .val (.int p5), .val (.int (3 : Int32)), .val (.int ((((p5.toUInt32 >>> ((2 : Int32) &&& 31).toUInt32).toInt32) &&& (3 : Int32)) % (4 : Int32))), .val (.int (1 : Int32)), .val (.ref b330), .unset, .unset] [(.double (FP.i2d (p3 &&& (255 : Int32)))), (.int p0), (.ref b330)]))
      obtain ⟨cq340, kq340, q340a, q340b, q340c⟩ := isOf hZ rfl v332_0_3
      obtain ⟨_, _, ⟨T340, L340, k340, n340⟩, -, X340, ⟨Lc340, hQ340, l340, y340, z340⟩, st340⟩ := X332.virtualBack hx (y := (⟨"com/example/hailwise/hailwise/NodeQueue", "add", "(ID)V"⟩ : MethodName)) (z := (⟨"com/example/hailwise/hailwise/NodeQueue", "add", "(ID)V"⟩ : MethodName)) hown (mvT hZ (hw _ (List.mem_of_getElem? (i := 15) rfl))) (mvT hZ (hw _ (List.mem_of_getElem? (i := 16) rfl))) (notFace_of_selects (args := #[]) (mvT hZ (hw _ (List.mem_of_getElem? (i := 18) rfl)))) (mvT hZ (hw _ (List.mem_of_getElem? (i := 18) rfl))) (mvT hZ (hw _ (List.mem_of_getElem? (i := 17) rfl))) (by decide) (backOf (W := 0) (rm3_0 l Z a0 hw [] b330 p0 (FP.i2d (p3 &&& (255 : Int32))) r332_0_0 r332_0_1 kk332_0_0 kk332_0_1 T332.heap n0 Z337 v332_0_0 v332_0_1 v332_0_2 v332_0_3 v332_0_4 v332_0_5 g_b330 g_r332_0_0 g_r332_0_1 ne338 ne339 (Ne.symm nn332_0_0)) hZ (hw _ (List.mem_of_getElem? (i := 19) rfl)) (hw _ (List.mem_of_getElem? (i := 2) rfl)) (by decide) (by decide)) q340a q340c (g := (mkF m 59 #[.val (.int p0), .val (.int p1), .val (.int p2), .val (.int p3), .val (.int p4), .val (.int p5), .val (.int (3 : Int32)), .val (.int ((((p5.toUInt32 >>> ((2 : Int32) &&& 31).toUInt32).toInt32) &&& (3 : Int32)) % (4 : Int32))), .val (.int (1 : Int32)), .val (.ref b330), .unset, .unset] [(.double (FP.i2d (p3 &&& (255 : Int32)))), (.int p0), (.ref b330)])) rfl (by rw [hml]; rfl) (Steps.refl _) (argsL := [(.int p0), (.double (FP.i2d (p3 &&& (255 : Int32))))]) (rest := []) (lenOf pd_1 rfl) rfl (by show 2 * 0 + _ ≤ _; exact Nat.le_of_eq rfl) (hb hby at_59) (fun _ _ => ⟨rfl, rfl, (by decide : 3 + 0 ≤ _), (by decide : 131 + 0 ≤ _)⟩)
      dsimp only [Pt.U, Pt.locs, Pt.cells, Pt.slots] at X340 l340 y340 z340 st340 hQ340
      subst l340 y340 z340
      obtain ⟨N340, KK340, hR340⟩ := hQ340
      have NA340 := Fr.app NA332 N340
      have f341 := v332_0_3.keep KK340
      have K347 : Keep h0 T340.heap [] := K337.trans KK340 (allS (Or.inr sz_b330) (allS (Or.inr sz_r332_0_0) (allS (Or.inr sz_r332_0_1) all0)))
      have Z347 : n0 ≤ T340.heap.size := Nat.le_trans Z337 KK340.1
      obtain ⟨rfl, v340_0_0, v340_0_1, v340_0_2, v340_0_3, v340_0_4, v340_0_5⟩ := hR340
      refine Goes.back st340 ?_
      show Goes _ _ _ _ _ _ _ (T340.setTop (mkF m 62 #[.val (.int p0), .val (.int p1), .val (.int p2), .val (.int p3), .val (.int p4), .val (.int p5), .val (.int (3 : Int32)), .val (.int ((((p5.toUInt32 >>> ((2 : Int32) &&& 31).toUInt32).toInt32) &&& (3 : Int32)) % (4 : Int32))), .val (.int (1 : Int32)), .val (.ref b330), .unset, .unset] []))
      refine Goes.step (fun _ k => XS.iload X340.here hx rfl (hb hby at_62) rfl  k) ?_
      show Goes _ _ _ _ _ _ _ (T340.setTop (mkF m 64 #[.val (.int p0), .val (.int p1), .val (.int p2), .val (.int p3), .val (.int p4), .val (.int p5), .val (.int (3 : Int32)), .val (.int ((((p5.toUInt32 >>> ((2 : Int32) &&& 31).toUInt32).toInt32) &&& (3 : Int32)) % (4 : Int32))), .val (.int (1 : Int32)), .val (.ref b330), .unset, .unset] [(.int (3 : Int32))]))
      refine Goes.step (fun _ k => XS.iconst X340.here hx rfl (hb hby at_64) k) ?_
      show Goes _ _ _ _ _ _ _ (T340.setTop (mkF m 65 #[.val (.int p0), .val (.int p1), .val (.int p2), .val (.int p3), .val (.int p4), .val (.int p5), .val (.int (3 : Int32)), .val (.int ((((p5.toUInt32 >>> ((2 : Int32) &&& 31).toUInt32).toInt32) &&& (3 : Int32)) % (4 : Int32))), .val (.int (1 : Int32)), .val (.ref b330), .unset, .unset] [(.int (2 : Int32)), (.int (3 : Int32))]))
      refine Goes.step (fun _ k => XS.icmpNo X340.here hx rfl (hb hby at_65) rfl (flt (by decide : ¬ ((3 : Int32) < (2 : Int32)))).1 k) ?_
      show Goes _ _ _ _ _ _ _ (T340.setTop (mkF m 68 #[.val (.int p0), .val (.int p1), .val (.int p2), .val (.int p3), .val (.int p4), .val (.int p5), .val (.int (3 : Int32)), .val (.int ((((p5.toUInt32 >>> ((2 : Int32) &&& 31).toUInt32).toInt32) &&& (3 : Int32)) % (4 : Int32))), .val (.int (1 : Int32)), .val (.ref b330), .unset, .unset] []))
      refine Goes.step (fun _ k => XS.aload X340.here hx rfl (hb hby at_68) rfl rfl k) ?_
      show Goes _ _ _ _ _ _ _ (T340.setTop (mkF m 70 #[.val (.int p0), .val (.int p1), .val (.int p2), .val (.int p3), .val (.int p4), .val (.int p5), .val (.int (3 : Int32)), .val (.int ((((p5.toUInt32 >>> ((2 : Int32) &&& 31).toUInt32).toInt32) &&& (3 : Int32)) % (4 : Int32))), .val (.int (1 : Int32)), .val (.ref b330), .unset, .unset] [(.ref b330)]))
      refine Goes.step (fun _ k => XS.iloadN X340.here hx rfl (hb hby at_70) rfl  k) ?_
      show Goes _ _ _ _ _ _ _ (T340.setTop (mkF m 71 #[.val (.int p0), .val (.int p1), .val (.int p2), .val (.int p3), .val (.int p4), .val (.int p5), .val (.int (3 : Int32)), .val (.int ((((p5.toUInt32 >>> ((2 : Int32) &&& 31).toUInt32).toInt32) &&& (3 : Int32)) % (4 : Int32))), .val (.int (1 : Int32)), .val (.ref b330), .unset, .unset] [(.int p1), (.ref b330)]))
      refine Goes.step (fun _ k => XS.iload X340.here hx rfl (hb hby at_71) rfl  k) ?_
      show Goes _ _ _ _ _ _ _ (T340.setTop (mkF m 73 #[.val (.int p0), .val (.int p1), .val (.int p2), .val (.int p3), .val (.int p4), .val (.int p5), .val (.int (3 : Int32)), .val (.int ((((p5.toUInt32 >>> ((2 : Int32) &&& 31).toUInt32).toInt32) &&& (3 : Int32)) % (4 : Int32))), .val (.int (1 : Int32)), .val (.ref b330), .unset, .unset] [(.int p4), (.int p1), (.ref b330)]))
      refine Goes.step (fun _ k => XS.sipush X340.here hx rfl (hb hby at_73) k) ?_
      show Goes _ _ _ _ _ _ _ (T340.setTop (mkF m 76 #[.val (.int p0), .val (.int p1), .val (.int p2), .val (.int p3), .val (.int p4), .val (.int p5), .val (.int (3 : Int32)), .val (.int ((((p5.toUInt32 >>> ((2 : Int32) &&& 31).toUInt32).toInt32) &&& (3 : Int32)) % (4 : Int32))), .val (.int (1 : Int32)), .val (.ref b330), .unset, .unset] [(.int (255 : Int32)), (.int p4), (.int p1), (.ref b330)]))
      refine Goes.step (fun _ k => XS.iand X340.here hx rfl (hb hby at_76) rfl k) ?_
      show Goes _ _ _ _ _ _ _ (T340.setTop (mkF m 77 #[.val (.int p0), .val (.int p1), .val (.int p2), .val (.int p3), .val (.int p4), .val (.int p5), .val (.int (3 : Int32)), .val (.int ((((p5.toUInt32 >>> ((2 : Int32) &&& 31).toUInt32).toInt32) &&& (3 : Int32)) % (4 : Int32))), .val (.int (1 : Int32)), .val (.ref b330), .unset, .unset] [(.int (p4 &&& (255 : Int32))), (.int p1), (.ref b330)]))
      refine Goes.step (fun _ k => XS.i2dS X340.here hx rfl (hb hby at_77) rfl rfl k) ?_
      show Goes _ _ _ _ _ _ _ (T340.setTop (mkF m 78 #[.val (.int p0), .val (.int p1), .val (.int p2), .val (.int p3), .val (.int p4), .val (.int p5), .val (.int (3 : Int32)), .val (.int ((((p5.toUInt32 >>> ((2 : Int32) &&& 31).toUInt32).toInt32) &&& (3 : Int32)) % (4 : Int32))), .val (.int (1 : Int32)), .val (.ref b330), .unset, .unset] [(.double (FP.i2d (p4 &&& (255 : Int32)))), (.int p1), (.ref b330)]))
      obtain ⟨cq348, kq348, q348a, q348b, q348c⟩ := isOf hZ rfl v340_0_3
      obtain ⟨_, _, ⟨T348, L348, k348, n348⟩, -, X348, ⟨Lc348, hQ348, l348, y348, z348⟩, st348⟩ := X340.virtualBack hx (y := (⟨"com/example/hailwise/hailwise/NodeQueue", "add", "(ID)V"⟩ : MethodName)) (z := (⟨"com/example/hailwise/hailwise/NodeQueue", "add", "(ID)V"⟩ : MethodName)) hown (mvT hZ (hw _ (List.mem_of_getElem? (i := 15) rfl))) (mvT hZ (hw _ (List.mem_of_getElem? (i := 16) rfl))) (notFace_of_selects (args := #[]) (mvT hZ (hw _ (List.mem_of_getElem? (i := 18) rfl)))) (mvT hZ (hw _ (List.mem_of_getElem? (i := 18) rfl))) (mvT hZ (hw _ (List.mem_of_getElem? (i := 17) rfl))) (by decide) (backOf (W := 0) (rm3_1 l Z a0 hw [] b330 p1 (FP.i2d (p4 &&& (255 : Int32))) r332_0_0 r332_0_1 kk332_0_0 kk332_0_1 T340.heap n0 Z347 v340_0_0 v340_0_1 v340_0_2 v340_0_3 v340_0_4 v340_0_5 g_b330 g_r332_0_0 g_r332_0_1 ne338 ne339 (Ne.symm nn332_0_0)) hZ (hw _ (List.mem_of_getElem? (i := 19) rfl)) (hw _ (List.mem_of_getElem? (i := 2) rfl)) (by decide) (by decide)) q348a q348c (g := (mkF m 78 #[.val (.int p0), .val (.int p1), .val (.int p2), .val (.int p3), .val (.int p4), .val (.int p5), .val (.int (3 : Int32)), .val (.int ((((p5.toUInt32 >>> ((2 : Int32) &&& 31).toUInt32).toInt32) &&& (3 : Int32)) % (4 : Int32))), .val (.int (1 : Int32)), .val (.ref b330), .unset, .unset] [(.double (FP.i2d (p4 &&& (255 : Int32)))), (.int p1), (.ref b330)])) rfl (by rw [hml]; rfl) (Steps.refl _) (argsL := [(.int p1), (.double (FP.i2d (p4 &&& (255 : Int32))))]) (rest := []) (lenOf pd_1 rfl) rfl (by show 2 * 0 + _ ≤ _; exact Nat.le_of_eq rfl) (hb hby at_78) (fun _ _ => ⟨rfl, rfl, (by decide : 3 + 0 ≤ _), (by decide : 131 + 0 ≤ _)⟩)
      dsimp only [Pt.U, Pt.locs, Pt.cells, Pt.slots] at X348 l348 y348 z348 st348 hQ348
      subst l348 y348 z348
      obtain ⟨N348, KK348, hR348⟩ := hQ348
      have NA348 := Fr.app NA340 N348
      have f349 := v340_0_3.keep KK348
      have K355 : Keep h0 T348.heap [] := K347.trans KK348 (allS (Or.inr sz_b330) (allS (Or.inr sz_r332_0_0) (allS (Or.inr sz_r332_0_1) all0)))
      have Z355 : n0 ≤ T348.heap.size := Nat.le_trans Z347 KK348.1
      obtain ⟨rfl, v348_0_0, v348_0_1, v348_0_2, v348_0_3, v348_0_4, v348_0_5⟩ := hR348
      refine Goes.back st348 ?_
      show Goes _ _ _ _ _ _ _ (T348.setTop (mkF m 81 #[.val (.int p0), .val (.int p1), .val (.int p2), .val (.int p3), .val (.int p4), .val (.int p5), .val (.int (3 : Int32)), .val (.int ((((p5.toUInt32 >>> ((2 : Int32) &&& 31).toUInt32).toInt32) &&& (3 : Int32)) % (4 : Int32))), .val (.int (1 : Int32)), .val (.ref b330), .unset, .unset] []))
      refine Goes.step (fun _ k => XS.iload X348.here hx rfl (hb hby at_81) rfl  k) ?_
      show Goes _ _ _ _ _ _ _ (T348.setTop (mkF m 83 #[.val (.int p0), .val (.int p1), .val (.int p2), .val (.int p3), .val (.int p4), .val (.int p5), .val (.int (3 : Int32)), .val (.int ((((p5.toUInt32 >>> ((2 : Int32) &&& 31).toUInt32).toInt32) &&& (3 : Int32)) % (4 : Int32))), .val (.int (1 : Int32)), .val (.ref b330), .unset, .unset] [(.int (3 : Int32))]))
      refine Goes.step (fun _ k => XS.iconst X348.here hx rfl (hb hby at_83) k) ?_
      show Goes _ _ _ _ _ _ _ (T348.setTop (mkF m 84 #[.val (.int p0), .val (.int p1), .val (.int p2), .val (.int p3), .val (.int p4), .val (.int p5), .val (.int (3 : Int32)), .val (.int ((((p5.toUInt32 >>> ((2 : Int32) &&& 31).toUInt32).toInt32) &&& (3 : Int32)) % (4 : Int32))), .val (.int (1 : Int32)), .val (.ref b330), .unset, .unset] [(.int (3 : Int32)), (.int (3 : Int32))]))
      refine Goes.step (fun _ k => XS.icmpNo X348.here hx rfl (hb hby at_84) rfl (flt (by decide : ¬ ((3 : Int32) < (3 : Int32)))).1 k) ?_
      show Goes _ _ _ _ _ _ _ (T348.setTop (mkF m 87 #[.val (.int p0), .val (.int p1), .val (.int p2), .val (.int p3), .val (.int p4), .val (.int p5), .val (.int (3 : Int32)), .val (.int ((((p5.toUInt32 >>> ((2 : Int32) &&& 31).toUInt32).toInt32) &&& (3 : Int32)) % (4 : Int32))), .val (.int (1 : Int32)), .val (.ref b330), .unset, .unset] []))
      refine Goes.step (fun _ k => XS.aload X348.here hx rfl (hb hby at_87) rfl rfl k) ?_
      show Goes _ _ _ _ _ _ _ (T348.setTop (mkF m 89 #[.val (.int p0), .val (.int p1), .val (.int p2), .val (.int p3), .val (.int p4), .val (.int p5), .val (.int (3 : Int32)), .val (.int ((((p5.toUInt32 >>> ((2 : Int32) &&& 31).toUInt32).toInt32) &&& (3 : Int32)) % (4 : Int32))), .val (.int (1 : Int32)), .val (.ref b330), .unset, .unset] [(.ref b330)]))
      refine Goes.step (fun _ k => XS.iloadN X348.here hx rfl (hb hby at_89) rfl  k) ?_
      show Goes _ _ _ _ _ _ _ (T348.setTop (mkF m 90 #[.val (.int p0), .val (.int p1), .val (.int p2), .val (.int p3), .val (.int p4), .val (.int p5), .val (.int (3 : Int32)), .val (.int ((((p5.toUInt32 >>> ((2 : Int32) &&& 31).toUInt32).toInt32) &&& (3 : Int32)) % (4 : Int32))), .val (.int (1 : Int32)), .val (.ref b330), .unset, .unset] [(.int p2), (.ref b330)]))
      refine Goes.step (fun _ k => XS.iloadN X348.here hx rfl (hb hby at_90) rfl  k) ?_
      show Goes _ _ _ _ _ _ _ (T348.setTop (mkF m 91 #[.val (.int p0), .val (.int p1), .val (.int p2), .val (.int p3), .val (.int p4), .val (.int p5), .val (.int (3 : Int32)), .val (.int ((((p5.toUInt32 >>> ((2 : Int32) &&& 31).toUInt32).toInt32) &&& (3 : Int32)) % (4 : Int32))), .val (.int (1 : Int32)), .val (.ref b330), .unset, .unset] [(.int p3), (.int p2), (.ref b330)]))
      refine Goes.step (fun _ k => XS.iload X348.here hx rfl (hb hby at_91) rfl  k) ?_
      show Goes _ _ _ _ _ _ _ (T348.setTop (mkF m 93 #[.val (.int p0), .val (.int p1), .val (.int p2), .val (.int p3), .val (.int p4), .val (.int p5), .val (.int (3 : Int32)), .val (.int ((((p5.toUInt32 >>> ((2 : Int32) &&& 31).toUInt32).toInt32) &&& (3 : Int32)) % (4 : Int32))), .val (.int (1 : Int32)), .val (.ref b330), .unset, .unset] [(.int p4), (.int p3), (.int p2), (.ref b330)]))
      refine Goes.step (fun _ k => XS.ixor X348.here hx rfl (hb hby at_93) rfl k) ?_
      show Goes _ _ _ _ _ _ _ (T348.setTop (mkF m 94 #[.val (.int p0), .val (.int p1), .val (.int p2), .val (.int p3), .val (.int p4), .val (.int p5), .val (.int (3 : Int32)), .val (.int ((((p5.toUInt32 >>> ((2 : Int32) &&& 31).toUInt32).toInt32) &&& (3 : Int32)) % (4 : Int32))), .val (.int (1 : Int32)), .val (.ref b330), .unset, .unset] [(.int (p3 ^^^ p4)), (.int p2), (.ref b330)]))
      refine Goes.step (fun _ k => XS.sipush X348.here hx rfl (hb hby at_94) k) ?_
      show Goes _ _ _ _ _ _ _ (T348.setTop (mkF m 97 #[.val (.int p0), .val (.int p1), .val (.int p2), .val (.int p3), .val (.int p4), .val (.int p5), .val (.int (3 : Int32)), .val (.int ((((p5.toUInt32 >>> ((2 : Int32) &&& 31).toUInt32).toInt32) &&& (3 : Int32)) % (4 : Int32))), .val (.int (1 : Int32)), .val (.ref b330), .unset, .unset] [(.int (255 : Int32)), (.int (p3 ^^^ p4)), (.int p2), (.ref b330)]))
      refine Goes.step (fun _ k => XS.iand X348.here hx rfl (hb hby at_97) rfl k) ?_
      show Goes _ _ _ _ _ _ _ (T348.setTop (mkF m 98 #[.val (.int p0), .val (.int p1), .val (.int p2), .val (.int p3), .val (.int p4), .val (.int p5), .val (.int (3 : Int32)), .val (.int ((((p5.toUInt32 >>> ((2 : Int32) &&& 31).toUInt32).toInt32) &&& (3 : Int32)) % (4 : Int32))), .val (.int (1 : Int32)), .val (.ref b330), .unset, .unset] [(.int ((p3 ^^^ p4) &&& (255 : Int32))), (.int p2), (.ref b330)]))
      refine Goes.step (fun _ k => XS.i2dS X348.here hx rfl (hb hby at_98) rfl rfl k) ?_
      show Goes _ _ _ _ _ _ _ (T348.setTop (mkF m 99 #[.val (.int p0), .val (.int p1), .val (.int p2), .val (.int p3), .val (.int p4), .val (.int p5), .val (.int (3 : Int32)), .val (.int ((((p5.toUInt32 >>> ((2 : Int32) &&& 31).toUInt32).toInt32) &&& (3 : Int32)) % (4 : Int32))), .val (.int (1 : Int32)), .val (.ref b330), .unset, .unset] [(.double (FP.i2d ((p3 ^^^ p4) &&& (255 : Int32)))), (.int p2), (.ref b330)]))
      obtain ⟨cq356, kq356, q356a, q356b, q356c⟩ := isOf hZ rfl v348_0_3
      obtain ⟨_, _, ⟨T356, L356, k356, n356⟩, -, X356, ⟨Lc356, hQ356, l356, y356, z356⟩, st356⟩ := X348.virtualBack hx (y := (⟨"com/example/hailwise/hailwise/NodeQueue", "add", "(ID)V"⟩ : MethodName)) (z := (⟨"com/example/hailwise/hailwise/NodeQueue", "add", "(ID)V"⟩ : MethodName)) hown (mvT hZ (hw _ (List.mem_of_getElem? (i := 15) rfl))) (mvT hZ (hw _ (List.mem_of_getElem? (i := 16) rfl))) (notFace_of_selects (args := #[]) (mvT hZ (hw _ (List.mem_of_getElem? (i := 18) rfl)))) (mvT hZ (hw _ (List.mem_of_getElem? (i := 18) rfl))) (mvT hZ (hw _ (List.mem_of_getElem? (i := 17) rfl))) (by decide) (backOf (W := 0) (rm3_2 l Z a0 hw [] b330 p2 (FP.i2d ((p3 ^^^ p4) &&& (255 : Int32))) r332_0_0 r332_0_1 kk332_0_0 kk332_0_1 T348.heap n0 Z355 v348_0_0 v348_0_1 v348_0_2 v348_0_3 v348_0_4 v348_0_5 g_b330 g_r332_0_0 g_r332_0_1 ne338 ne339 (Ne.symm nn332_0_0)) hZ (hw _ (List.mem_of_getElem? (i := 19) rfl)) (hw _ (List.mem_of_getElem? (i := 2) rfl)) (by decide) (by decide)) q356a q356c (g := (mkF m 99 #[.val (.int p0), .val (.int p1), .val (.int p2), .val (.int p3), .val (.int p4), .val (.int p5), .val (.int (3 : Int32)), .val (.int ((((p5.toUInt32 >>> ((2 : Int32) &&& 31).toUInt32).toInt32) &&& (3 : Int32)) % (4 : Int32))), .val (.int (1 : Int32)), .val (.ref b330), .unset, .unset] [(.double (FP.i2d ((p3 ^^^ p4) &&& (255 : Int32)))), (.int p2), (.ref b330)])) rfl (by rw [hml]; rfl) (Steps.refl _) (argsL := [(.int p2), (.double (FP.i2d ((p3 ^^^ p4) &&& (255 : Int32))))]) (rest := []) (lenOf pd_1 rfl) rfl (by show 2 * 0 + _ ≤ _; exact Nat.le_of_eq rfl) (hb hby at_99) (fun _ _ => ⟨rfl, rfl, (by decide : 3 + 0 ≤ _), (by decide : 131 + 0 ≤ _)⟩)
      dsimp only [Pt.U, Pt.locs, Pt.cells, Pt.slots] at X356 l356 y356 z356 st356 hQ356
      subst l356 y356 z356
      obtain ⟨N356, KK356, hR356⟩ := hQ356
      have NA356 := Fr.app NA348 N356
      have f357 := v348_0_3.keep KK356
      have K363 : Keep h0 T356.heap [] := K355.trans KK356 (allS (Or.inr sz_b330) (allS (Or.inr sz_r332_0_0) (allS (Or.inr sz_r332_0_1) all0)))
      have Z363 : n0 ≤ T356.heap.size := Nat.le_trans Z355 KK356.1
      obtain ⟨rfl, v356_0_0, v356_0_1, v356_0_2, v356_0_3, v356_0_4, v356_0_5⟩ := hR356
      refine Goes.back st356 ?_
      show Goes _ _ _ _ _ _ _ (T356.setTop (mkF m 102 #[.val (.int p0), .val (.int p1), .val (.int p2), .val (.int p3), .val (.int p4), .val (.int p5), .val (.int (3 : Int32)), .val (.int ((((p5.toUInt32 >>> ((2 : Int32) &&& 31).toUInt32).toInt32) &&& (3 : Int32)) % (4 : Int32))), .val (.int (1 : Int32)), .val (.ref b330), .unset, .unset] []))
      refine Goes.step (fun _ k => XS.aload X356.here hx rfl (hb hby at_102) rfl rfl k) ?_
      show Goes _ _ _ _ _ _ _ (T356.setTop (mkF m 104 #[.val (.int p0), .val (.int p1), .val (.int p2), .val (.int p3), .val (.int p4), .val (.int p5), .val (.int (3 : Int32)), .val (.int ((((p5.toUInt32 >>> ((2 : Int32) &&& 31).toUInt32).toInt32) &&& (3 : Int32)) % (4 : Int32))), .val (.int (1 : Int32)), .val (.ref b330), .unset, .unset] [(.ref b330)]))
      obtain ⟨cq364, kq364, q364a, q364b, q364c⟩ := isOf hZ rfl v356_0_3
      obtain ⟨_, _, ⟨T364, L364, k364, n364⟩, -, X364, ⟨Lc364, hQ364, l364, y364, z364⟩, st364⟩ := X356.virtualBack hx (y := (⟨"com/example/hailwise/hailwise/NodeQueue", "isEmpty", "()Z"⟩ : MethodName)) (z := (⟨"com/example/hailwise/hailwise/NodeQueue", "isEmpty", "()Z"⟩ : MethodName)) hown (mvT hZ (hw _ (List.mem_of_getElem? (i := 22) rfl))) (mvT hZ (hw _ (List.mem_of_getElem? (i := 23) rfl))) (notFace_of_selects (args := #[]) (mvT hZ (hw _ (List.mem_of_getElem? (i := 25) rfl)))) (mvT hZ (hw _ (List.mem_of_getElem? (i := 25) rfl))) (mvT hZ (hw _ (List.mem_of_getElem? (i := 24) rfl))) (by decide) (backOf (W := 0) (rm4 l Z a0 hw [] b330 (3 : Int32) T356.heap n0 Z363 v356_0_2) hZ (hw _ (List.mem_of_getElem? (i := 26) rfl)) (hw _ (List.mem_of_getElem? (i := 2) rfl)) (by decide) (by decide)) q364a q364c (g := (mkF m 104 #[.val (.int p0), .val (.int p1), .val (.int p2), .val (.int p3), .val (.int p4), .val (.int p5), .val (.int (3 : Int32)), .val (.int ((((p5.toUInt32 >>> ((2 : Int32) &&& 31).toUInt32).toInt32) &&& (3 : Int32)) % (4 : Int32))), .val (.int (1 : Int32)), .val (.ref b330), .unset, .unset] [(.ref b330)])) rfl (by rw [hml]; rfl) (Steps.refl _) (argsL := []) (rest := []) (lenOf pd_2 rfl) rfl (by show 2 * 0 + _ ≤ _; exact Nat.le_of_eq rfl) (hb hby at_104) (fun _ _ => ⟨rfl, rfl, (by decide : 3 + 0 ≤ _), (by decide : 131 + 0 ≤ _)⟩)
      dsimp only [Pt.U, Pt.locs, Pt.cells, Pt.slots] at X364 l364 y364 z364 st364 hQ364
      subst l364 y364 z364
      obtain ⟨N364, eh364, hR364⟩ := hQ364
      have NA364 := Fr.app NA356 N364
      rcases hR364 with ⟨rfl, u364_0_0⟩ | ⟨rfl, u364_1_0⟩
      · exact absurd u364_0_0 (by decide : ¬ ((3 : Int32) = (0 : Int32)))
      · refine Goes.back st364 ?_
        show Goes _ _ _ _ _ _ _ (T364.setTop (mkF m 107 #[.val (.int p0), .val (.int p1), .val (.int p2), .val (.int p3), .val (.int p4), .val (.int p5), .val (.int (3 : Int32)), .val (.int ((((p5.toUInt32 >>> ((2 : Int32) &&& 31).toUInt32).toInt32) &&& (3 : Int32)) % (4 : Int32))), .val (.int (1 : Int32)), .val (.ref b330), .unset, .unset] [(.int (0 : Int32))]))
        refine Goes.step (fun _ k => XS.iload X364.here hx rfl (hb hby at_107) rfl  k) ?_
        show Goes _ _ _ _ _ _ _ (T364.setTop (mkF m 109 #[.val (.int p0), .val (.int p1), .val (.int p2), .val (.int p3), .val (.int p4), .val (.int p5), .val (.int (3 : Int32)), .val (.int ((((p5.toUInt32 >>> ((2 : Int32) &&& 31).toUInt32).toInt32) &&& (3 : Int32)) % (4 : Int32))), .val (.int (1 : Int32)), .val (.ref b330), .unset, .unset] [(.int (3 : Int32)), (.int (0 : Int32))]))
        refine Goes.step (fun _ k => XS.ifYes X364.here hx rfl (pc0 := 109) (pc' := 116) rfl (hb hby at_109) rfl ((if0 _ _).trans (feq (by decide : ¬ ((3 : Int32) = (0 : Int32)))).2) (by decide) (by decide) k) ?_
        show Goes _ _ _ _ _ _ _ (T364.setTop (mkF m 116 #[.val (.int p0), .val (.int p1), .val (.int p2), .val (.int p3), .val (.int p4), .val (.int p5), .val (.int (3 : Int32)), .val (.int ((((p5.toUInt32 >>> ((2 : Int32) &&& 31).toUInt32).toInt32) &&& (3 : Int32)) % (4 : Int32))), .val (.int (1 : Int32)), .val (.ref b330), .unset, .unset] [(.int (0 : Int32))]))
        refine Goes.step (fun _ k => XS.iconst X364.here hx rfl (hb hby at_116) k) ?_
        show Goes _ _ _ _ _ _ _ (T364.setTop (mkF m 117 #[.val (.int p0), .val (.int p1), .val (.int p2), .val (.int p3), .val (.int p4), .val (.int p5), .val (.int (3 : Int32)), .val (.int ((((p5.toUInt32 >>> ((2 : Int32) &&& 31).toUInt32).toInt32) &&& (3 : Int32)) % (4 : Int32))), .val (.int (1 : Int32)), .val (.ref b330), .unset, .unset] [(.int (0 : Int32)), (.int (0 : Int32))]))
        refine Goes.step (fun _ k => XS.icmpNo X364.here hx rfl (hb hby at_117) rfl (teq (by decide : (0 : Int32) = (0 : Int32))).2 k) ?_
        show Goes _ _ _ _ _ _ _ (T364.setTop (mkF m 120 #[.val (.int p0), .val (.int p1), .val (.int p2), .val (.int p3), .val (.int p4), .val (.int p5), .val (.int (3 : Int32)), .val (.int ((((p5.toUInt32 >>> ((2 : Int32) &&& 31).toUInt32).toInt32) &&& (3 : Int32)) % (4 : Int32))), .val (.int (1 : Int32)), .val (.ref b330), .unset, .unset] []))
        refine Goes.step (fun _ k => XS.iconst X364.here hx rfl (hb hby at_120) k) ?_
        show Goes _ _ _ _ _ _ _ (T364.setTop (mkF m 121 #[.val (.int p0), .val (.int p1), .val (.int p2), .val (.int p3), .val (.int p4), .val (.int p5), .val (.int (3 : Int32)), .val (.int ((((p5.toUInt32 >>> ((2 : Int32) &&& 31).toUInt32).toInt32) &&& (3 : Int32)) % (4 : Int32))), .val (.int (1 : Int32)), .val (.ref b330), .unset, .unset] [(.int (1 : Int32))]))
        refine Goes.step (fun _ k => XS.goto X364.here hx rfl (pc0 := 121) (pc' := 125) rfl (hb hby at_121) (by decide) (by decide) k) ?_
        show Goes _ _ _ _ _ _ _ (T364.setTop (mkF m 125 #[.val (.int p0), .val (.int p1), .val (.int p2), .val (.int p3), .val (.int p4), .val (.int p5), .val (.int (3 : Int32)), .val (.int ((((p5.toUInt32 >>> ((2 : Int32) &&& 31).toUInt32).toInt32) &&& (3 : Int32)) % (4 : Int32))), .val (.int (1 : Int32)), .val (.ref b330), .unset, .unset] [(.int (1 : Int32))]))
        refine Goes.step (fun _ k => XS.istore X364.here hx rfl (hb hby at_125) rfl (l' := #[.val (.int p0), .val (.int p1), .val (.int p2), .val (.int p3), .val (.int p4), .val (.int p5), .val (.int (3 : Int32)), .val (.int ((((p5.toUInt32 >>> ((2 : Int32) &&& 31).toUInt32).toInt32) &&& (3 : Int32)) % (4 : Int32))), .val (.int (1 : Int32)), .val (.ref b330), .val (.int (1 : Int32)), .unset]) rfl k) ?_
        show Goes _ _ _ _ _ _ _ (T364.setTop (mkF m 127 #[.val (.int p0), .val (.int p1), .val (.int p2), .val (.int p3), .val (.int p4), .val (.int p5), .val (.int (3 : Int32)), .val (.int ((((p5.toUInt32 >>> ((2 : Int32) &&& 31).toUInt32).toInt32) &&& (3 : Int32)) % (4 : Int32))), .val (.int (1 : Int32)), .val (.ref b330), .val (.int (1 : Int32)), .unset] []))
        generalize hg_m7 : ((((p5.toUInt32 >>> ((2 : Int32) &&& 31).toUInt32).toInt32) &&& (3 : Int32)) % (4 : Int32)) = m7
        show Goes _ _ _ _ _ _ _ (T364.setTop (mkF m 127 #[.val (.int p0), .val (.int p1), .val (.int p2), .val (.int p3), .val (.int p4), .val (.int p5), .val (.int (3 : Int32)), .val (.int m7), .val (.int (1 : Int32)), .val (.ref b330), .val (.int (1 : Int32)), .unset] []))
        rcases own_m4 hg_m7 with rfl | rfl | rfl | rfl
        · show Goes _ _ _ _ _ _ _ (T364.setTop (mkF m 127 #[.val (.int p0), .val (.int p1), .val (.int p2), .val (.int p3), .val (.int p4), .val (.int p5), .val (.int (3 : Int32)), .val (.int (0 : Int32)), .val (.int (1 : Int32)), .val (.ref b330), .val (.int (1 : Int32)), .unset] []))
          refine Goes.step (fun _ k => XS.iload X364.here hx rfl (hb hby at_127) rfl  k) ?_
          show Goes _ _ _ _ _ _ _ (T364.setTop (mkF m 129 #[.val (.int p0), .val (.int p1), .val (.int p2), .val (.int p3), .val (.int p4), .val (.int p5), .val (.int (3 : Int32)), .val (.int (0 : Int32)), .val (.int (1 : Int32)), .val (.ref b330), .val (.int (1 : Int32)), .unset] [(.int (0 : Int32))]))
          refine Goes.step (fun _ k => XS.iconst X364.here hx rfl (hb hby at_129) k) ?_
          show Goes _ _ _ _ _ _ _ (T364.setTop (mkF m 130 #[.val (.int p0), .val (.int p1), .val (.int p2), .val (.int p3), .val (.int p4), .val (.int p5), .val (.int (3 : Int32)), .val (.int (0 : Int32)), .val (.int (1 : Int32)), .val (.ref b330), .val (.int (1 : Int32)), .unset] [(.int (1 : Int32)), (.int (0 : Int32))]))
          refine Goes.step (fun _ k => XS.icmpYes X364.here hx rfl (pc0 := 130) (pc' := 139) rfl (hb hby at_130) rfl (tlt (by decide : (0 : Int32) < (1 : Int32))).1 (by decide) (by decide) k) ?_
          show Goes _ _ _ _ _ _ _ (T364.setTop (mkF m 139 #[.val (.int p0), .val (.int p1), .val (.int p2), .val (.int p3), .val (.int p4), .val (.int p5), .val (.int (3 : Int32)), .val (.int (0 : Int32)), .val (.int (1 : Int32)), .val (.ref b330), .val (.int (1 : Int32)), .unset] []))
          refine Goes.step (fun _ k => XS.iload X364.here hx rfl (hb hby at_139) rfl  k) ?_
          show Goes _ _ _ _ _ _ _ (T364.setTop (mkF m 141 #[.val (.int p0), .val (.int p1), .val (.int p2), .val (.int p3), .val (.int p4), .val (.int p5), .val (.int (3 : Int32)), .val (.int (0 : Int32)), .val (.int (1 : Int32)), .val (.ref b330), .val (.int (1 : Int32)), .unset] [(.int (0 : Int32))]))
          refine Goes.step (fun _ k => XS.iconst X364.here hx rfl (hb hby at_141) k) ?_
          show Goes _ _ _ _ _ _ _ (T364.setTop (mkF m 142 #[.val (.int p0), .val (.int p1), .val (.int p2), .val (.int p3), .val (.int p4), .val (.int p5), .val (.int (3 : Int32)), .val (.int (0 : Int32)), .val (.int (1 : Int32)), .val (.ref b330), .val (.int (1 : Int32)), .unset] [(.int (2 : Int32)), (.int (0 : Int32))]))
          refine Goes.step (fun _ k => XS.icmpYes X364.here hx rfl (pc0 := 142) (pc' := 151) rfl (hb hby at_142) rfl (tlt (by decide : (0 : Int32) < (2 : Int32))).1 (by decide) (by decide) k) ?_
          show Goes _ _ _ _ _ _ _ (T364.setTop (mkF m 151 #[.val (.int p0), .val (.int p1), .val (.int p2), .val (.int p3), .val (.int p4), .val (.int p5), .val (.int (3 : Int32)), .val (.int (0 : Int32)), .val (.int (1 : Int32)), .val (.ref b330), .val (.int (1 : Int32)), .unset] []))
          refine Goes.step (fun _ k => XS.iload X364.here hx rfl (hb hby at_151) rfl  k) ?_
          show Goes _ _ _ _ _ _ _ (T364.setTop (mkF m 153 #[.val (.int p0), .val (.int p1), .val (.int p2), .val (.int p3), .val (.int p4), .val (.int p5), .val (.int (3 : Int32)), .val (.int (0 : Int32)), .val (.int (1 : Int32)), .val (.ref b330), .val (.int (1 : Int32)), .unset] [(.int (0 : Int32))]))
          refine Goes.step (fun _ k => XS.iconst X364.here hx rfl (hb hby at_153) k) ?_
          show Goes _ _ _ _ _ _ _ (T364.setTop (mkF m 154 #[.val (.int p0), .val (.int p1), .val (.int p2), .val (.int p3), .val (.int p4), .val (.int p5), .val (.int (3 : Int32)), .val (.int (0 : Int32)), .val (.int (1 : Int32)), .val (.ref b330), .val (.int (1 : Int32)), .unset] [(.int (3 : Int32)), (.int (0 : Int32))]))
          refine Goes.step (fun _ k => XS.icmpYes X364.here hx rfl (pc0 := 154) (pc' := 163) rfl (hb hby at_154) rfl (tlt (by decide : (0 : Int32) < (3 : Int32))).1 (by decide) (by decide) k) ?_
          show Goes _ _ _ _ _ _ _ (T364.setTop (mkF m 163 #[.val (.int p0), .val (.int p1), .val (.int p2), .val (.int p3), .val (.int p4), .val (.int p5), .val (.int (3 : Int32)), .val (.int (0 : Int32)), .val (.int (1 : Int32)), .val (.ref b330), .val (.int (1 : Int32)), .unset] []))
          refine Goes.step (fun _ k => XS.iload X364.here hx rfl (hb hby at_163) rfl  k) ?_
          show Goes _ _ _ _ _ _ _ (T364.setTop (mkF m 165 #[.val (.int p0), .val (.int p1), .val (.int p2), .val (.int p3), .val (.int p4), .val (.int p5), .val (.int (3 : Int32)), .val (.int (0 : Int32)), .val (.int (1 : Int32)), .val (.ref b330), .val (.int (1 : Int32)), .unset] [(.int (1 : Int32))]))
          refine Goes.step (fun _ k => XS.ifNo X364.here hx rfl (hb hby at_165) rfl ((if0 _ _).trans (feq (by decide : ¬ ((1 : Int32) = (0 : Int32)))).1) k) ?_
          show Goes _ _ _ _ _ _ _ (T364.setTop (mkF m 168 #[.val (.int p0), .val (.int p1), .val (.int p2), .val (.int p3), .val (.int p4), .val (.int p5), .val (.int (3 : Int32)), .val (.int (0 : Int32)), .val (.int (1 : Int32)), .val (.ref b330), .val (.int (1 : Int32)), .unset] []))
          refine Goes.step (fun _ k => XS.aload X364.here hx rfl (hb hby at_168) rfl rfl k) ?_
          show Goes _ _ _ _ _ _ _ (T364.setTop (mkF m 170 #[.val (.int p0), .val (.int p1), .val (.int p2), .val (.int p3), .val (.int p4), .val (.int p5), .val (.int (3 : Int32)), .val (.int (0 : Int32)), .val (.int (1 : Int32)), .val (.ref b330), .val (.int (1 : Int32)), .unset] [(.ref b330)]))
          obtain ⟨cq365, kq365, q365a, q365b, q365c⟩ := isOf hZ eh364 v356_0_3
          obtain ⟨_, _, ⟨T365, L365, k365, n365⟩, -, X365, ⟨Lc365, hQ365, l365, y365, z365⟩, st365⟩ := X364.virtualBack hx (y := (⟨"com/example/hailwise/hailwise/NodeQueue", "clear", "()V"⟩ : MethodName)) (z := (⟨"com/example/hailwise/hailwise/NodeQueue", "clear", "()V"⟩ : MethodName)) hown (mvT hZ (hw _ (List.mem_of_getElem? (i := 32) rfl))) (mvT hZ (hw _ (List.mem_of_getElem? (i := 33) rfl))) (notFace_of_selects (args := #[]) (mvT hZ (hw _ (List.mem_of_getElem? (i := 35) rfl)))) (mvT hZ (hw _ (List.mem_of_getElem? (i := 35) rfl))) (mvT hZ (hw _ (List.mem_of_getElem? (i := 34) rfl))) (by decide) (backOf (W := 0) (rm6 l Z a0 hw [] b330 r332_0_0 r332_0_1 (3 : Int32) T356.heap n0 Z363 v356_0_0 v356_0_1 v356_0_2 v356_0_3 g_b330) hZ (hw _ (List.mem_of_getElem? (i := 36) rfl)) (hw _ (List.mem_of_getElem? (i := 2) rfl)) (by decide) (by decide)) q365a q365c (g := (mkF m 170 #[.val (.int p0), .val (.int p1), .val (.int p2), .val (.int p3), .val (.int p4), .val (.int p5), .val (.int (3 : Int32)), .val (.int (0 : Int32)), .val (.int (1 : Int32)), .val (.ref b330), .val (.int (1 : Int32)), .unset] [(.ref b330)])) rfl (by rw [hml]; rfl) (Steps.refl _) (argsL := []) (rest := []) (lenOf pd_0 rfl) rfl (by show 2 * 0 + _ ≤ _; exact Nat.le_of_eq rfl) (hb hby at_170) (fun _ _ => ⟨rfl, eh364, (by decide : 3 + 0 ≤ _), (by decide : 131 + 0 ≤ _)⟩)
          dsimp only [Pt.U, Pt.locs, Pt.cells, Pt.slots] at X365 l365 y365 z365 st365 hQ365
          subst l365 y365 z365
          obtain ⟨N365, KK365, hR365⟩ := hQ365
          have NA365 := Fr.app NA364 N365
          have f366 := v356_0_3.keep KK365
          have f370 := v356_0_4.keep KK365 (ninS (Ne.symm ne338) nin0)
          have f371 := v356_0_5.keep KK365 (ninS (Ne.symm ne339) nin0)
          have K372 : Keep h0 T365.heap [] := K363.trans KK365 (allS (Or.inr sz_b330) all0)
          have Z372 : n0 ≤ T365.heap.size := Nat.le_trans Z363 KK365.1
          obtain ⟨rfl, v365_0_0, v365_0_1, v365_0_2, v365_0_3⟩ := hR365
          refine Goes.back st365 ?_
          show Goes _ _ _ _ _ _ _ (T365.setTop (mkF m 173 #[.val (.int p0), .val (.int p1), .val (.int p2), .val (.int p3), .val (.int p4), .val (.int p5), .val (.int (3 : Int32)), .val (.int (0 : Int32)), .val (.int (1 : Int32)), .val (.ref b330), .val (.int (1 : Int32)), .unset] []))
          refine Goes.step (fun _ k => XS.iload X365.here hx rfl (hb hby at_173) rfl  k) ?_
          show Goes _ _ _ _ _ _ _ (T365.setTop (mkF m 175 #[.val (.int p0), .val (.int p1), .val (.int p2), .val (.int p3), .val (.int p4), .val (.int p5), .val (.int (3 : Int32)), .val (.int (0 : Int32)), .val (.int (1 : Int32)), .val (.ref b330), .val (.int (1 : Int32)), .unset] [(.int (1 : Int32))]))
          refine Goes.step (fun _ k => XS.ifYes X365.here hx rfl (pc0 := 175) (pc' := 185) rfl (hb hby at_175) rfl ((if0 _ _).trans (feq (by decide : ¬ ((1 : Int32) = (0 : Int32)))).2) (by decide) (by decide) k) ?_
          show Goes _ _ _ _ _ _ _ (T365.setTop (mkF m 185 #[.val (.int p0), .val (.int p1), .val (.int p2), .val (.int p3), .val (.int p4), .val (.int p5), .val (.int (3 : Int32)), .val (.int (0 : Int32)), .val (.int (1 : Int32)), .val (.ref b330), .val (.int (1 : Int32)), .unset] []))
          refine Goes.step (fun _ k => XS.iconst X365.here hx rfl (hb hby at_185) k) ?_
          show Goes _ _ _ _ _ _ _ (T365.setTop (mkF m 186 #[.val (.int p0), .val (.int p1), .val (.int p2), .val (.int p3), .val (.int p4), .val (.int p5), .val (.int (3 : Int32)), .val (.int (0 : Int32)), .val (.int (1 : Int32)), .val (.ref b330), .val (.int (1 : Int32)), .unset] [(.int (1 : Int32))]))
          refine Goes.step (fun _ k => XS.goto X365.here hx rfl (pc0 := 186) (pc' := 190) rfl (hb hby at_186) (by decide) (by decide) k) ?_
          show Goes _ _ _ _ _ _ _ (T365.setTop (mkF m 190 #[.val (.int p0), .val (.int p1), .val (.int p2), .val (.int p3), .val (.int p4), .val (.int p5), .val (.int (3 : Int32)), .val (.int (0 : Int32)), .val (.int (1 : Int32)), .val (.ref b330), .val (.int (1 : Int32)), .unset] [(.int (1 : Int32))]))
          refine Goes.step (fun _ k => XS.istore X365.here hx rfl (hb hby at_190) rfl (l' := #[.val (.int p0), .val (.int p1), .val (.int p2), .val (.int p3), .val (.int p4), .val (.int p5), .val (.int (3 : Int32)), .val (.int (0 : Int32)), .val (.int (1 : Int32)), .val (.ref b330), .val (.int (1 : Int32)), .val (.int (1 : Int32))]) rfl k) ?_
          show Goes _ _ _ _ _ _ _ (T365.setTop (mkF m 192 #[.val (.int p0), .val (.int p1), .val (.int p2), .val (.int p3), .val (.int p4), .val (.int p5), .val (.int (3 : Int32)), .val (.int (0 : Int32)), .val (.int (1 : Int32)), .val (.ref b330), .val (.int (1 : Int32)), .val (.int (1 : Int32))] []))
          refine Goes.step (fun _ k => XS.iload X365.here hx rfl (hb hby at_192) rfl  k) ?_
          show Goes _ _ _ _ _ _ _ (T365.setTop (mkF m 194 #[.val (.int p0), .val (.int p1), .val (.int p2), .val (.int p3), .val (.int p4), .val (.int p5), .val (.int (3 : Int32)), .val (.int (0 : Int32)), .val (.int (1 : Int32)), .val (.ref b330), .val (.int (1 : Int32)), .val (.int (1 : Int32))] [(.int (1 : Int32))]))
          refine Goes.step (fun _ k => XS.ifNo X365.here hx rfl (hb hby at_194) rfl ((if0 _ _).trans (feq (by decide : ¬ ((1 : Int32) = (0 : Int32)))).1) k) ?_
          show Goes _ _ _ _ _ _ _ (T365.setTop (mkF m 197 #[.val (.int p0), .val (.int p1), .val (.int p2), .val (.int p3), .val (.int p4), .val (.int p5), .val (.int (3 : Int32)), .val (.int (0 : Int32)), .val (.int (1 : Int32)), .val (.ref b330), .val (.int (1 : Int32)), .val (.int (1 : Int32))] []))
          refine Goes.step (fun _ k => XS.aload X365.here hx rfl (hb hby at_197) rfl rfl k) ?_
          show Goes _ _ _ _ _ _ _ (T365.setTop (mkF m 199 #[.val (.int p0), .val (.int p1), .val (.int p2), .val (.int p3), .val (.int p4), .val (.int p5), .val (.int (3 : Int32)), .val (.int (0 : Int32)), .val (.int (1 : Int32)), .val (.ref b330), .val (.int (1 : Int32)), .val (.int (1 : Int32))] [(.ref b330)]))
          obtain ⟨cq373, kq373, q373a, q373b, q373c⟩ := isOf hZ rfl v365_0_3
          obtain ⟨_, _, ⟨T373, L373, k373, n373⟩, -, X373, ⟨Lc373, hQ373, l373, y373, z373⟩, st373⟩ := X365.virtualBack hx (y := (⟨"com/example/hailwise/hailwise/NodeQueue", "isEmpty", "()Z"⟩ : MethodName)) (z := (⟨"com/example/hailwise/hailwise/NodeQueue", "isEmpty", "()Z"⟩ : MethodName)) hown (mvT hZ (hw _ (List.mem_of_getElem? (i := 22) rfl))) (mvT hZ (hw _ (List.mem_of_getElem? (i := 23) rfl))) (notFace_of_selects (args := #[]) (mvT hZ (hw _ (List.mem_of_getElem? (i := 25) rfl)))) (mvT hZ (hw _ (List.mem_of_getElem? (i := 25) rfl))) (mvT hZ (hw _ (List.mem_of_getElem? (i := 24) rfl))) (by decide) (backOf (W := 0) (rm4 l Z a0 hw [] b330 (0 : Int32) T365.heap n0 Z372 v365_0_2) hZ (hw _ (List.mem_of_getElem? (i := 26) rfl)) (hw _ (List.mem_of_getElem? (i := 2) rfl)) (by decide) (by decide)) q373a q373c (g := (mkF m 199 #[.val (.int p0), .val (.int p1), .val (.int p2), .val (.int p3), .val (.int p4), .val (.int p5), .val (.int (3 : Int32)), .val (.int (0 : Int32)), .val (.int (1 : Int32)), .val (.ref b330), .val (.int (1 : Int32)), .val (.int (1 : Int32))] [(.ref b330)])) rfl (by rw [hml]; rfl) (Steps.refl _) (argsL := []) (rest := []) (lenOf pd_2 rfl) rfl (by show 2 * 0 + _ ≤ _; exact Nat.le_of_eq rfl) (hb hby at_199) (fun _ _ => ⟨rfl, rfl, (by decide : 3 + 0 ≤ _), (by decide : 131 + 0 ≤ _)⟩)
          dsimp only [Pt.U, Pt.locs, Pt.cells, Pt.slots] at X373 l373 y373 z373 st373 hQ373
          subst l373 y373 z373
          obtain ⟨N373, eh373, hR373⟩ := hQ373
          have NA373 := Fr.app NA365 N373
          rcases hR373 with ⟨rfl, u373_0_0⟩ | ⟨rfl, u373_1_0⟩
          · refine Goes.back st373 ?_
            show Goes _ _ _ _ _ _ _ (T373.setTop (mkF m 202 #[.val (.int p0), .val (.int p1), .val (.int p2), .val (.int p3), .val (.int p4), .val (.int p5), .val (.int (3 : Int32)), .val (.int (0 : Int32)), .val (.int (1 : Int32)), .val (.ref b330), .val (.int (1 : Int32)), .val (.int (1 : Int32))] [(.int (1 : Int32))]))
            refine Goes.step (fun _ k => XS.iload X373.here hx rfl (hb hby at_202) rfl  k) ?_
            show Goes _ _ _ _ _ _ _ (T373.setTop (mkF m 204 #[.val (.int p0), .val (.int p1), .val (.int p2), .val (.int p3), .val (.int p4), .val (.int p5), .val (.int (3 : Int32)), .val (.int (0 : Int32)), .val (.int (1 : Int32)), .val (.ref b330), .val (.int (1 : Int32)), .val (.int (1 : Int32))] [(.int (1 : Int32)), (.int (1 : Int32))]))
            refine Goes.step (fun _ k => XS.icmpNo X373.here hx rfl (hb hby at_204) rfl (teq (by decide : (1 : Int32) = (1 : Int32))).2 k) ?_
            show Goes _ _ _ _ _ _ _ (T373.setTop (mkF m 207 #[.val (.int p0), .val (.int p1), .val (.int p2), .val (.int p3), .val (.int p4), .val (.int p5), .val (.int (3 : Int32)), .val (.int (0 : Int32)), .val (.int (1 : Int32)), .val (.ref b330), .val (.int (1 : Int32)), .val (.int (1 : Int32))] []))
            refine Goes.step (fun _ k => XS.iconst X373.here hx rfl (hb hby at_207) k) ?_
            show Goes _ _ _ _ _ _ _ (T373.setTop (mkF m 208 #[.val (.int p0), .val (.int p1), .val (.int p2), .val (.int p3), .val (.int p4), .val (.int p5), .val (.int (3 : Int32)), .val (.int (0 : Int32)), .val (.int (1 : Int32)), .val (.ref b330), .val (.int (1 : Int32)), .val (.int (1 : Int32))] [(.int (1 : Int32))]))
            refine Goes.step (fun _ k => XS.goto X373.here hx rfl (pc0 := 208) (pc' := 212) rfl (hb hby at_208) (by decide) (by decide) k) ?_
            show Goes _ _ _ _ _ _ _ (T373.setTop (mkF m 212 #[.val (.int p0), .val (.int p1), .val (.int p2), .val (.int p3), .val (.int p4), .val (.int p5), .val (.int (3 : Int32)), .val (.int (0 : Int32)), .val (.int (1 : Int32)), .val (.ref b330), .val (.int (1 : Int32)), .val (.int (1 : Int32))] [(.int (1 : Int32))]))
            refine Goes.step (fun _ k => XS.istore X373.here hx rfl (hb hby at_212) rfl (l' := #[.val (.int p0), .val (.int p1), .val (.int p2), .val (.int p3), .val (.int p4), .val (.int p5), .val (.int (3 : Int32)), .val (.int (0 : Int32)), .val (.int (1 : Int32)), .val (.ref b330), .val (.int (1 : Int32)), .val (.int (1 : Int32))]) rfl k) ?_
            show Goes _ _ _ _ _ _ _ (T373.setTop (mkF m 214 #[.val (.int p0), .val (.int p1), .val (.int p2), .val (.int p3), .val (.int p4), .val (.int p5), .val (.int (3 : Int32)), .val (.int (0 : Int32)), .val (.int (1 : Int32)), .val (.ref b330), .val (.int (1 : Int32)), .val (.int (1 : Int32))] []))
            refine Goes.step (fun _ k => XS.iload X373.here hx rfl (hb hby at_214) rfl  k) ?_
            show Goes _ _ _ _ _ _ _ (T373.setTop (mkF m 216 #[.val (.int p0), .val (.int p1), .val (.int p2), .val (.int p3), .val (.int p4), .val (.int p5), .val (.int (3 : Int32)), .val (.int (0 : Int32)), .val (.int (1 : Int32)), .val (.ref b330), .val (.int (1 : Int32)), .val (.int (1 : Int32))] [(.int (1 : Int32))]))
            exact Goes.ret X373 hx (BodyLoose.notSynchronized Bd) Bd.returns rfl (Or.inl ⟨rfl, by simp, _, rfl⟩) (hb hby at_216) (by show Q0 Z p0 p1 p2 p3 p4 p5 h0 n0 (some (.int (1 : Int32))) T373.heap _; rw [eh373]; exact ⟨rfl, NA373⟩) (by decide) (by decide)
          · exact absurd (by decide : (0 : Int32) = (0 : Int32)) u373_1_0
        · show Goes _ _ _ _ _ _ _ (T364.setTop (mkF m 127 #[.val (.int p0), .val (.int p1), .val (.int p2), .val (.int p3), .val (.int p4), .val (.int p5), .val (.int (3 : Int32)), .val (.int (1 : Int32)), .val (.int (1 : Int32)), .val (.ref b330), .val (.int (1 : Int32)), .unset] []))
          refine Goes.step (fun _ k => XS.iload X364.here hx rfl (hb hby at_127) rfl  k) ?_
          show Goes _ _ _ _ _ _ _ (T364.setTop (mkF m 129 #[.val (.int p0), .val (.int p1), .val (.int p2), .val (.int p3), .val (.int p4), .val (.int p5), .val (.int (3 : Int32)), .val (.int (1 : Int32)), .val (.int (1 : Int32)), .val (.ref b330), .val (.int (1 : Int32)), .unset] [(.int (1 : Int32))]))
          refine Goes.step (fun _ k => XS.iconst X364.here hx rfl (hb hby at_129) k) ?_
          show Goes _ _ _ _ _ _ _ (T364.setTop (mkF m 130 #[.val (.int p0), .val (.int p1), .val (.int p2), .val (.int p3), .val (.int p4), .val (.int p5), .val (.int (3 : Int32)), .val (.int (1 : Int32)), .val (.int (1 : Int32)), .val (.ref b330), .val (.int (1 : Int32)), .unset] [(.int (1 : Int32)), (.int (1 : Int32))]))
          refine Goes.step (fun _ k => XS.icmpNo X364.here hx rfl (hb hby at_130) rfl (flt (by decide : ¬ ((1 : Int32) < (1 : Int32)))).1 k) ?_
          show Goes _ _ _ _ _ _ _ (T364.setTop (mkF m 133 #[.val (.int p0), .val (.int p1), .val (.int p2), .val (.int p3), .val (.int p4), .val (.int p5), .val (.int (3 : Int32)), .val (.int (1 : Int32)), .val (.int (1 : Int32)), .val (.ref b330), .val (.int (1 : Int32)), .unset] []))
          refine Goes.step (fun _ k => XS.aload X364.here hx rfl (hb hby at_133) rfl rfl k) ?_
          show Goes _ _ _ _ _ _ _ (T364.setTop (mkF m 135 #[.val (.int p0), .val (.int p1), .val (.int p2), .val (.int p3), .val (.int p4), .val (.int p5), .val (.int (3 : Int32)), .val (.int (1 : Int32)), .val (.int (1 : Int32)), .val (.ref b330), .val (.int (1 : Int32)), .unset] [(.ref b330)]))
          obtain ⟨cq374, kq374, q374a, q374b, q374c⟩ := isOf hZ eh364 v356_0_3
          obtain ⟨_, _, ⟨T374, L374, k374, n374⟩, -, X374, ⟨Lc374, hQ374, l374, y374, z374⟩, st374⟩ := X364.virtualBack hx (y := (⟨"com/example/hailwise/hailwise/NodeQueue", "poll", "()I"⟩ : MethodName)) (z := (⟨"com/example/hailwise/hailwise/NodeQueue", "poll", "()I"⟩ : MethodName)) hown (mvT hZ (hw _ (List.mem_of_getElem? (i := 27) rfl))) (mvT hZ (hw _ (List.mem_of_getElem? (i := 28) rfl))) (notFace_of_selects (args := #[]) (mvT hZ (hw _ (List.mem_of_getElem? (i := 30) rfl)))) (mvT hZ (hw _ (List.mem_of_getElem? (i := 30) rfl))) (mvT hZ (hw _ (List.mem_of_getElem? (i := 29) rfl))) (by decide) (backOf (W := 0) (rm5_3 l Z a0 hw [] b330 r332_0_0 r332_0_1 kk332_0_0 kk332_0_1 T356.heap n0 Z363 v356_0_0 v356_0_1 v356_0_2 v356_0_3 v356_0_4 v356_0_5 g_b330 g_r332_0_0 g_r332_0_1 ne338 ne339 (Ne.symm nn332_0_0)) hZ (hw _ (List.mem_of_getElem? (i := 31) rfl)) (hw _ (List.mem_of_getElem? (i := 2) rfl)) (by decide) (by decide)) q374a q374c (g := (mkF m 135 #[.val (.int p0), .val (.int p1), .val (.int p2), .val (.int p3), .val (.int p4), .val (.int p5), .val (.int (3 : Int32)), .val (.int (1 : Int32)), .val (.int (1 : Int32)), .val (.ref b330), .val (.int (1 : Int32)), .unset] [(.ref b330)])) rfl (by rw [hml]; rfl) (Steps.refl _) (argsL := []) (rest := []) (lenOf pd_3 rfl) rfl (by show 2 * 0 + _ ≤ _; exact Nat.le_of_eq rfl) (hb hby at_135) (fun _ _ => ⟨rfl, eh364, (by decide : 3 + 0 ≤ _), (by decide : 131 + 0 ≤ _)⟩)
          dsimp only [Pt.U, Pt.locs, Pt.cells, Pt.slots] at X374 l374 y374 z374 st374 hQ374
          subst l374 y374 z374
          obtain ⟨N374, KK374, hR374⟩ := hQ374
          have NA374 := Fr.app NA364 N374
          have f375 := v356_0_3.keep KK374
          have K381 : Keep h0 T374.heap [] := K363.trans KK374 (allS (Or.inr sz_b330) (allS (Or.inr sz_r332_0_0) (allS (Or.inr sz_r332_0_1) all0)))
          have Z381 : n0 ≤ T374.heap.size := Nat.le_trans Z363 KK374.1
          obtain ⟨rv374_0, rfl, v374_0_0, v374_0_1, v374_0_2, v374_0_3, v374_0_4, v374_0_5⟩ := hR374
          refine Goes.back st374 ?_
          show Goes _ _ _ _ _ _ _ (T374.setTop (mkF m 138 #[.val (.int p0), .val (.int p1), .val (.int p2), .val (.int p3), .val (.int p4), .val (.int p5), .val (.int (3 : Int32)), .val (.int (1 : Int32)), .val (.int (1 : Int32)), .val (.ref b330), .val (.int (1 : Int32)), .unset] [(.int rv374_0)]))
          refine Goes.step (fun _ k => XS.pop X374.here hx rfl (hb hby at_138) rfl rfl k) ?_
          show Goes _ _ _ _ _ _ _ (T374.setTop (mkF m 139 #[.val (.int p0), .val (.int p1), .val (.int p2), .val (.int p3), .val (.int p4), .val (.int p5), .val (.int (3 : Int32)), .val (.int (1 : Int32)), .val (.int (1 : Int32)), .val (.ref b330), .val (.int (1 : Int32)), .unset] []))
          refine Goes.step (fun _ k => XS.iload X374.here hx rfl (hb hby at_139) rfl  k) ?_
          show Goes _ _ _ _ _ _ _ (T374.setTop (mkF m 141 #[.val (.int p0), .val (.int p1), .val (.int p2), .val (.int p3), .val (.int p4), .val (.int p5), .val (.int (3 : Int32)), .val (.int (1 : Int32)), .val (.int (1 : Int32)), .val (.ref b330), .val (.int (1 : Int32)), .unset] [(.int (1 : Int32))]))
          refine Goes.step (fun _ k => XS.iconst X374.here hx rfl (hb hby at_141) k) ?_
          show Goes _ _ _ _ _ _ _ (T374.setTop (mkF m 142 #[.val (.int p0), .val (.int p1), .val (.int p2), .val (.int p3), .val (.int p4), .val (.int p5), .val (.int (3 : Int32)), .val (.int (1 : Int32)), .val (.int (1 : Int32)), .val (.ref b330), .val (.int (1 : Int32)), .unset] [(.int (2 : Int32)), (.int (1 : Int32))]))
          refine Goes.step (fun _ k => XS.icmpYes X374.here hx rfl (pc0 := 142) (pc' := 151) rfl (hb hby at_142) rfl (tlt (by decide : (1 : Int32) < (2 : Int32))).1 (by decide) (by decide) k) ?_
          show Goes _ _ _ _ _ _ _ (T374.setTop (mkF m 151 #[.val (.int p0), .val (.int p1), .val (.int p2), .val (.int p3), .val (.int p4), .val (.int p5), .val (.int (3 : Int32)), .val (.int (1 : Int32)), .val (.int (1 : Int32)), .val (.ref b330), .val (.int (1 : Int32)), .unset] []))
          refine Goes.step (fun _ k => XS.iload X374.here hx rfl (hb hby at_151) rfl  k) ?_
          show Goes _ _ _ _ _ _ _ (T374.setTop (mkF m 153 #[.val (.int p0), .val (.int p1), .val (.int p2), .val (.int p3), .val (.int p4), .val (.int p5), .val (.int (3 : Int32)), .val (.int (1 : Int32)), .val (.int (1 : Int32)), .val (.ref b330), .val (.int (1 : Int32)), .unset] [(.int (1 : Int32))]))
          refine Goes.step (fun _ k => XS.iconst X374.here hx rfl (hb hby at_153) k) ?_
          show Goes _ _ _ _ _ _ _ (T374.setTop (mkF m 154 #[.val (.int p0), .val (.int p1), .val (.int p2), .val (.int p3), .val (.int p4), .val (.int p5), .val (.int (3 : Int32)), .val (.int (1 : Int32)), .val (.int (1 : Int32)), .val (.ref b330), .val (.int (1 : Int32)), .unset] [(.int (3 : Int32)), (.int (1 : Int32))]))
          refine Goes.step (fun _ k => XS.icmpYes X374.here hx rfl (pc0 := 154) (pc' := 163) rfl (hb hby at_154) rfl (tlt (by decide : (1 : Int32) < (3 : Int32))).1 (by decide) (by decide) k) ?_
          show Goes _ _ _ _ _ _ _ (T374.setTop (mkF m 163 #[.val (.int p0), .val (.int p1), .val (.int p2), .val (.int p3), .val (.int p4), .val (.int p5), .val (.int (3 : Int32)), .val (.int (1 : Int32)), .val (.int (1 : Int32)), .val (.ref b330), .val (.int (1 : Int32)), .unset] []))
          refine Goes.step (fun _ k => XS.iload X374.here hx rfl (hb hby at_163) rfl  k) ?_
          show Goes _ _ _ _ _ _ _ (T374.setTop (mkF m 165 #[.val (.int p0), .val (.int p1), .val (.int p2), .val (.int p3), .val (.int p4), .val (.int p5), .val (.int (3 : Int32)), .val (.int (1 : Int32)), .val (.int (1 : Int32)), .val (.ref b330), .val (.int (1 : Int32)), .unset] [(.int (1 : Int32))]))
          refine Goes.step (fun _ k => XS.ifNo X374.here hx rfl (hb hby at_165) rfl ((if0 _ _).trans (feq (by decide : ¬ ((1 : Int32) = (0 : Int32)))).1) k) ?_
          show Goes _ _ _ _ _ _ _ (T374.setTop (mkF m 168 #[.val (.int p0), .val (.int p1), .val (.int p2), .val (.int p3), .val (.int p4), .val (.int p5), .val (.int (3 : Int32)), .val (.int (1 : Int32)), .val (.int (1 : Int32)), .val (.ref b330), .val (.int (1 : Int32)), .unset] []))
          refine Goes.step (fun _ k => XS.aload X374.here hx rfl (hb hby at_168) rfl rfl k) ?_
          show Goes _ _ _ _ _ _ _ (T374.setTop (mkF m 170 #[.val (.int p0), .val (.int p1), .val (.int p2), .val (.int p3), .val (.int p4), .val (.int p5), .val (.int (3 : Int32)), .val (.int (1 : Int32)), .val (.int (1 : Int32)), .val (.ref b330), .val (.int (1 : Int32)), .unset] [(.ref b330)]))
          obtain ⟨cq382, kq382, q382a, q382b, q382c⟩ := isOf hZ rfl v374_0_3
          obtain ⟨_, _, ⟨T382, L382, k382, n382⟩, -, X382, ⟨Lc382, hQ382, l382, y382, z382⟩, st382⟩ := X374.virtualBack hx (y := (⟨"com/example/hailwise/hailwise/NodeQueue", "clear", "()V"⟩ : MethodName)) (z := (⟨"com/example/hailwise/hailwise/NodeQueue", "clear", "()V"⟩ : MethodName)) hown (mvT hZ (hw _ (List.mem_of_getElem? (i := 32) rfl))) (mvT hZ (hw _ (List.mem_of_getElem? (i := 33) rfl))) (notFace_of_selects (args := #[]) (mvT hZ (hw _ (List.mem_of_getElem? (i := 35) rfl)))) (mvT hZ (hw _ (List.mem_of_getElem? (i := 35) rfl))) (mvT hZ (hw _ (List.mem_of_getElem? (i := 34) rfl))) (by decide) (backOf (W := 0) (rm6 l Z a0 hw [] b330 r332_0_0 r332_0_1 (2 : Int32) T374.heap n0 Z381 v374_0_0 v374_0_1 v374_0_2 v374_0_3 g_b330) hZ (hw _ (List.mem_of_getElem? (i := 36) rfl)) (hw _ (List.mem_of_getElem? (i := 2) rfl)) (by decide) (by decide)) q382a q382c (g := (mkF m 170 #[.val (.int p0), .val (.int p1), .val (.int p2), .val (.int p3), .val (.int p4), .val (.int p5), .val (.int (3 : Int32)), .val (.int (1 : Int32)), .val (.int (1 : Int32)), .val (.ref b330), .val (.int (1 : Int32)), .unset] [(.ref b330)])) rfl (by rw [hml]; rfl) (Steps.refl _) (argsL := []) (rest := []) (lenOf pd_0 rfl) rfl (by show 2 * 0 + _ ≤ _; exact Nat.le_of_eq rfl) (hb hby at_170) (fun _ _ => ⟨rfl, rfl, (by decide : 3 + 0 ≤ _), (by decide : 131 + 0 ≤ _)⟩)
          dsimp only [Pt.U, Pt.locs, Pt.cells, Pt.slots] at X382 l382 y382 z382 st382 hQ382
          subst l382 y382 z382
          obtain ⟨N382, KK382, hR382⟩ := hQ382
          have NA382 := Fr.app NA374 N382
          have f383 := v374_0_3.keep KK382
          have f387 := v374_0_4.keep KK382 (ninS (Ne.symm ne338) nin0)
          have f388 := v374_0_5.keep KK382 (ninS (Ne.symm ne339) nin0)
          have K389 : Keep h0 T382.heap [] := K381.trans KK382 (allS (Or.inr sz_b330) all0)
          have Z389 : n0 ≤ T382.heap.size := Nat.le_trans Z381 KK382.1
          obtain ⟨rfl, v382_0_0, v382_0_1, v382_0_2, v382_0_3⟩ := hR382
          refine Goes.back st382 ?_
          show Goes _ _ _ _ _ _ _ (T382.setTop (mkF m 173 #[.val (.int p0), .val (.int p1), .val (.int p2), .val (.int p3), .val (.int p4), .val (.int p5), .val (.int (3 : Int32)), .val (.int (1 : Int32)), .val (.int (1 : Int32)), .val (.ref b330), .val (.int (1 : Int32)), .unset] []))
          refine Goes.step (fun _ k => XS.iload X382.here hx rfl (hb hby at_173) rfl  k) ?_
          show Goes _ _ _ _ _ _ _ (T382.setTop (mkF m 175 #[.val (.int p0), .val (.int p1), .val (.int p2), .val (.int p3), .val (.int p4), .val (.int p5), .val (.int (3 : Int32)), .val (.int (1 : Int32)), .val (.int (1 : Int32)), .val (.ref b330), .val (.int (1 : Int32)), .unset] [(.int (1 : Int32))]))
          refine Goes.step (fun _ k => XS.ifYes X382.here hx rfl (pc0 := 175) (pc' := 185) rfl (hb hby at_175) rfl ((if0 _ _).trans (feq (by decide : ¬ ((1 : Int32) = (0 : Int32)))).2) (by decide) (by decide) k) ?_
          show Goes _ _ _ _ _ _ _ (T382.setTop (mkF m 185 #[.val (.int p0), .val (.int p1), .val (.int p2), .val (.int p3), .val (.int p4), .val (.int p5), .val (.int (3 : Int32)), .val (.int (1 : Int32)), .val (.int (1 : Int32)), .val (.ref b330), .val (.int (1 : Int32)), .unset] []))
          refine Goes.step (fun _ k => XS.iconst X382.here hx rfl (hb hby at_185) k) ?_
          show Goes _ _ _ _ _ _ _ (T382.setTop (mkF m 186 #[.val (.int p0), .val (.int p1), .val (.int p2), .val (.int p3), .val (.int p4), .val (.int p5), .val (.int (3 : Int32)), .val (.int (1 : Int32)), .val (.int (1 : Int32)), .val (.ref b330), .val (.int (1 : Int32)), .unset] [(.int (1 : Int32))]))
          refine Goes.step (fun _ k => XS.goto X382.here hx rfl (pc0 := 186) (pc' := 190) rfl (hb hby at_186) (by decide) (by decide) k) ?_
          show Goes _ _ _ _ _ _ _ (T382.setTop (mkF m 190 #[.val (.int p0), .val (.int p1), .val (.int p2), .val (.int p3), .val (.int p4), .val (.int p5), .val (.int (3 : Int32)), .val (.int (1 : Int32)), .val (.int (1 : Int32)), .val (.ref b330), .val (.int (1 : Int32)), .unset] [(.int (1 : Int32))]))
          refine Goes.step (fun _ k => XS.istore X382.here hx rfl (hb hby at_190) rfl (l' := #[.val (.int p0), .val (.int p1), .val (.int p2), .val (.int p3), .val (.int p4), .val (.int p5), .val (.int (3 : Int32)), .val (.int (1 : Int32)), .val (.int (1 : Int32)), .val (.ref b330), .val (.int (1 : Int32)), .val (.int (1 : Int32))]) rfl k) ?_
          show Goes _ _ _ _ _ _ _ (T382.setTop (mkF m 192 #[.val (.int p0), .val (.int p1), .val (.int p2), .val (.int p3), .val (.int p4), .val (.int p5), .val (.int (3 : Int32)), .val (.int (1 : Int32)), .val (.int (1 : Int32)), .val (.ref b330), .val (.int (1 : Int32)), .val (.int (1 : Int32))] []))
          refine Goes.step (fun _ k => XS.iload X382.here hx rfl (hb hby at_192) rfl  k) ?_
          show Goes _ _ _ _ _ _ _ (T382.setTop (mkF m 194 #[.val (.int p0), .val (.int p1), .val (.int p2), .val (.int p3), .val (.int p4), .val (.int p5), .val (.int (3 : Int32)), .val (.int (1 : Int32)), .val (.int (1 : Int32)), .val (.ref b330), .val (.int (1 : Int32)), .val (.int (1 : Int32))] [(.int (1 : Int32))]))
          refine Goes.step (fun _ k => XS.ifNo X382.here hx rfl (hb hby at_194) rfl ((if0 _ _).trans (feq (by decide : ¬ ((1 : Int32) = (0 : Int32)))).1) k) ?_
          show Goes _ _ _ _ _ _ _ (T382.setTop (mkF m 197 #[.val (.int p0), .val (.int p1), .val (.int p2), .val (.int p3), .val (.int p4), .val (.int p5), .val (.int (3 : Int32)), .val (.int (1 : Int32)), .val (.int (1 : Int32)), .val (.ref b330), .val (.int (1 : Int32)), .val (.int (1 : Int32))] []))
          refine Goes.step (fun _ k => XS.aload X382.here hx rfl (hb hby at_197) rfl rfl k) ?_
          show Goes _ _ _ _ _ _ _ (T382.setTop (mkF m 199 #[.val (.int p0), .val (.int p1), .val (.int p2), .val (.int p3), .val (.int p4), .val (.int p5), .val (.int (3 : Int32)), .val (.int (1 : Int32)), .val (.int (1 : Int32)), .val (.ref b330), .val (.int (1 : Int32)), .val (.int (1 : Int32))] [(.ref b330)]))
          obtain ⟨cq390, kq390, q390a, q390b, q390c⟩ := isOf hZ rfl v382_0_3
          obtain ⟨_, _, ⟨T390, L390, k390, n390⟩, -, X390, ⟨Lc390, hQ390, l390, y390, z390⟩, st390⟩ := X382.virtualBack hx (y := (⟨"com/example/hailwise/hailwise/NodeQueue", "isEmpty", "()Z"⟩ : MethodName)) (z := (⟨"com/example/hailwise/hailwise/NodeQueue", "isEmpty", "()Z"⟩ : MethodName)) hown (mvT hZ (hw _ (List.mem_of_getElem? (i := 22) rfl))) (mvT hZ (hw _ (List.mem_of_getElem? (i := 23) rfl))) (notFace_of_selects (args := #[]) (mvT hZ (hw _ (List.mem_of_getElem? (i := 25) rfl)))) (mvT hZ (hw _ (List.mem_of_getElem? (i := 25) rfl))) (mvT hZ (hw _ (List.mem_of_getElem? (i := 24) rfl))) (by decide) (backOf (W := 0) (rm4 l Z a0 hw [] b330 (0 : Int32) T382.heap n0 Z389 v382_0_2) hZ (hw _ (List.mem_of_getElem? (i := 26) rfl)) (hw _ (List.mem_of_getElem? (i := 2) rfl)) (by decide) (by decide)) q390a q390c (g := (mkF m 199 #[.val (.int p0), .val (.int p1), .val (.int p2), .val (.int p3), .val (.int p4), .val (.int p5), .val (.int (3 : Int32)), .val (.int (1 : Int32)), .val (.int (1 : Int32)), .val (.ref b330), .val (.int (1 : Int32)), .val (.int (1 : Int32))] [(.ref b330)])) rfl (by rw [hml]; rfl) (Steps.refl _) (argsL := []) (rest := []) (lenOf pd_2 rfl) rfl (by show 2 * 0 + _ ≤ _; exact Nat.le_of_eq rfl) (hb hby at_199) (fun _ _ => ⟨rfl, rfl, (by decide : 3 + 0 ≤ _), (by decide : 131 + 0 ≤ _)⟩)
          dsimp only [Pt.U, Pt.locs, Pt.cells, Pt.slots] at X390 l390 y390 z390 st390 hQ390
          subst l390 y390 z390
          obtain ⟨N390, eh390, hR390⟩ := hQ390
          have NA390 := Fr.app NA382 N390
          rcases hR390 with ⟨rfl, u390_0_0⟩ | ⟨rfl, u390_1_0⟩
          · refine Goes.back st390 ?_
            show Goes _ _ _ _ _ _ _ (T390.setTop (mkF m 202 #[.val (.int p0), .val (.int p1), .val (.int p2), .val (.int p3), .val (.int p4), .val (.int p5), .val (.int (3 : Int32)), .val (.int (1 : Int32)), .val (.int (1 : Int32)), .val (.ref b330), .val (.int (1 : Int32)), .val (.int (1 : Int32))] [(.int (1 : Int32))]))
            refine Goes.step (fun _ k => XS.iload X390.here hx rfl (hb hby at_202) rfl  k) ?_
            show Goes _ _ _ _ _ _ _ (T390.setTop (mkF m 204 #[.val (.int p0), .val (.int p1), .val (.int p2), .val (.int p3), .val (.int p4), .val (.int p5), .val (.int (3 : Int32)), .val (.int (1 : Int32)), .val (.int (1 : Int32)), .val (.ref b330), .val (.int (1 : Int32)), .val (.int (1 : Int32))] [(.int (1 : Int32)), (.int (1 : Int32))]))
            refine Goes.step (fun _ k => XS.icmpNo X390.here hx rfl (hb hby at_204) rfl (teq (by decide : (1 : Int32) = (1 : Int32))).2 k) ?_
            show Goes _ _ _ _ _ _ _ (T390.setTop (mkF m 207 #[.val (.int p0), .val (.int p1), .val (.int p2), .val (.int p3), .val (.int p4), .val (.int p5), .val (.int (3 : Int32)), .val (.int (1 : Int32)), .val (.int (1 : Int32)), .val (.ref b330), .val (.int (1 : Int32)), .val (.int (1 : Int32))] []))
            refine Goes.step (fun _ k => XS.iconst X390.here hx rfl (hb hby at_207) k) ?_
            show Goes _ _ _ _ _ _ _ (T390.setTop (mkF m 208 #[.val (.int p0), .val (.int p1), .val (.int p2), .val (.int p3), .val (.int p4), .val (.int p5), .val (.int (3 : Int32)), .val (.int (1 : Int32)), .val (.int (1 : Int32)), .val (.ref b330), .val (.int (1 : Int32)), .val (.int (1 : Int32))] [(.int (1 : Int32))]))
            refine Goes.step (fun _ k => XS.goto X390.here hx rfl (pc0 := 208) (pc' := 212) rfl (hb hby at_208) (by decide) (by decide) k) ?_
            show Goes _ _ _ _ _ _ _ (T390.setTop (mkF m 212 #[.val (.int p0), .val (.int p1), .val (.int p2), .val (.int p3), .val (.int p4), .val (.int p5), .val (.int (3 : Int32)), .val (.int (1 : Int32)), .val (.int (1 : Int32)), .val (.ref b330), .val (.int (1 : Int32)), .val (.int (1 : Int32))] [(.int (1 : Int32))]))
            refine Goes.step (fun _ k => XS.istore X390.here hx rfl (hb hby at_212) rfl (l' := #[.val (.int p0), .val (.int p1), .val (.int p2), .val (.int p3), .val (.int p4), .val (.int p5), .val (.int (3 : Int32)), .val (.int (1 : Int32)), .val (.int (1 : Int32)), .val (.ref b330), .val (.int (1 : Int32)), .val (.int (1 : Int32))]) rfl k) ?_
            show Goes _ _ _ _ _ _ _ (T390.setTop (mkF m 214 #[.val (.int p0), .val (.int p1), .val (.int p2), .val (.int p3), .val (.int p4), .val (.int p5), .val (.int (3 : Int32)), .val (.int (1 : Int32)), .val (.int (1 : Int32)), .val (.ref b330), .val (.int (1 : Int32)), .val (.int (1 : Int32))] []))
            refine Goes.step (fun _ k => XS.iload X390.here hx rfl (hb hby at_214) rfl  k) ?_
            show Goes _ _ _ _ _ _ _ (T390.setTop (mkF m 216 #[.val (.int p0), .val (.int p1), .val (.int p2), .val (.int p3), .val (.int p4), .val (.int p5), .val (.int (3 : Int32)), .val (.int (1 : Int32)), .val (.int (1 : Int32)), .val (.ref b330), .val (.int (1 : Int32)), .val (.int (1 : Int32))] [(.int (1 : Int32))]))
            exact Goes.ret X390 hx (BodyLoose.notSynchronized Bd) Bd.returns rfl (Or.inl ⟨rfl, by simp, _, rfl⟩) (hb hby at_216) (by show Q0 Z p0 p1 p2 p3 p4 p5 h0 n0 (some (.int (1 : Int32))) T390.heap _; rw [eh390]; exact ⟨rfl, NA390⟩) (by decide) (by decide)
          · exact absurd (by decide : (0 : Int32) = (0 : Int32)) u390_1_0
        · show Goes _ _ _ _ _ _ _ (T364.setTop (mkF m 127 #[.val (.int p0), .val (.int p1), .val (.int p2), .val (.int p3), .val (.int p4), .val (.int p5), .val (.int (3 : Int32)), .val (.int (2 : Int32)), .val (.int (1 : Int32)), .val (.ref b330), .val (.int (1 : Int32)), .unset] []))
          refine Goes.step (fun _ k => XS.iload X364.here hx rfl (hb hby at_127) rfl  k) ?_
          show Goes _ _ _ _ _ _ _ (T364.setTop (mkF m 129 #[.val (.int p0), .val (.int p1), .val (.int p2), .val (.int p3), .val (.int p4), .val (.int p5), .val (.int (3 : Int32)), .val (.int (2 : Int32)), .val (.int (1 : Int32)), .val (.ref b330), .val (.int (1 : Int32)), .unset] [(.int (2 : Int32))]))
          refine Goes.step (fun _ k => XS.iconst X364.here hx rfl (hb hby at_129) k) ?_
          show Goes _ _ _ _ _ _ _ (T364.setTop (mkF m 130 #[.val (.int p0), .val (.int p1), .val (.int p2), .val (.int p3), .val (.int p4), .val (.int p5), .val (.int (3 : Int32)), .val (.int (2 : Int32)), .val (.int (1 : Int32)), .val (.ref b330), .val (.int (1 : Int32)), .unset] [(.int (1 : Int32)), (.int (2 : Int32))]))
          refine Goes.step (fun _ k => XS.icmpNo X364.here hx rfl (hb hby at_130) rfl (flt (by decide : ¬ ((2 : Int32) < (1 : Int32)))).1 k) ?_
          show Goes _ _ _ _ _ _ _ (T364.setTop (mkF m 133 #[.val (.int p0), .val (.int p1), .val (.int p2), .val (.int p3), .val (.int p4), .val (.int p5), .val (.int (3 : Int32)), .val (.int (2 : Int32)), .val (.int (1 : Int32)), .val (.ref b330), .val (.int (1 : Int32)), .unset] []))
          refine Goes.step (fun _ k => XS.aload X364.here hx rfl (hb hby at_133) rfl rfl k) ?_
          show Goes _ _ _ _ _ _ _ (T364.setTop (mkF m 135 #[.val (.int p0), .val (.int p1), .val (.int p2), .val (.int p3), .val (.int p4), .val (.int p5), .val (.int (3 : Int32)), .val (.int (2 : Int32)), .val (.int (1 : Int32)), .val (.ref b330), .val (.int (1 : Int32)), .unset] [(.ref b330)]))
          obtain ⟨cq391, kq391, q391a, q391b, q391c⟩ := isOf hZ eh364 v356_0_3
          obtain ⟨_, _, ⟨T391, L391, k391, n391⟩, -, X391, ⟨Lc391, hQ391, l391, y391, z391⟩, st391⟩ := X364.virtualBack hx (y := (⟨"com/example/hailwise/hailwise/NodeQueue", "poll", "()I"⟩ : MethodName)) (z := (⟨"com/example/hailwise/hailwise/NodeQueue", "poll", "()I"⟩ : MethodName)) hown (mvT hZ (hw _ (List.mem_of_getElem? (i := 27) rfl))) (mvT hZ (hw _ (List.mem_of_getElem? (i := 28) rfl))) (notFace_of_selects (args := #[]) (mvT hZ (hw _ (List.mem_of_getElem? (i := 30) rfl)))) (mvT hZ (hw _ (List.mem_of_getElem? (i := 30) rfl))) (mvT hZ (hw _ (List.mem_of_getElem? (i := 29) rfl))) (by decide) (backOf (W := 0) (rm5_3 l Z a0 hw [] b330 r332_0_0 r332_0_1 kk332_0_0 kk332_0_1 T356.heap n0 Z363 v356_0_0 v356_0_1 v356_0_2 v356_0_3 v356_0_4 v356_0_5 g_b330 g_r332_0_0 g_r332_0_1 ne338 ne339 (Ne.symm nn332_0_0)) hZ (hw _ (List.mem_of_getElem? (i := 31) rfl)) (hw _ (List.mem_of_getElem? (i := 2) rfl)) (by decide) (by decide)) q391a q391c (g := (mkF m 135 #[.val (.int p0), .val (.int p1), .val (.int p2), .val (.int p3), .val (.int p4), .val (.int p5), .val (.int (3 : Int32)), .val (.int (2 : Int32)), .val (.int (1 : Int32)), .val (.ref b330), .val (.int (1 : Int32)), .unset] [(.ref b330)])) rfl (by rw [hml]; rfl) (Steps.refl _) (argsL := []) (rest := []) (lenOf pd_3 rfl) rfl (by show 2 * 0 + _ ≤ _; exact Nat.le_of_eq rfl) (hb hby at_135) (fun _ _ => ⟨rfl, eh364, (by decide : 3 + 0 ≤ _), (by decide : 131 + 0 ≤ _)⟩)
          dsimp only [Pt.U, Pt.locs, Pt.cells, Pt.slots] at X391 l391 y391 z391 st391 hQ391
          subst l391 y391 z391
          obtain ⟨N391, KK391, hR391⟩ := hQ391
          have NA391 := Fr.app NA364 N391
          have f392 := v356_0_3.keep KK391
          have K398 : Keep h0 T391.heap [] := K363.trans KK391 (allS (Or.inr sz_b330) (allS (Or.inr sz_r332_0_0) (allS (Or.inr sz_r332_0_1) all0)))
          have Z398 : n0 ≤ T391.heap.size := Nat.le_trans Z363 KK391.1
          obtain ⟨rv391_0, rfl, v391_0_0, v391_0_1, v391_0_2, v391_0_3, v391_0_4, v391_0_5⟩ := hR391
          refine Goes.back st391 ?_
          show Goes _ _ _ _ _ _ _ (T391.setTop (mkF m 138 #[.val (.int p0), .val (.int p1), .val (.int p2), .val (.int p3), .val (.int p4), .val (.int p5), .val (.int (3 : Int32)), .val (.int (2 : Int32)), .val (.int (1 : Int32)), .val (.ref b330), .val (.int (1 : Int32)), .unset] [(.int rv391_0)]))
          refine Goes.step (fun _ k => XS.pop X391.here hx rfl (hb hby at_138) rfl rfl k) ?_
          show Goes _ _ _ _ _ _ _ (T391.setTop (mkF m 139 #[.val (.int p0), .val (.int p1), .val (.int p2), .val (.int p3), .val (.int p4), .val (.int p5), .val (.int (3 : Int32)), .val (.int (2 : Int32)), .val (.int (1 : Int32)), .val (.ref b330), .val (.int (1 : Int32)), .unset] []))
          refine Goes.step (fun _ k => XS.iload X391.here hx rfl (hb hby at_139) rfl  k) ?_
          show Goes _ _ _ _ _ _ _ (T391.setTop (mkF m 141 #[.val (.int p0), .val (.int p1), .val (.int p2), .val (.int p3), .val (.int p4), .val (.int p5), .val (.int (3 : Int32)), .val (.int (2 : Int32)), .val (.int (1 : Int32)), .val (.ref b330), .val (.int (1 : Int32)), .unset] [(.int (2 : Int32))]))
          refine Goes.step (fun _ k => XS.iconst X391.here hx rfl (hb hby at_141) k) ?_
          show Goes _ _ _ _ _ _ _ (T391.setTop (mkF m 142 #[.val (.int p0), .val (.int p1), .val (.int p2), .val (.int p3), .val (.int p4), .val (.int p5), .val (.int (3 : Int32)), .val (.int (2 : Int32)), .val (.int (1 : Int32)), .val (.ref b330), .val (.int (1 : Int32)), .unset] [(.int (2 : Int32)), (.int (2 : Int32))]))
          refine Goes.step (fun _ k => XS.icmpNo X391.here hx rfl (hb hby at_142) rfl (flt (by decide : ¬ ((2 : Int32) < (2 : Int32)))).1 k) ?_
          show Goes _ _ _ _ _ _ _ (T391.setTop (mkF m 145 #[.val (.int p0), .val (.int p1), .val (.int p2), .val (.int p3), .val (.int p4), .val (.int p5), .val (.int (3 : Int32)), .val (.int (2 : Int32)), .val (.int (1 : Int32)), .val (.ref b330), .val (.int (1 : Int32)), .unset] []))
          refine Goes.step (fun _ k => XS.aload X391.here hx rfl (hb hby at_145) rfl rfl k) ?_
          show Goes _ _ _ _ _ _ _ (T391.setTop (mkF m 147 #[.val (.int p0), .val (.int p1), .val (.int p2), .val (.int p3), .val (.int p4), .val (.int p5), .val (.int (3 : Int32)), .val (.int (2 : Int32)), .val (.int (1 : Int32)), .val (.ref b330), .val (.int (1 : Int32)), .unset] [(.ref b330)]))
          obtain ⟨cq399, kq399, q399a, q399b, q399c⟩ := isOf hZ rfl v391_0_3
          obtain ⟨_, _, ⟨T399, L399, k399, n399⟩, -, X399, ⟨Lc399, hQ399, l399, y399, z399⟩, st399⟩ := X391.virtualBack hx (y := (⟨"com/example/hailwise/hailwise/NodeQueue", "poll", "()I"⟩ : MethodName)) (z := (⟨"com/example/hailwise/hailwise/NodeQueue", "poll", "()I"⟩ : MethodName)) hown (mvT hZ (hw _ (List.mem_of_getElem? (i := 27) rfl))) (mvT hZ (hw _ (List.mem_of_getElem? (i := 28) rfl))) (notFace_of_selects (args := #[]) (mvT hZ (hw _ (List.mem_of_getElem? (i := 30) rfl)))) (mvT hZ (hw _ (List.mem_of_getElem? (i := 30) rfl))) (mvT hZ (hw _ (List.mem_of_getElem? (i := 29) rfl))) (by decide) (backOf (W := 0) (rm5_2 l Z a0 hw [] b330 r332_0_0 r332_0_1 kk332_0_0 kk332_0_1 T391.heap n0 Z398 v391_0_0 v391_0_1 v391_0_2 v391_0_3 v391_0_4 v391_0_5 g_b330 g_r332_0_0 g_r332_0_1 ne338 ne339 (Ne.symm nn332_0_0)) hZ (hw _ (List.mem_of_getElem? (i := 31) rfl)) (hw _ (List.mem_of_getElem? (i := 2) rfl)) (by decide) (by decide)) q399a q399c (g := (mkF m 147 #[.val (.int p0), .val (.int p1), .val (.int p2), .val (.int p3), .val (.int p4), .val (.int p5), .val (.int (3 : Int32)), .val (.int (2 : Int32)), .val (.int (1 : Int32)), .val (.ref b330), .val (.int (1 : Int32)), .unset] [(.ref b330)])) rfl (by rw [hml]; rfl) (Steps.refl _) (argsL := []) (rest := []) (lenOf pd_3 rfl) rfl (by show 2 * 0 + _ ≤ _; exact Nat.le_of_eq rfl) (hb hby at_147) (fun _ _ => ⟨rfl, rfl, (by decide : 3 + 0 ≤ _), (by decide : 131 + 0 ≤ _)⟩)
          dsimp only [Pt.U, Pt.locs, Pt.cells, Pt.slots] at X399 l399 y399 z399 st399 hQ399
          subst l399 y399 z399
          obtain ⟨N399, KK399, hR399⟩ := hQ399
          have NA399 := Fr.app NA391 N399
          have f400 := v391_0_3.keep KK399
          have K406 : Keep h0 T399.heap [] := K398.trans KK399 (allS (Or.inr sz_b330) (allS (Or.inr sz_r332_0_0) (allS (Or.inr sz_r332_0_1) all0)))
          have Z406 : n0 ≤ T399.heap.size := Nat.le_trans Z398 KK399.1
          obtain ⟨rv399_0, rfl, v399_0_0, v399_0_1, v399_0_2, v399_0_3, v399_0_4, v399_0_5⟩ := hR399
          refine Goes.back st399 ?_
          show Goes _ _ _ _ _ _ _ (T399.setTop (mkF m 150 #[.val (.int p0), .val (.int p1), .val (.int p2), .val (.int p3), .val (.int p4), .val (.int p5), .val (.int (3 : Int32)), .val (.int (2 : Int32)), .val (.int (1 : Int32)), .val (.ref b330), .val (.int (1 : Int32)), .unset] [(.int rv399_0)]))
          refine Goes.step (fun _ k => XS.pop X399.here hx rfl (hb hby at_150) rfl rfl k) ?_
          show Goes _ _ _ _ _ _ _ (T399.setTop (mkF m 151 #[.val (.int p0), .val (.int p1), .val (.int p2), .val (.int p3), .val (.int p4), .val (.int p5), .val (.int (3 : Int32)), .val (.int (2 : Int32)), .val (.int (1 : Int32)), .val (.ref b330), .val (.int (1 : Int32)), .unset] []))
          refine Goes.step (fun _ k => XS.iload X399.here hx rfl (hb hby at_151) rfl  k) ?_
          show Goes _ _ _ _ _ _ _ (T399.setTop (mkF m 153 #[.val (.int p0), .val (.int p1), .val (.int p2), .val (.int p3), .val (.int p4), .val (.int p5), .val (.int (3 : Int32)), .val (.int (2 : Int32)), .val (.int (1 : Int32)), .val (.ref b330), .val (.int (1 : Int32)), .unset] [(.int (2 : Int32))]))
          refine Goes.step (fun _ k => XS.iconst X399.here hx rfl (hb hby at_153) k) ?_
          show Goes _ _ _ _ _ _ _ (T399.setTop (mkF m 154 #[.val (.int p0), .val (.int p1), .val (.int p2), .val (.int p3), .val (.int p4), .val (.int p5), .val (.int (3 : Int32)), .val (.int (2 : Int32)), .val (.int (1 : Int32)), .val (.ref b330), .val (.int (1 : Int32)), .unset] [(.int (3 : Int32)), (.int (2 : Int32))]))
          refine Goes.step (fun _ k => XS.icmpYes X399.here hx rfl (pc0 := 154) (pc' := 163) rfl (hb hby at_154) rfl (tlt (by decide : (2 : Int32) < (3 : Int32))).1 (by decide) (by decide) k) ?_
          show Goes _ _ _ _ _ _ _ (T399.setTop (mkF m 163 #[.val (.int p0), .val (.int p1), .val (.int p2), .val (.int p3), .val (.int p4), .val (.int p5), .val (.int (3 : Int32)), .val (.int (2 : Int32)), .val (.int (1 : Int32)), .val (.ref b330), .val (.int (1 : Int32)), .unset] []))
          refine Goes.step (fun _ k => XS.iload X399.here hx rfl (hb hby at_163) rfl  k) ?_
          show Goes _ _ _ _ _ _ _ (T399.setTop (mkF m 165 #[.val (.int p0), .val (.int p1), .val (.int p2), .val (.int p3), .val (.int p4), .val (.int p5), .val (.int (3 : Int32)), .val (.int (2 : Int32)), .val (.int (1 : Int32)), .val (.ref b330), .val (.int (1 : Int32)), .unset] [(.int (1 : Int32))]))
          refine Goes.step (fun _ k => XS.ifNo X399.here hx rfl (hb hby at_165) rfl ((if0 _ _).trans (feq (by decide : ¬ ((1 : Int32) = (0 : Int32)))).1) k) ?_
          show Goes _ _ _ _ _ _ _ (T399.setTop (mkF m 168 #[.val (.int p0), .val (.int p1), .val (.int p2), .val (.int p3), .val (.int p4), .val (.int p5), .val (.int (3 : Int32)), .val (.int (2 : Int32)), .val (.int (1 : Int32)), .val (.ref b330), .val (.int (1 : Int32)), .unset] []))
          refine Goes.step (fun _ k => XS.aload X399.here hx rfl (hb hby at_168) rfl rfl k) ?_
          show Goes _ _ _ _ _ _ _ (T399.setTop (mkF m 170 #[.val (.int p0), .val (.int p1), .val (.int p2), .val (.int p3), .val (.int p4), .val (.int p5), .val (.int (3 : Int32)), .val (.int (2 : Int32)), .val (.int (1 : Int32)), .val (.ref b330), .val (.int (1 : Int32)), .unset] [(.ref b330)]))
          obtain ⟨cq407, kq407, q407a, q407b, q407c⟩ := isOf hZ rfl v399_0_3
          obtain ⟨_, _, ⟨T407, L407, k407, n407⟩, -, X407, ⟨Lc407, hQ407, l407, y407, z407⟩, st407⟩ := X399.virtualBack hx (y := (⟨"com/example/hailwise/hailwise/NodeQueue", "clear", "()V"⟩ : MethodName)) (z := (⟨"com/example/hailwise/hailwise/NodeQueue", "clear", "()V"⟩ : MethodName)) hown (mvT hZ (hw _ (List.mem_of_getElem? (i := 32) rfl))) (mvT hZ (hw _ (List.mem_of_getElem? (i := 33) rfl))) (notFace_of_selects (args := #[]) (mvT hZ (hw _ (List.mem_of_getElem? (i := 35) rfl)))) (mvT hZ (hw _ (List.mem_of_getElem? (i := 35) rfl))) (mvT hZ (hw _ (List.mem_of_getElem? (i := 34) rfl))) (by decide) (backOf (W := 0) (rm6 l Z a0 hw [] b330 r332_0_0 r332_0_1 (1 : Int32) T399.heap n0 Z406 v399_0_0 v399_0_1 v399_0_2 v399_0_3 g_b330) hZ (hw _ (List.mem_of_getElem? (i := 36) rfl)) (hw _ (List.mem_of_getElem? (i := 2) rfl)) (by decide) (by decide)) q407a q407c (g := (mkF m 170 #[.val (.int p0), .val (.int p1), .val (.int p2), .val (.int p3), .val (.int p4), .val (.int p5), .val (.int (3 : Int32)), .val (.int (2 : Int32)), .val (.int (1 : Int32)), .val (.ref b330), .val (.int (1 : Int32)), .unset] [(.ref b330)])) rfl (by rw [hml]; rfl) (Steps.refl _) (argsL := []) (rest := []) (lenOf pd_0 rfl) rfl (by show 2 * 0 + _ ≤ _; exact Nat.le_of_eq rfl) (hb hby at_170) (fun _ _ => ⟨rfl, rfl, (by decide : 3 + 0 ≤ _), (by decide : 131 + 0 ≤ _)⟩)
          dsimp only [Pt.U, Pt.locs, Pt.cells, Pt.slots] at X407 l407 y407 z407 st407 hQ407
          subst l407 y407 z407
          obtain ⟨N407, KK407, hR407⟩ := hQ407
          have NA407 := Fr.app NA399 N407
          have f408 := v399_0_3.keep KK407
          have f412 := v399_0_4.keep KK407 (ninS (Ne.symm ne338) nin0)
          have f413 := v399_0_5.keep KK407 (ninS (Ne.symm ne339) nin0)
          have K414 : Keep h0 T407.heap [] := K406.trans KK407 (allS (Or.inr sz_b330) all0)
          have Z414 : n0 ≤ T407.heap.size := Nat.le_trans Z406 KK407.1
          obtain ⟨rfl, v407_0_0, v407_0_1, v407_0_2, v407_0_3⟩ := hR407
          refine Goes.back st407 ?_
          show Goes _ _ _ _ _ _ _ (T407.setTop (mkF m 173 #[.val (.int p0), .val (.int p1), .val (.int p2), .val (.int p3), .val (.int p4), .val (.int p5), .val (.int (3 : Int32)), .val (.int (2 : Int32)), .val (.int (1 : Int32)), .val (.ref b330), .val (.int (1 : Int32)), .unset] []))
          refine Goes.step (fun _ k => XS.iload X407.here hx rfl (hb hby at_173) rfl  k) ?_
          show Goes _ _ _ _ _ _ _ (T407.setTop (mkF m 175 #[.val (.int p0), .val (.int p1), .val (.int p2), .val (.int p3), .val (.int p4), .val (.int p5), .val (.int (3 : Int32)), .val (.int (2 : Int32)), .val (.int (1 : Int32)), .val (.ref b330), .val (.int (1 : Int32)), .unset] [(.int (1 : Int32))]))
          refine Goes.step (fun _ k => XS.ifYes X407.here hx rfl (pc0 := 175) (pc' := 185) rfl (hb hby at_175) rfl ((if0 _ _).trans (feq (by decide : ¬ ((1 : Int32) = (0 : Int32)))).2) (by decide) (by decide) k) ?_
          show Goes _ _ _ _ _ _ _ (T407.setTop (mkF m 185 #[.val (.int p0), .val (.int p1), .val (.int p2), .val (.int p3), .val (.int p4), .val (.int p5), .val (.int (3 : Int32)), .val (.int (2 : Int32)), .val (.int (1 : Int32)), .val (.ref b330), .val (.int (1 : Int32)), .unset] []))
          refine Goes.step (fun _ k => XS.iconst X407.here hx rfl (hb hby at_185) k) ?_
          show Goes _ _ _ _ _ _ _ (T407.setTop (mkF m 186 #[.val (.int p0), .val (.int p1), .val (.int p2), .val (.int p3), .val (.int p4), .val (.int p5), .val (.int (3 : Int32)), .val (.int (2 : Int32)), .val (.int (1 : Int32)), .val (.ref b330), .val (.int (1 : Int32)), .unset] [(.int (1 : Int32))]))
          refine Goes.step (fun _ k => XS.goto X407.here hx rfl (pc0 := 186) (pc' := 190) rfl (hb hby at_186) (by decide) (by decide) k) ?_
          show Goes _ _ _ _ _ _ _ (T407.setTop (mkF m 190 #[.val (.int p0), .val (.int p1), .val (.int p2), .val (.int p3), .val (.int p4), .val (.int p5), .val (.int (3 : Int32)), .val (.int (2 : Int32)), .val (.int (1 : Int32)), .val (.ref b330), .val (.int (1 : Int32)), .unset] [(.int (1 : Int32))]))
          refine Goes.step (fun _ k => XS.istore X407.here hx rfl (hb hby at_190) rfl (l' := #[.val (.int p0), .val (.int p1), .val (.int p2), .val (.int p3), .val (.int p4), .val (.int p5), .val (.int (3 : Int32)), .val (.int (2 : Int32)), .val (.int (1 : Int32)), .val (.ref b330), .val (.int (1 : Int32)), .val (.int (1 : Int32))]) rfl k) ?_
          show Goes _ _ _ _ _ _ _ (T407.setTop (mkF m 192 #[.val (.int p0), .val (.int p1), .val (.int p2), .val (.int p3), .val (.int p4), .val (.int p5), .val (.int (3 : Int32)), .val (.int (2 : Int32)), .val (.int (1 : Int32)), .val (.ref b330), .val (.int (1 : Int32)), .val (.int (1 : Int32))] []))
          refine Goes.step (fun _ k => XS.iload X407.here hx rfl (hb hby at_192) rfl  k) ?_
          show Goes _ _ _ _ _ _ _ (T407.setTop (mkF m 194 #[.val (.int p0), .val (.int p1), .val (.int p2), .val (.int p3), .val (.int p4), .val (.int p5), .val (.int (3 : Int32)), .val (.int (2 : Int32)), .val (.int (1 : Int32)), .val (.ref b330), .val (.int (1 : Int32)), .val (.int (1 : Int32))] [(.int (1 : Int32))]))
          refine Goes.step (fun _ k => XS.ifNo X407.here hx rfl (hb hby at_194) rfl ((if0 _ _).trans (feq (by decide : ¬ ((1 : Int32) = (0 : Int32)))).1) k) ?_
          show Goes _ _ _ _ _ _ _ (T407.setTop (mkF m 197 #[.val (.int p0), .val (.int p1), .val (.int p2), .val (.int p3), .val (.int p4), .val (.int p5), .val (.int (3 : Int32)), .val (.int (2 : Int32)), .val (.int (1 : Int32)), .val (.ref b330), .val (.int (1 : Int32)), .val (.int (1 : Int32))] []))
          refine Goes.step (fun _ k => XS.aload X407.here hx rfl (hb hby at_197) rfl rfl k) ?_
          show Goes _ _ _ _ _ _ _ (T407.setTop (mkF m 199 #[.val (.int p0), .val (.int p1), .val (.int p2), .val (.int p3), .val (.int p4), .val (.int p5), .val (.int (3 : Int32)), .val (.int (2 : Int32)), .val (.int (1 : Int32)), .val (.ref b330), .val (.int (1 : Int32)), .val (.int (1 : Int32))] [(.ref b330)]))
          obtain ⟨cq415, kq415, q415a, q415b, q415c⟩ := isOf hZ rfl v407_0_3
          obtain ⟨_, _, ⟨T415, L415, k415, n415⟩, -, X415, ⟨Lc415, hQ415, l415, y415, z415⟩, st415⟩ := X407.virtualBack hx (y := (⟨"com/example/hailwise/hailwise/NodeQueue", "isEmpty", "()Z"⟩ : MethodName)) (z := (⟨"com/example/hailwise/hailwise/NodeQueue", "isEmpty", "()Z"⟩ : MethodName)) hown (mvT hZ (hw _ (List.mem_of_getElem? (i := 22) rfl))) (mvT hZ (hw _ (List.mem_of_getElem? (i := 23) rfl))) (notFace_of_selects (args := #[]) (mvT hZ (hw _ (List.mem_of_getElem? (i := 25) rfl)))) (mvT hZ (hw _ (List.mem_of_getElem? (i := 25) rfl))) (mvT hZ (hw _ (List.mem_of_getElem? (i := 24) rfl))) (by decide) (backOf (W := 0) (rm4 l Z a0 hw [] b330 (0 : Int32) T407.heap n0 Z414 v407_0_2) hZ (hw _ (List.mem_of_getElem? (i := 26) rfl)) (hw _ (List.mem_of_getElem? (i := 2) rfl)) (by decide) (by decide)) q415a q415c (g := (mkF m 199 #[.val (.int p0), .val (.int p1), .val (.int p2), .val (.int p3), .val (.int p4), .val (.int p5), .val (.int (3 : Int32)), .val (.int (2 : Int32)), .val (.int (1 : Int32)), .val (.ref b330), .val (.int (1 : Int32)), .val (.int (1 : Int32))] [(.ref b330)])) rfl (by rw [hml]; rfl) (Steps.refl _) (argsL := []) (rest := []) (lenOf pd_2 rfl) rfl (by show 2 * 0 + _ ≤ _; exact Nat.le_of_eq rfl) (hb hby at_199) (fun _ _ => ⟨rfl, rfl, (by decide : 3 + 0 ≤ _), (by decide : 131 + 0 ≤ _)⟩)
          dsimp only [Pt.U, Pt.locs, Pt.cells, Pt.slots] at X415 l415 y415 z415 st415 hQ415
          subst l415 y415 z415
          obtain ⟨N415, eh415, hR415⟩ := hQ415
          have NA415 := Fr.app NA407 N415
          rcases hR415 with ⟨rfl, u415_0_0⟩ | ⟨rfl, u415_1_0⟩
          · refine Goes.back st415 ?_
            show Goes _ _ _ _ _ _ _ (T415.setTop (mkF m 202 #[.val (.int p0), .val (.int p1), .val (.int p2), .val (.int p3), .val (.int p4), .val (.int p5), .val (.int (3 : Int32)), .val (.int (2 : Int32)), .val (.int (1 : Int32)), .val (.ref b330), .val (.int (1 : Int32)), .val (.int (1 : Int32))] [(.int (1 : Int32))]))
            refine Goes.step (fun _ k => XS.iload X415.here hx rfl (hb hby at_202) rfl  k) ?_
            show Goes _ _ _ _ _ _ _ (T415.setTop (mkF m 204 #[.val (.int p0), .val (.int p1), .val (.int p2), .val (.int p3), .val (.int p4), .val (.int p5), .val (.int (3 : Int32)), .val (.int (2 : Int32)), .val (.int (1 : Int32)), .val (.ref b330), .val (.int (1 : Int32)), .val (.int (1 : Int32))] [(.int (1 : Int32)), (.int (1 : Int32))]))
            refine Goes.step (fun _ k => XS.icmpNo X415.here hx rfl (hb hby at_204) rfl (teq (by decide : (1 : Int32) = (1 : Int32))).2 k) ?_
            show Goes _ _ _ _ _ _ _ (T415.setTop (mkF m 207 #[.val (.int p0), .val (.int p1), .val (.int p2), .val (.int p3), .val (.int p4), .val (.int p5), .val (.int (3 : Int32)), .val (.int (2 : Int32)), .val (.int (1 : Int32)), .val (.ref b330), .val (.int (1 : Int32)), .val (.int (1 : Int32))] []))
            refine Goes.step (fun _ k => XS.iconst X415.here hx rfl (hb hby at_207) k) ?_
            show Goes _ _ _ _ _ _ _ (T415.setTop (mkF m 208 #[.val (.int p0), .val (.int p1), .val (.int p2), .val (.int p3), .val (.int p4), .val (.int p5), .val (.int (3 : Int32)), .val (.int (2 : Int32)), .val (.int (1 : Int32)), .val (.ref b330), .val (.int (1 : Int32)), .val (.int (1 : Int32))] [(.int (1 : Int32))]))
            refine Goes.step (fun _ k => XS.goto X415.here hx rfl (pc0 := 208) (pc' := 212) rfl (hb hby at_208) (by decide) (by decide) k) ?_
            show Goes _ _ _ _ _ _ _ (T415.setTop (mkF m 212 #[.val (.int p0), .val (.int p1), .val (.int p2), .val (.int p3), .val (.int p4), .val (.int p5), .val (.int (3 : Int32)), .val (.int (2 : Int32)), .val (.int (1 : Int32)), .val (.ref b330), .val (.int (1 : Int32)), .val (.int (1 : Int32))] [(.int (1 : Int32))]))
            refine Goes.step (fun _ k => XS.istore X415.here hx rfl (hb hby at_212) rfl (l' := #[.val (.int p0), .val (.int p1), .val (.int p2), .val (.int p3), .val (.int p4), .val (.int p5), .val (.int (3 : Int32)), .val (.int (2 : Int32)), .val (.int (1 : Int32)), .val (.ref b330), .val (.int (1 : Int32)), .val (.int (1 : Int32))]) rfl k) ?_
            show Goes _ _ _ _ _ _ _ (T415.setTop (mkF m 214 #[.val (.int p0), .val (.int p1), .val (.int p2), .val (.int p3), .val (.int p4), .val (.int p5), .val (.int (3 : Int32)), .val (.int (2 : Int32)), .val (.int (1 : Int32)), .val (.ref b330), .val (.int (1 : Int32)), .val (.int (1 : Int32))] []))
            refine Goes.step (fun _ k => XS.iload X415.here hx rfl (hb hby at_214) rfl  k) ?_
            show Goes _ _ _ _ _ _ _ (T415.setTop (mkF m 216 #[.val (.int p0), .val (.int p1), .val (.int p2), .val (.int p3), .val (.int p4), .val (.int p5), .val (.int (3 : Int32)), .val (.int (2 : Int32)), .val (.int (1 : Int32)), .val (.ref b330), .val (.int (1 : Int32)), .val (.int (1 : Int32))] [(.int (1 : Int32))]))
            exact Goes.ret X415 hx (BodyLoose.notSynchronized Bd) Bd.returns rfl (Or.inl ⟨rfl, by simp, _, rfl⟩) (hb hby at_216) (by show Q0 Z p0 p1 p2 p3 p4 p5 h0 n0 (some (.int (1 : Int32))) T415.heap _; rw [eh415]; exact ⟨rfl, NA415⟩) (by decide) (by decide)
          · exact absurd (by decide : (0 : Int32) = (0 : Int32)) u415_1_0
        · show Goes _ _ _ _ _ _ _ (T364.setTop (mkF m 127 #[.val (.int p0), .val (.int p1), .val (.int p2), .val (.int p3), .val (.int p4), .val (.int p5), .val (.int (3 : Int32)), .val (.int (3 : Int32)), .val (.int (1 : Int32)), .val (.ref b330), .val (.int (1 : Int32)), .unset] []))
          refine Goes.step (fun _ k => XS.iload X364.here hx rfl (hb hby at_127) rfl  k) ?_
          show Goes _ _ _ _ _ _ _ (T364.setTop (mkF m 129 #[.val (.int p0), .val (.int p1), .val (.int p2), .val (.int p3), .val (.int p4), .val (.int p5), .val (.int (3 : Int32)), .val (.int (3 : Int32)), .val (.int (1 : Int32)), .val (.ref b330), .val (.int (1 : Int32)), .unset] [(.int (3 : Int32))]))
          refine Goes.step (fun _ k => XS.iconst X364.here hx rfl (hb hby at_129) k) ?_
          show Goes _ _ _ _ _ _ _ (T364.setTop (mkF m 130 #[.val (.int p0), .val (.int p1), .val (.int p2), .val (.int p3), .val (.int p4), .val (.int p5), .val (.int (3 : Int32)), .val (.int (3 : Int32)), .val (.int (1 : Int32)), .val (.ref b330), .val (.int (1 : Int32)), .unset] [(.int (1 : Int32)), (.int (3 : Int32))]))
          refine Goes.step (fun _ k => XS.icmpNo X364.here hx rfl (hb hby at_130) rfl (flt (by decide : ¬ ((3 : Int32) < (1 : Int32)))).1 k) ?_
          show Goes _ _ _ _ _ _ _ (T364.setTop (mkF m 133 #[.val (.int p0), .val (.int p1), .val (.int p2), .val (.int p3), .val (.int p4), .val (.int p5), .val (.int (3 : Int32)), .val (.int (3 : Int32)), .val (.int (1 : Int32)), .val (.ref b330), .val (.int (1 : Int32)), .unset] []))
          refine Goes.step (fun _ k => XS.aload X364.here hx rfl (hb hby at_133) rfl rfl k) ?_
          show Goes _ _ _ _ _ _ _ (T364.setTop (mkF m 135 #[.val (.int p0), .val (.int p1), .val (.int p2), .val (.int p3), .val (.int p4), .val (.int p5), .val (.int (3 : Int32)), .val (.int (3 : Int32)), .val (.int (1 : Int32)), .val (.ref b330), .val (.int (1 : Int32)), .unset] [(.ref b330)]))
          obtain ⟨cq416, kq416, q416a, q416b, q416c⟩ := isOf hZ eh364 v356_0_3
          obtain ⟨_, _, ⟨T416, L416, k416, n416⟩, -, X416, ⟨Lc416, hQ416, l416, y416, z416⟩, st416⟩ := X364.virtualBack hx (y := (⟨"com/example/hailwise/hailwise/NodeQueue", "poll", "()I"⟩ : MethodName)) (z := (⟨"com/example/hailwise/hailwise/NodeQueue", "poll", "()I"⟩ : MethodName)) hown (mvT hZ (hw _ (List.mem_of_getElem? (i := 27) rfl))) (mvT hZ (hw _ (List.mem_of_getElem? (i := 28) rfl))) (notFace_of_selects (args := #[]) (mvT hZ (hw _ (List.mem_of_getElem? (i := 30) rfl)))) (mvT hZ (hw _ (List.mem_of_getElem? (i := 30) rfl))) (mvT hZ (hw _ (List.mem_of_getElem? (i := 29) rfl))) (by decide) (backOf (W := 0) (rm5_3 l Z a0 hw [] b330 r332_0_0 r332_0_1 kk332_0_0 kk332_0_1 T356.heap n0 Z363 v356_0_0 v356_0_1 v356_0_2 v356_0_3 v356_0_4 v356_0_5 g_b330 g_r332_0_0 g_r332_0_1 ne338 ne339 (Ne.symm nn332_0_0)) hZ (hw _ (List.mem_of_getElem? (i := 31) rfl)) (hw _ (List.mem_of_getElem? (i := 2) rfl)) (by decide) (by decide)) q416a q416c (g := (mkF m 135 #[.val (.int p0), .val (.int p1), .val (.int p2), .val (.int p3), .val (.int p4), .val (.int p5), .val (.int (3 : Int32)), .val (.int (3 : Int32)), .val (.int (1 : Int32)), .val (.ref b330), .val (.int (1 : Int32)), .unset] [(.ref b330)])) rfl (by rw [hml]; rfl) (Steps.refl _) (argsL := []) (rest := []) (lenOf pd_3 rfl) rfl (by show 2 * 0 + _ ≤ _; exact Nat.le_of_eq rfl) (hb hby at_135) (fun _ _ => ⟨rfl, eh364, (by decide : 3 + 0 ≤ _), (by decide : 131 + 0 ≤ _)⟩)
          dsimp only [Pt.U, Pt.locs, Pt.cells, Pt.slots] at X416 l416 y416 z416 st416 hQ416
          subst l416 y416 z416
          obtain ⟨N416, KK416, hR416⟩ := hQ416
          have NA416 := Fr.app NA364 N416
          have f417 := v356_0_3.keep KK416
          have K423 : Keep h0 T416.heap [] := K363.trans KK416 (allS (Or.inr sz_b330) (allS (Or.inr sz_r332_0_0) (allS (Or.inr sz_r332_0_1) all0)))
          have Z423 : n0 ≤ T416.heap.size := Nat.le_trans Z363 KK416.1
          obtain ⟨rv416_0, rfl, v416_0_0, v416_0_1, v416_0_2, v416_0_3, v416_0_4, v416_0_5⟩ := hR416
          refine Goes.back st416 ?_
          show Goes _ _ _ _ _ _ _ (T416.setTop (mkF m 138 #[.val (.int p0), .val (.int p1), .val (.int p2), .val (.int p3), .val (.int p4), .val (.int p5), .val (.int (3 : Int32)), .val (.int (3 : Int32)), .val (.int (1 : Int32)), .val (.ref b330), .val (.int (1 : Int32)), .unset] [(.int rv416_0)]))
          refine Goes.step (fun _ k => XS.pop X416.here hx rfl (hb hby at_138) rfl rfl k) ?_
          show Goes _ _ _ _ _ _ _ (T416.setTop (mkF m 139 #[.val (.int p0), .val (.int p1), .val (.int p2), .val (.int p3), .val (.int p4), .val (.int p5), .val (.int (3 : Int32)), .val (.int (3 : Int32)), .val (.int (1 : Int32)), .val (.ref b330), .val (.int (1 : Int32)), .unset] []))
          refine Goes.step (fun _ k => XS.iload X416.here hx rfl (hb hby at_139) rfl  k) ?_
          show Goes _ _ _ _ _ _ _ (T416.setTop (mkF m 141 #[.val (.int p0), .val (.int p1), .val (.int p2), .val (.int p3), .val (.int p4), .val (.int p5), .val (.int (3 : Int32)), .val (.int (3 : Int32)), .val (.int (1 : Int32)), .val (.ref b330), .val (.int (1 : Int32)), .unset] [(.int (3 : Int32))]))
          refine Goes.step (fun _ k => XS.iconst X416.here hx rfl (hb hby at_141) k) ?_
          show Goes _ _ _ _ _ _ _ (T416.setTop (mkF m 142 #[.val (.int p0), .val (.int p1), .val (.int p2), .val (.int p3), .val (.int p4), .val (.int p5), .val (.int (3 : Int32)), .val (.int (3 : Int32)), .val (.int (1 : Int32)), .val (.ref b330), .val (.int (1 : Int32)), .unset] [(.int (2 : Int32)), (.int (3 : Int32))]))
          refine Goes.step (fun _ k => XS.icmpNo X416.here hx rfl (hb hby at_142) rfl (flt (by decide : ¬ ((3 : Int32) < (2 : Int32)))).1 k) ?_
          show Goes _ _ _ _ _ _ _ (T416.setTop (mkF m 145 #[.val (.int p0), .val (.int p1), .val (.int p2), .val (.int p3), .val (.int p4), .val (.int p5), .val (.int (3 : Int32)), .val (.int (3 : Int32)), .val (.int (1 : Int32)), .val (.ref b330), .val (.int (1 : Int32)), .unset] []))
          refine Goes.step (fun _ k => XS.aload X416.here hx rfl (hb hby at_145) rfl rfl k) ?_
          show Goes _ _ _ _ _ _ _ (T416.setTop (mkF m 147 #[.val (.int p0), .val (.int p1), .val (.int p2), .val (.int p3), .val (.int p4), .val (.int p5), .val (.int (3 : Int32)), .val (.int (3 : Int32)), .val (.int (1 : Int32)), .val (.ref b330), .val (.int (1 : Int32)), .unset] [(.ref b330)]))
          obtain ⟨cq424, kq424, q424a, q424b, q424c⟩ := isOf hZ rfl v416_0_3
          obtain ⟨_, _, ⟨T424, L424, k424, n424⟩, -, X424, ⟨Lc424, hQ424, l424, y424, z424⟩, st424⟩ := X416.virtualBack hx (y := (⟨"com/example/hailwise/hailwise/NodeQueue", "poll", "()I"⟩ : MethodName)) (z := (⟨"com/example/hailwise/hailwise/NodeQueue", "poll", "()I"⟩ : MethodName)) hown (mvT hZ (hw _ (List.mem_of_getElem? (i := 27) rfl))) (mvT hZ (hw _ (List.mem_of_getElem? (i := 28) rfl))) (notFace_of_selects (args := #[]) (mvT hZ (hw _ (List.mem_of_getElem? (i := 30) rfl)))) (mvT hZ (hw _ (List.mem_of_getElem? (i := 30) rfl))) (mvT hZ (hw _ (List.mem_of_getElem? (i := 29) rfl))) (by decide) (backOf (W := 0) (rm5_2 l Z a0 hw [] b330 r332_0_0 r332_0_1 kk332_0_0 kk332_0_1 T416.heap n0 Z423 v416_0_0 v416_0_1 v416_0_2 v416_0_3 v416_0_4 v416_0_5 g_b330 g_r332_0_0 g_r332_0_1 ne338 ne339 (Ne.symm nn332_0_0)) hZ (hw _ (List.mem_of_getElem? (i := 31) rfl)) (hw _ (List.mem_of_getElem? (i := 2) rfl)) (by decide) (by decide)) q424a q424c (g := (mkF m 147 #[.val (.int p0), .val (.int p1), .val (.int p2), .val (.int p3), .val (.int p4), .val (.int p5), .val (.int (3 : Int32)), .val (.int (3 : Int32)), .val (.int (1 : Int32)), .val (.ref b330), .val (.int (1 : Int32)), .unset] [(.ref b330)])) rfl (by rw [hml]; rfl) (Steps.refl _) (argsL := []) (rest := []) (lenOf pd_3 rfl) rfl (by show 2 * 0 + _ ≤ _; exact Nat.le_of_eq rfl) (hb hby at_147) (fun _ _ => ⟨rfl, rfl, (by decide : 3 + 0 ≤ _), (by decide : 131 + 0 ≤ _)⟩)
          dsimp only [Pt.U, Pt.locs, Pt.cells, Pt.slots] at X424 l424 y424 z424 st424 hQ424
          subst l424 y424 z424
          obtain ⟨N424, KK424, hR424⟩ := hQ424
          have NA424 := Fr.app NA416 N424
          have f425 := v416_0_3.keep KK424
          have K431 : Keep h0 T424.heap [] := K423.trans KK424 (allS (Or.inr sz_b330) (allS (Or.inr sz_r332_0_0) (allS (Or.inr sz_r332_0_1) all0)))
          have Z431 : n0 ≤ T424.heap.size := Nat.le_trans Z423 KK424.1
          obtain ⟨rv424_0, rfl, v424_0_0, v424_0_1, v424_0_2, v424_0_3, v424_0_4, v424_0_5⟩ := hR424
          refine Goes.back st424 ?_
          show Goes _ _ _ _ _ _ _ (T424.setTop (mkF m 150 #[.val (.int p0), .val (.int p1), .val (.int p2), .val (.int p3), .val (.int p4), .val (.int p5), .val (.int (3 : Int32)), .val (.int (3 : Int32)), .val (.int (1 : Int32)), .val (.ref b330), .val (.int (1 : Int32)), .unset] [(.int rv424_0)]))
          refine Goes.step (fun _ k => XS.pop X424.here hx rfl (hb hby at_150) rfl rfl k) ?_
          show Goes _ _ _ _ _ _ _ (T424.setTop (mkF m 151 #[.val (.int p0), .val (.int p1), .val (.int p2), .val (.int p3), .val (.int p4), .val (.int p5), .val (.int (3 : Int32)), .val (.int (3 : Int32)), .val (.int (1 : Int32)), .val (.ref b330), .val (.int (1 : Int32)), .unset] []))
          refine Goes.step (fun _ k => XS.iload X424.here hx rfl (hb hby at_151) rfl  k) ?_
          show Goes _ _ _ _ _ _ _ (T424.setTop (mkF m 153 #[.val (.int p0), .val (.int p1), .val (.int p2), .val (.int p3), .val (.int p4), .val (.int p5), .val (.int (3 : Int32)), .val (.int (3 : Int32)), .val (.int (1 : Int32)), .val (.ref b330), .val (.int (1 : Int32)), .unset] [(.int (3 : Int32))]))
          refine Goes.step (fun _ k => XS.iconst X424.here hx rfl (hb hby at_153) k) ?_
          show Goes _ _ _ _ _ _ _ (T424.setTop (mkF m 154 #[.val (.int p0), .val (.int p1), .val (.int p2), .val (.int p3), .val (.int p4), .val (.int p5), .val (.int (3 : Int32)), .val (.int (3 : Int32)), .val (.int (1 : Int32)), .val (.ref b330), .val (.int (1 : Int32)), .unset] [(.int (3 : Int32)), (.int (3 : Int32))]))
          refine Goes.step (fun _ k => XS.icmpNo X424.here hx rfl (hb hby at_154) rfl (flt (by decide : ¬ ((3 : Int32) < (3 : Int32)))).1 k) ?_
          show Goes _ _ _ _ _ _ _ (T424.setTop (mkF m 157 #[.val (.int p0), .val (.int p1), .val (.int p2), .val (.int p3), .val (.int p4), .val (.int p5), .val (.int (3 : Int32)), .val (.int (3 : Int32)), .val (.int (1 : Int32)), .val (.ref b330), .val (.int (1 : Int32)), .unset] []))
          refine Goes.step (fun _ k => XS.aload X424.here hx rfl (hb hby at_157) rfl rfl k) ?_
          show Goes _ _ _ _ _ _ _ (T424.setTop (mkF m 159 #[.val (.int p0), .val (.int p1), .val (.int p2), .val (.int p3), .val (.int p4), .val (.int p5), .val (.int (3 : Int32)), .val (.int (3 : Int32)), .val (.int (1 : Int32)), .val (.ref b330), .val (.int (1 : Int32)), .unset] [(.ref b330)]))
          obtain ⟨cq432, kq432, q432a, q432b, q432c⟩ := isOf hZ rfl v424_0_3
          obtain ⟨_, _, ⟨T432, L432, k432, n432⟩, -, X432, ⟨Lc432, hQ432, l432, y432, z432⟩, st432⟩ := X424.virtualBack hx (y := (⟨"com/example/hailwise/hailwise/NodeQueue", "poll", "()I"⟩ : MethodName)) (z := (⟨"com/example/hailwise/hailwise/NodeQueue", "poll", "()I"⟩ : MethodName)) hown (mvT hZ (hw _ (List.mem_of_getElem? (i := 27) rfl))) (mvT hZ (hw _ (List.mem_of_getElem? (i := 28) rfl))) (notFace_of_selects (args := #[]) (mvT hZ (hw _ (List.mem_of_getElem? (i := 30) rfl)))) (mvT hZ (hw _ (List.mem_of_getElem? (i := 30) rfl))) (mvT hZ (hw _ (List.mem_of_getElem? (i := 29) rfl))) (by decide) (backOf (W := 0) (rm5_1 l Z a0 hw [] b330 r332_0_0 r332_0_1 kk332_0_0 kk332_0_1 T424.heap n0 Z431 v424_0_0 v424_0_1 v424_0_2 v424_0_3 v424_0_4 v424_0_5 g_b330 g_r332_0_0 g_r332_0_1 ne338 ne339 (Ne.symm nn332_0_0)) hZ (hw _ (List.mem_of_getElem? (i := 31) rfl)) (hw _ (List.mem_of_getElem? (i := 2) rfl)) (by decide) (by decide)) q432a q432c (g := (mkF m 159 #[.val (.int p0), .val (.int p1), .val (.int p2), .val (.int p3), .val (.int p4), .val (.int p5), .val (.int (3 : Int32)), .val (.int (3 : Int32)), .val (.int (1 : Int32)), .val (.ref b330), .val (.int (1 : Int32)), .unset] [(.ref b330)])) rfl (by rw [hml]; rfl) (Steps.refl _) (argsL := []) (rest := []) (lenOf pd_3 rfl) rfl (by show 2 * 0 + _ ≤ _; exact Nat.le_of_eq rfl) (hb hby at_159) (fun _ _ => ⟨rfl, rfl, (by decide : 3 + 0 ≤ _), (by decide : 131 + 0 ≤ _)⟩)
          dsimp only [Pt.U, Pt.locs, Pt.cells, Pt.slots] at X432 l432 y432 z432 st432 hQ432
          subst l432 y432 z432
          obtain ⟨N432, KK432, hR432⟩ := hQ432
          have NA432 := Fr.app NA424 N432
          have f433 := v424_0_3.keep KK432
          have K439 : Keep h0 T432.heap [] := K431.trans KK432 (allS (Or.inr sz_b330) (allS (Or.inr sz_r332_0_0) (allS (Or.inr sz_r332_0_1) all0)))
          have Z439 : n0 ≤ T432.heap.size := Nat.le_trans Z431 KK432.1
          obtain ⟨rv432_0, rfl, v432_0_0, v432_0_1, v432_0_2, v432_0_3, v432_0_4, v432_0_5⟩ := hR432
          refine Goes.back st432 ?_
          show Goes _ _ _ _ _ _ _ (T432.setTop (mkF m 162 #[.val (.int p0), .val (.int p1), .val (.int p2), .val (.int p3), .val (.int p4), .val (.int p5), .val (.int (3 : Int32)), .val (.int (3 : Int32)), .val (.int (1 : Int32)), .val (.ref b330), .val (.int (1 : Int32)), .unset] [(.int rv432_0)]))
          refine Goes.step (fun _ k => XS.pop X432.here hx rfl (hb hby at_162) rfl rfl k) ?_
          show Goes _ _ _ _ _ _ _ (T432.setTop (mkF m 163 #[.val (.int p0), .val (.int p1), .val (.int p2), .val (.int p3), .val (.int p4), .val (.int p5), .val (.int (3 : Int32)), .val (.int (3 : Int32)), .val (.int (1 : Int32)), .val (.ref b330), .val (.int (1 : Int32)), .unset] []))
          refine Goes.step (fun _ k => XS.iload X432.here hx rfl (hb hby at_163) rfl  k) ?_
          show Goes _ _ _ _ _ _ _ (T432.setTop (mkF m 165 #[.val (.int p0), .val (.int p1), .val (.int p2), .val (.int p3), .val (.int p4), .val (.int p5), .val (.int (3 : Int32)), .val (.int (3 : Int32)), .val (.int (1 : Int32)), .val (.ref b330), .val (.int (1 : Int32)), .unset] [(.int (1 : Int32))]))
          refine Goes.step (fun _ k => XS.ifNo X432.here hx rfl (hb hby at_165) rfl ((if0 _ _).trans (feq (by decide : ¬ ((1 : Int32) = (0 : Int32)))).1) k) ?_
          show Goes _ _ _ _ _ _ _ (T432.setTop (mkF m 168 #[.val (.int p0), .val (.int p1), .val (.int p2), .val (.int p3), .val (.int p4), .val (.int p5), .val (.int (3 : Int32)), .val (.int (3 : Int32)), .val (.int (1 : Int32)), .val (.ref b330), .val (.int (1 : Int32)), .unset] []))
          refine Goes.step (fun _ k => XS.aload X432.here hx rfl (hb hby at_168) rfl rfl k) ?_
          show Goes _ _ _ _ _ _ _ (T432.setTop (mkF m 170 #[.val (.int p0), .val (.int p1), .val (.int p2), .val (.int p3), .val (.int p4), .val (.int p5), .val (.int (3 : Int32)), .val (.int (3 : Int32)), .val (.int (1 : Int32)), .val (.ref b330), .val (.int (1 : Int32)), .unset] [(.ref b330)]))
          obtain ⟨cq440, kq440, q440a, q440b, q440c⟩ := isOf hZ rfl v432_0_3
          obtain ⟨_, _, ⟨T440, L440, k440, n440⟩, -, X440, ⟨Lc440, hQ440, l440, y440, z440⟩, st440⟩ := X432.virtualBack hx (y := (⟨"com/example/hailwise/hailwise/NodeQueue", "clear", "()V"⟩ : MethodName)) (z := (⟨"com/example/hailwise/hailwise/NodeQueue", "clear", "()V"⟩ : MethodName)) hown (mvT hZ (hw _ (List.mem_of_getElem? (i := 32) rfl))) (mvT hZ (hw _ (List.mem_of_getElem? (i := 33) rfl))) (notFace_of_selects (args := #[]) (mvT hZ (hw _ (List.mem_of_getElem? (i := 35) rfl)))) (mvT hZ (hw _ (List.mem_of_getElem? (i := 35) rfl))) (mvT hZ (hw _ (List.mem_of_getElem? (i := 34) rfl))) (by decide) (backOf (W := 0) (rm6 l Z a0 hw [] b330 r332_0_0 r332_0_1 (0 : Int32) T432.heap n0 Z439 v432_0_0 v432_0_1 v432_0_2 v432_0_3 g_b330) hZ (hw _ (List.mem_of_getElem? (i := 36) rfl)) (hw _ (List.mem_of_getElem? (i := 2) rfl)) (by decide) (by decide)) q440a q440c (g := (mkF m 170 #[.val (.int p0), .val (.int p1), .val (.int p2), .val (.int p3), .val (.int p4), .val (.int p5), .val (.int (3 : Int32)), .val (.int (3 : Int32)), .val (.int (1 : Int32)), .val (.ref b330), .val (.int (1 : Int32)), .unset] [(.ref b330)])) rfl (by rw [hml]; rfl) (Steps.refl _) (argsL := []) (rest := []) (lenOf pd_0 rfl) rfl (by show 2 * 0 + _ ≤ _; exact Nat.le_of_eq rfl) (hb hby at_170) (fun _ _ => ⟨rfl, rfl, (by decide : 3 + 0 ≤ _), (by decide : 131 + 0 ≤ _)⟩)
          dsimp only [Pt.U, Pt.locs, Pt.cells, Pt.slots] at X440 l440 y440 z440 st440 hQ440
          subst l440 y440 z440
          obtain ⟨N440, KK440, hR440⟩ := hQ440
          have NA440 := Fr.app NA432 N440
          have f441 := v432_0_3.keep KK440
          have f445 := v432_0_4.keep KK440 (ninS (Ne.symm ne338) nin0)
          have f446 := v432_0_5.keep KK440 (ninS (Ne.symm ne339) nin0)
          have K447 : Keep h0 T440.heap [] := K439.trans KK440 (allS (Or.inr sz_b330) all0)
          have Z447 : n0 ≤ T440.heap.size := Nat.le_trans Z439 KK440.1
          obtain ⟨rfl, v440_0_0, v440_0_1, v440_0_2, v440_0_3⟩ := hR440
          refine Goes.back st440 ?_
          show Goes _ _ _ _ _ _ _ (T440.setTop (mkF m 173 #[.val (.int p0), .val (.int p1), .val (.int p2), .val (.int p3), .val (.int p4), .val (.int p5), .val (.int (3 : Int32)), .val (.int (3 : Int32)), .val (.int (1 : Int32)), .val (.ref b330), .val (.int (1 : Int32)), .unset] []))
          refine Goes.step (fun _ k => XS.iload X440.here hx rfl (hb hby at_173) rfl  k) ?_
          show Goes _ _ _ _ _ _ _ (T440.setTop (mkF m 175 #[.val (.int p0), .val (.int p1), .val (.int p2), .val (.int p3), .val (.int p4), .val (.int p5), .val (.int (3 : Int32)), .val (.int (3 : Int32)), .val (.int (1 : Int32)), .val (.ref b330), .val (.int (1 : Int32)), .unset] [(.int (1 : Int32))]))
          refine Goes.step (fun _ k => XS.ifYes X440.here hx rfl (pc0 := 175) (pc' := 185) rfl (hb hby at_175) rfl ((if0 _ _).trans (feq (by decide : ¬ ((1 : Int32) = (0 : Int32)))).2) (by decide) (by decide) k) ?_
          show Goes _ _ _ _ _ _ _ (T440.setTop (mkF m 185 #[.val (.int p0), .val (.int p1), .val (.int p2), .val (.int p3), .val (.int p4), .val (.int p5), .val (.int (3 : Int32)), .val (.int (3 : Int32)), .val (.int (1 : Int32)), .val (.ref b330), .val (.int (1 : Int32)), .unset] []))
          refine Goes.step (fun _ k => XS.iconst X440.here hx rfl (hb hby at_185) k) ?_
          show Goes _ _ _ _ _ _ _ (T440.setTop (mkF m 186 #[.val (.int p0), .val (.int p1), .val (.int p2), .val (.int p3), .val (.int p4), .val (.int p5), .val (.int (3 : Int32)), .val (.int (3 : Int32)), .val (.int (1 : Int32)), .val (.ref b330), .val (.int (1 : Int32)), .unset] [(.int (1 : Int32))]))
          refine Goes.step (fun _ k => XS.goto X440.here hx rfl (pc0 := 186) (pc' := 190) rfl (hb hby at_186) (by decide) (by decide) k) ?_
          show Goes _ _ _ _ _ _ _ (T440.setTop (mkF m 190 #[.val (.int p0), .val (.int p1), .val (.int p2), .val (.int p3), .val (.int p4), .val (.int p5), .val (.int (3 : Int32)), .val (.int (3 : Int32)), .val (.int (1 : Int32)), .val (.ref b330), .val (.int (1 : Int32)), .unset] [(.int (1 : Int32))]))
          refine Goes.step (fun _ k => XS.istore X440.here hx rfl (hb hby at_190) rfl (l' := #[.val (.int p0), .val (.int p1), .val (.int p2), .val (.int p3), .val (.int p4), .val (.int p5), .val (.int (3 : Int32)), .val (.int (3 : Int32)), .val (.int (1 : Int32)), .val (.ref b330), .val (.int (1 : Int32)), .val (.int (1 : Int32))]) rfl k) ?_
          show Goes _ _ _ _ _ _ _ (T440.setTop (mkF m 192 #[.val (.int p0), .val (.int p1), .val (.int p2), .val (.int p3), .val (.int p4), .val (.int p5), .val (.int (3 : Int32)), .val (.int (3 : Int32)), .val (.int (1 : Int32)), .val (.ref b330), .val (.int (1 : Int32)), .val (.int (1 : Int32))] []))
          refine Goes.step (fun _ k => XS.iload X440.here hx rfl (hb hby at_192) rfl  k) ?_
          show Goes _ _ _ _ _ _ _ (T440.setTop (mkF m 194 #[.val (.int p0), .val (.int p1), .val (.int p2), .val (.int p3), .val (.int p4), .val (.int p5), .val (.int (3 : Int32)), .val (.int (3 : Int32)), .val (.int (1 : Int32)), .val (.ref b330), .val (.int (1 : Int32)), .val (.int (1 : Int32))] [(.int (1 : Int32))]))
          refine Goes.step (fun _ k => XS.ifNo X440.here hx rfl (hb hby at_194) rfl ((if0 _ _).trans (feq (by decide : ¬ ((1 : Int32) = (0 : Int32)))).1) k) ?_
          show Goes _ _ _ _ _ _ _ (T440.setTop (mkF m 197 #[.val (.int p0), .val (.int p1), .val (.int p2), .val (.int p3), .val (.int p4), .val (.int p5), .val (.int (3 : Int32)), .val (.int (3 : Int32)), .val (.int (1 : Int32)), .val (.ref b330), .val (.int (1 : Int32)), .val (.int (1 : Int32))] []))
          refine Goes.step (fun _ k => XS.aload X440.here hx rfl (hb hby at_197) rfl rfl k) ?_
          show Goes _ _ _ _ _ _ _ (T440.setTop (mkF m 199 #[.val (.int p0), .val (.int p1), .val (.int p2), .val (.int p3), .val (.int p4), .val (.int p5), .val (.int (3 : Int32)), .val (.int (3 : Int32)), .val (.int (1 : Int32)), .val (.ref b330), .val (.int (1 : Int32)), .val (.int (1 : Int32))] [(.ref b330)]))
          obtain ⟨cq448, kq448, q448a, q448b, q448c⟩ := isOf hZ rfl v440_0_3
          obtain ⟨_, _, ⟨T448, L448, k448, n448⟩, -, X448, ⟨Lc448, hQ448, l448, y448, z448⟩, st448⟩ := X440.virtualBack hx (y := (⟨"com/example/hailwise/hailwise/NodeQueue", "isEmpty", "()Z"⟩ : MethodName)) (z := (⟨"com/example/hailwise/hailwise/NodeQueue", "isEmpty", "()Z"⟩ : MethodName)) hown (mvT hZ (hw _ (List.mem_of_getElem? (i := 22) rfl))) (mvT hZ (hw _ (List.mem_of_getElem? (i := 23) rfl))) (notFace_of_selects (args := #[]) (mvT hZ (hw _ (List.mem_of_getElem? (i := 25) rfl)))) (mvT hZ (hw _ (List.mem_of_getElem? (i := 25) rfl))) (mvT hZ (hw _ (List.mem_of_getElem? (i := 24) rfl))) (by decide) (backOf (W := 0) (rm4 l Z a0 hw [] b330 (0 : Int32) T440.heap n0 Z447 v440_0_2) hZ (hw _ (List.mem_of_getElem? (i := 26) rfl)) (hw _ (List.mem_of_getElem? (i := 2) rfl)) (by decide) (by decide)) q448a q448c (g := (mkF m 199 #[.val (.int p0), .val (.int p1), .val (.int p2), .val (.int p3), .val (.int p4), .val (.int p5), .val (.int (3 : Int32)), .val (.int (3 : Int32)), .val (.int (1 : Int32)), .val (.ref b330), .val (.int (1 : Int32)), .val (.int (1 : Int32))] [(.ref b330)])) rfl (by rw [hml]; rfl) (Steps.refl _) (argsL := []) (rest := []) (lenOf pd_2 rfl) rfl (by show 2 * 0 + _ ≤ _; exact Nat.le_of_eq rfl) (hb hby at_199) (fun _ _ => ⟨rfl, rfl, (by decide : 3 + 0 ≤ _), (by decide : 131 + 0 ≤ _)⟩)
          dsimp only [Pt.U, Pt.locs, Pt.cells, Pt.slots] at X448 l448 y448 z448 st448 hQ448
          subst l448 y448 z448
          obtain ⟨N448, eh448, hR448⟩ := hQ448
          have NA448 := Fr.app NA440 N448
          rcases hR448 with ⟨rfl, u448_0_0⟩ | ⟨rfl, u448_1_0⟩
          · refine Goes.back st448 ?_
            show Goes _ _ _ _ _ _ _ (T448.setTop (mkF m 202 #[.val (.int p0), .val (.int p1), .val (.int p2), .val (.int p3), .val (.int p4), .val (.int p5), .val (.int (3 : Int32)), .val (.int (3 : Int32)), .val (.int (1 : Int32)), .val (.ref b330), .val (.int (1 : Int32)), .val (.int (1 : Int32))] [(.int (1 : Int32))]))
            refine Goes.step (fun _ k => XS.iload X448.here hx rfl (hb hby at_202) rfl  k) ?_
            show Goes _ _ _ _ _ _ _ (T448.setTop (mkF m 204 #[.val (.int p0), .val (.int p1), .val (.int p2), .val (.int p3), .val (.int p4), .val (.int p5), .val (.int (3 : Int32)), .val (.int (3 : Int32)), .val (.int (1 : Int32)), .val (.ref b330), .val (.int (1 : Int32)), .val (.int (1 : Int32))] [(.int (1 : Int32)), (.int (1 : Int32))]))
            refine Goes.step (fun _ k => XS.icmpNo X448.here hx rfl (hb hby at_204) rfl (teq (by decide : (1 : Int32) = (1 : Int32))).2 k) ?_
            show Goes _ _ _ _ _ _ _ (T448.setTop (mkF m 207 #[.val (.int p0), .val (.int p1), .val (.int p2), .val (.int p3), .val (.int p4), .val (.int p5), .val (.int (3 : Int32)), .val (.int (3 : Int32)), .val (.int (1 : Int32)), .val (.ref b330), .val (.int (1 : Int32)), .val (.int (1 : Int32))] []))
            refine Goes.step (fun _ k => XS.iconst X448.here hx rfl (hb hby at_207) k) ?_
            show Goes _ _ _ _ _ _ _ (T448.setTop (mkF m 208 #[.val (.int p0), .val (.int p1), .val (.int p2), .val (.int p3), .val (.int p4), .val (.int p5), .val (.int (3 : Int32)), .val (.int (3 : Int32)), .val (.int (1 : Int32)), .val (.ref b330), .val (.int (1 : Int32)), .val (.int (1 : Int32))] [(.int (1 : Int32))]))
            refine Goes.step (fun _ k => XS.goto X448.here hx rfl (pc0 := 208) (pc' := 212) rfl (hb hby at_208) (by decide) (by decide) k) ?_
            show Goes _ _ _ _ _ _ _ (T448.setTop (mkF m 212 #[.val (.int p0), .val (.int p1), .val (.int p2), .val (.int p3), .val (.int p4), .val (.int p5), .val (.int (3 : Int32)), .val (.int (3 : Int32)), .val (.int (1 : Int32)), .val (.ref b330), .val (.int (1 : Int32)), .val (.int (1 : Int32))] [(.int (1 : Int32))]))
            refine Goes.step (fun _ k => XS.istore X448.here hx rfl (hb hby at_212) rfl (l' := #[.val (.int p0), .val (.int p1), .val (.int p2), .val (.int p3), .val (.int p4), .val (.int p5), .val (.int (3 : Int32)), .val (.int (3 : Int32)), .val (.int (1 : Int32)), .val (.ref b330), .val (.int (1 : Int32)), .val (.int (1 : Int32))]) rfl k) ?_
            show Goes _ _ _ _ _ _ _ (T448.setTop (mkF m 214 #[.val (.int p0), .val (.int p1), .val (.int p2), .val (.int p3), .val (.int p4), .val (.int p5), .val (.int (3 : Int32)), .val (.int (3 : Int32)), .val (.int (1 : Int32)), .val (.ref b330), .val (.int (1 : Int32)), .val (.int (1 : Int32))] []))
            refine Goes.step (fun _ k => XS.iload X448.here hx rfl (hb hby at_214) rfl  k) ?_
            show Goes _ _ _ _ _ _ _ (T448.setTop (mkF m 216 #[.val (.int p0), .val (.int p1), .val (.int p2), .val (.int p3), .val (.int p4), .val (.int p5), .val (.int (3 : Int32)), .val (.int (3 : Int32)), .val (.int (1 : Int32)), .val (.ref b330), .val (.int (1 : Int32)), .val (.int (1 : Int32))] [(.int (1 : Int32))]))
            exact Goes.ret X448 hx (BodyLoose.notSynchronized Bd) Bd.returns rfl (Or.inl ⟨rfl, by simp, _, rfl⟩) (hb hby at_216) (by show Q0 Z p0 p1 p2 p3 p4 p5 h0 n0 (some (.int (1 : Int32))) T448.heap _; rw [eh448]; exact ⟨rfl, NA448⟩) (by decide) (by decide)
          · exact absurd (by decide : (0 : Int32) = (0 : Int32)) u448_1_0
set_option maxRecDepth 65536 in
set_option maxHeartbeats 40000000 in
theorem comes_1 {Post : Tables → Env → Array Value → State → Outcome → State → Prop} (hpost : ∀ tb e args s v u, (limb_1_1.after args s (.returned v) u = true ∧ limb_1_2.after args s (.returned v) u = true ∧ True) → FrameEnd s (.returned v) u (Jvm.fieldLocs frame_1_writes args s ++ Jvm.arrayLocs frame_1_arrays args s ++ Jvm.staticLocs frame_1_statics s) 16 384 → Post tb e args s (.returned v) u) :
    ArmFor flags0 classFile x code maxLocals ret World_1 tables_1 room_1 Calls_1 rest_1 Pre_1 Post := by
  intro l hfl _ _ p e ha hc hk s m args below hf hA hF happ hP
  obtain ⟨hcalls, hrest, hpre⟩ := hP
  obtain ⟨-, -, -, hnamed, -, -, -, hat⟩ := (Spec.applies_iff hf).mp happ
  obtain ⟨hg, hn⟩ := and_e (Cond.before_iff.mp (show (Jvm.Cond.and given_1 narrow_1).before args s = true from hpre))
  obtain ⟨gg1, gg2⟩ := and_e hg
  obtain ⟨gg3, gg4⟩ := and_e gg2
  obtain ⟨gg5, gg6⟩ := and_e gg4
  obtain ⟨gg7, gg8⟩ := and_e gg6
  obtain ⟨gg9, gg10⟩ := and_e gg8
  obtain ⟨gg11, gg12⟩ := and_e gg10
  obtain ⟨w0, w1, w2, w3, w4, w5, rfl⟩ : ∃ w0 w1 w2 w3 w4 w5 : Value, args = #[w0, w1, w2, w3, w4, w5] := by
    have hs : args.size = 6 := by simpa [Cond.value, given_1] using gg1
    obtain ⟨L⟩ := args
    match L, hs with
    | [w0, w1, w2, w3, w4, w5], _ => exact ⟨w0, w1, w2, w3, w4, w5, rfl⟩
  have hw := fun d (hd : d ∈ tables_1) => atoms_spec (ws := Jvm.Cond.code x code maxLocals ret :: tables_1) hat d (List.mem_cons_of_mem _ hd)
  have hfit : Fit s := fun {y c} hc i hi => by
    obtain ⟨ha, rfl⟩ := Array.getElem?_eq_some_iff.mp hc
    have q := List.all_eq_true.mp ((Array.all_eq_true_iff_forall_mem.mp hF) _ (Array.getElem_mem ha)) i (List.mem_range.mpr hi)
    simpa [Array.getElem?_eq_getElem hi] using q
  obtain ⟨i0, ei0⟩ := is_v gg3
  obtain rfl : w0 = (.int i0) := Option.some.inj ei0
  obtain ⟨i1, ei1⟩ := is_v gg5
  obtain rfl : w1 = (.int i1) := Option.some.inj ei1
  obtain ⟨i2, ei2⟩ := is_v gg7
  obtain rfl : w2 = (.int i2) := Option.some.inj ei2
  obtain ⟨i3, ei3⟩ := is_v gg9
  obtain rfl : w3 = (.int i3) := Option.some.inj ei3
  obtain ⟨i4, ei4⟩ := is_v gg11
  obtain rfl : w4 = (.int i4) := Option.some.inj ei4
  obtain ⟨i5, ei5⟩ := is_v gg12
  obtain rfl : w5 = (.int i5) := Option.some.inj ei5
  obtain ⟨n, o, h1, h2, h3, _, L, rfl, ⟨rfl, N⟩, hq⟩ := rm0 l s _ hw tables_1 i0 i1 i2 i3 i4 i5 s.heap s.heap.size (Nat.le_refl _)  p e ha hc hk s m _ below hf ((Spec.applies_iff_loose hf).mp happ).1 ⟨rfl, State.Warmed39.refl s, rfl⟩ trivial
  refine ⟨n, _, h1, h2, h3, hpost _ _ _ _ _ _ ⟨Cond.after_iff.mpr rfl, Cond.after_iff.mpr (eq_i res_at (Term.int_eval (1)) rfl), trivial⟩ ⟨hq.1, hq.2.1, (hq.2.2.sift fun y hy => Or.inr (N y hy)).mono (by decide) (by decide)⟩⟩
theorem main_1_1 : Claimed_1_1 := comes_1 fun _ _ _ _ _ _ h hF => ⟨h.1, hF⟩
theorem main_1_2 : Claimed_1_2 := comes_1 fun _ _ _ _ _ _ h hF => ⟨h.2.1, hF⟩
end Jvm.Pilot.@@N@@
namespace Jvm.Pilot.@@N@@
open Jvm Jvm.ClassFile Sem Op Lib Jvm.Free Jvm.Stand Jvm.Pilot.@@N@@.Jvm.D
/-! MADE BY PROGRAM (witnessworld.py) out of the Statement's table words and the real class files: 9 classes; the members and pool entries that the words name. The judged class is class 1, her method 1. -/
namespace start1
open Jvm.ClassFile
def u (s : String) : CpInfo := .utf8 (stringToUtf16 s)
/-- a pool by its gaps: so many unusable entries, then the entry; so many at the end -/
def gap : Nat → List CpInfo → List CpInfo
  | 0, r => r
  | n + 1, r => .unusable :: gap n r
def poolList (es : List (Nat × CpInfo)) (last : Nat) : List CpInfo := es.foldr (fun e r => gap e.1 (e.2 :: r)) (gap last [])
def pool (es : List (Nat × CpInfo)) (last : Nat) : Array CpInfo := ⟨poolList es last⟩
def fileOf (pool : Array CpInfo) (this : Nat) (attrs : Array Attribute := #[]) (ms : Array MethodInfo := #[]) (fl : Nat := 33) (sup : Nat := 0) (ifs : Array Nat := #[]) (fds : Array FieldInfo := #[]) : ClassFile where
  minorVersion := 0
  majorVersion := 65
  constantPool := pool
  accessFlags := fl
  thisClass := this
  superClass := sup
  interfaces := ifs
  fields := fds
  methods := ms
  attributes := attrs
def plain (name : String) (sup : Option ClassId) : Class where
  name := name
  kind := .ordinary
  loader := none
  accessFlags := 33
  super := sup
  interfaces := #[]
  cf := none
  fields := #[]
  methods := #[]
  instanceTypes := #[]
  staticTypes := #[]
  resolved := #[]
  callSites := []
  init := .initialized
  statics := none
  mirror := none

def pool0 : Array CpInfo := pool [(5, u "<init>"), (0, u "()V"), (1, .class_ 10), (1, u "java/lang/Object")] 113

def k0c0 : Code := { maxStack := 0, maxLocals := 1, code := object_method_1_code, exceptionTable := #[], attributes := #[] }
def k0m0 : Method := { name := "<init>", desc := "()V", sig := { parameters := [], returnType := none }, accessFlags := 1, code := some k0c0 }
/-- java/lang/Object -/
def k0 : Class := { plain "java/lang/Object" none with
  accessFlags := 33
  interfaces := #[]
  cf := some (fileOf pool0 8 #[] #[{ accessFlags := 1, nameIndex := 5, descriptorIndex := 6, attributes := #[] }] 33 0 #[] #[])
  fields := #[]
  methods := #[k0m0]
  instanceTypes := #[]
  staticTypes := #[]
  resolved := Array.replicate 124 none
  statics := none }

def pool1 : Array CpInfo := pool [(2, .class_ 4), (0, .nameAndType 5 6), (0, u "java/lang/Object"), (0, u "<init>"), (0, u "()V"), (0, .class_ 8), (0, u "com/example/hailwise/hailwise/NodeQueue"), (0, .methodref 7 3), (0, .methodref 7 11), (0, .nameAndType 12 13), (0, u "add"), (0, u "(ID)V"), (0, .methodref 7 15), (0, .nameAndType 16 17), (0, u "isEmpty"), (0, u "()Z"), (0, .methodref 7 19), (0, .nameAndType 20 21), (0, u "poll"), (0, u "()I"), (0, .methodref 7 23), (0, .nameAndType 24 6), (0, u "clear"), (0, .class_ 26), (0, u "com/example/hailwise/hailwise/NodeQueueIsEmptyPinLaw"), (2, u "law"), (0, u "(IIIIII)Z")] 3

def k1m0 : Method := { name := "<init>", desc := "()V", sig := { parameters := [], returnType := none }, accessFlags := 1, code := none }
def k1c1 : Code := { maxStack := 4, maxLocals := 12, code := code, exceptionTable := #[], attributes := #[] }
def k1m1 : Method := { name := "law", desc := "(IIIIII)Z", sig := { parameters := [.int, .int, .int, .int, .int, .int], returnType := some .boolean }, accessFlags := 9, code := some k1c1 }
/-- com/example/hailwise/hailwise/NodeQueueIsEmptyPinLaw -/
def k1 : Class := { plain "com/example/hailwise/hailwise/NodeQueueIsEmptyPinLaw" (some 0) with
  accessFlags := 49
  interfaces := #[]
  cf := some (fileOf pool1 25 #[] #[{ accessFlags := 1, nameIndex := 5, descriptorIndex := 6, attributes := #[] }, { accessFlags := 9, nameIndex := 29, descriptorIndex := 30, attributes := #[] }] 49 2 #[] #[])
  fields := #[]
  methods := #[k1m0, k1m1]
  instanceTypes := #[]
  staticTypes := #[]
  resolved := Array.replicate 34 none
  statics := none }

def pool2 : Array CpInfo := pool [(1, .methodref 2 3), (0, .class_ 4), (0, .nameAndType 5 6), (0, u "java/lang/Object"), (0, u "<init>"), (0, u "()V"), (0, .fieldref 8 9), (0, .class_ 10), (0, .nameAndType 11 12), (0, u "com/example/hailwise/hailwise/NodeQueue"), (0, u "nodes"), (0, u "[I"), (0, .fieldref 8 14), (0, .nameAndType 15 16), (0, u "keys"), (0, u "[D"), (0, .fieldref 8 18), (0, .nameAndType 19 20), (0, u "size"), (0, u "I"), (11, u "clear"), (0, u "isEmpty"), (0, u "()Z"), (1, u "add"), (0, u "(ID)V"), (2, u "poll"), (0, u "()I")] 2

def k2c0 : Code := { maxStack := 2, maxLocals := 1, code := prog_21_method_1_code, exceptionTable := #[], attributes := #[] }
def k2m0 : Method := { name := "<init>", desc := "()V", sig := { parameters := [], returnType := none }, accessFlags := 0, code := some k2c0 }
def k2c1 : Code := { maxStack := 2, maxLocals := 1, code := prog_21_method_2_code, exceptionTable := #[], attributes := #[] }
def k2m1 : Method := { name := "clear", desc := "()V", sig := { parameters := [], returnType := none }, accessFlags := 0, code := some k2c1 }
def k2c2 : Code := { maxStack := 1, maxLocals := 1, code := prog_21_method_3_code, exceptionTable := #[], attributes := #[] }
def k2m2 : Method := { name := "isEmpty", desc := "()Z", sig := { parameters := [], returnType := some .boolean }, accessFlags := 0, code := some k2c2 }
def k2c3 : Code := { maxStack := 4, maxLocals := 6, code := prog_21_method_4_code, exceptionTable := #[], attributes := #[] }
def k2m3 : Method := { name := "add", desc := "(ID)V", sig := { parameters := [.int, .double], returnType := none }, accessFlags := 0, code := some k2c3 }
def k2c4 : Code := { maxStack := 4, maxLocals := 7, code := prog_21_method_6_code, exceptionTable := #[], attributes := #[] }
def k2m4 : Method := { name := "poll", desc := "()I", sig := { parameters := [], returnType := some .int }, accessFlags := 0, code := some k2c4 }
/-- com/example/hailwise/hailwise/NodeQueue -/
def k2 : Class := { plain "com/example/hailwise/hailwise/NodeQueue" (some 0) with
  accessFlags := 48
  interfaces := #[]
  cf := some (fileOf pool2 8 #[] #[{ accessFlags := 0, nameIndex := 5, descriptorIndex := 6, attributes := #[] }, { accessFlags := 0, nameIndex := 32, descriptorIndex := 6, attributes := #[] }, { accessFlags := 0, nameIndex := 33, descriptorIndex := 34, attributes := #[] }, { accessFlags := 0, nameIndex := 36, descriptorIndex := 37, attributes := #[] }, { accessFlags := 0, nameIndex := 40, descriptorIndex := 41, attributes := #[] }] 48 2 #[] #[{ accessFlags := 2, nameIndex := 11, descriptorIndex := 12, attributes := #[] }, { accessFlags := 2, nameIndex := 15, descriptorIndex := 16, attributes := #[] }, { accessFlags := 2, nameIndex := 19, descriptorIndex := 20, attributes := #[] }])
  fields := #[{ name := "nodes", type := (.array .int), accessFlags := 2, slot := 0, constantValue := 0 }, { name := "keys", type := (.array .double), accessFlags := 2, slot := 1, constantValue := 0 }, { name := "size", type := .int, accessFlags := 2, slot := 2, constantValue := 0 }]
  methods := #[k2m0, k2m1, k2m2, k2m3, k2m4]
  instanceTypes := #[(.array .int), (.array .double), .int]
  staticTypes := #[]
  resolved := Array.replicate 44 none
  statics := none }

def pool3 : Array CpInfo := pool [(1, u "java/lang/Cloneable"), (0, .class_ 1), (0, u "java/lang/Object"), (0, .class_ 3)] 3

/-- java/lang/Cloneable -/
def k3 : Class := { plain "java/lang/Cloneable" (some 0) with
  accessFlags := 1537
  interfaces := #[]
  cf := some (fileOf pool3 2 #[] #[] 1537 4 #[] #[])
  fields := #[]
  methods := #[]
  instanceTypes := #[]
  staticTypes := #[]
  resolved := Array.replicate 8 none
  statics := none }

def pool4 : Array CpInfo := pool [(1, u "java/io/Serializable"), (0, .class_ 1), (0, u "java/lang/Object"), (0, .class_ 3)] 3

/-- java/io/Serializable -/
def k4 : Class := { plain "java/io/Serializable" (some 0) with
  accessFlags := 1537
  interfaces := #[]
  cf := some (fileOf pool4 2 #[] #[] 1537 4 #[] #[])
  fields := #[]
  methods := #[]
  instanceTypes := #[]
  staticTypes := #[]
  resolved := Array.replicate 8 none
  statics := none }

/-- the primitive byte -/
def k5 : Class := { plain "byte" none with kind := .primitive 'B', accessFlags := 0x411 }
/-- [B -/
def k6 : Class := { plain "[B" (some 0) with kind := .array 5 .byte, interfaces := #[3, 4], accessFlags := 1041 }

/-- the primitive int -/
def k7 : Class := { plain "int" none with kind := .primitive 'I', accessFlags := 0x411 }
/-- [I -/
def k8 : Class := { plain "[I" (some 0) with kind := .array 7 .int, interfaces := #[3, 4], accessFlags := 1041 }

/-- the primitive double -/
def k9 : Class := { plain "double" none with kind := .primitive 'D', accessFlags := 0x411 }
/-- [D -/
def k10 : Class := { plain "[D" (some 0) with kind := .array 9 .double, interfaces := #[3, 4], accessFlags := 1041 }

def heap : Heap := #[]
def classes : Array Class := #[k0, k1, k2, k3, k4, k5, k6, k7, k8, k9, k10]
def interned : List (Array UInt16 × Addr) := []
def slotsUsed : Nat := 0
def theMethod : MethodId := ⟨1, 1⟩
def args0 : Array Value := #[.int 5, .int 5, .int 5, .int 5, .int 5, .int 5]
def aboutOver (below : List Frame) : State where
  vm := { classes := classes, interned := interned.toArray }
  heap := heap
  slotsUsed := slotsUsed
  threads := #[{ frames := .invoking theMethod args0 :: below }]
def below0 : List Frame := [.native { method := ⟨0, 0⟩, args := #[] }]
def about1 : State := aboutOver below0
def p0 : Program := .bare "" "" ""
def e0 : Env := launch0.env 0 0 0
theorem w_frames : about1.frames = Frame.invoking theMethod args0 :: below0 := rfl
set_option maxRecDepth 65536 in
theorem w_args : argsFit about1.vm theMethod args0 = true := by decide +kernel
set_option maxRecDepth 65536 in
theorem w_heap : heapFits about1 = true := by decide +kernel
set_option maxRecDepth 65536 in
theorem w_runnable : about1.curStatus? = some .runnable := by decide +kernel
set_option maxRecDepth 65536 in
theorem w_alone : about1.alone = true := by decide +kernel
set_option maxRecDepth 65536 in
theorem w_named : about1.methodNamed? x = some theMethod := by decide +kernel
set_option maxRecDepth 65536 in
theorem w_hears : about1.hears theMethod below0 = true := by decide +kernel
set_option maxRecDepth 65536 in
theorem w_ripe : about1.ripe theMethod args0 below0 = true := by decide +kernel
theorem w_running : about1.status = .running := rfl
set_option maxRecDepth 65536 in
theorem w_room : about1.hasRoom e0.platform room_1 = true :=
  launch0.hasRoom_least _ room_1 (by decide +kernel) (by decide +kernel) (by decide +kernel) (by decide +kernel) (by decide +kernel) (by decide +kernel)
theorem allAtoms_all (ts : List Jvm.Cond) (a : Array Jvm.Value) (st : Jvm.State) : (allAtoms ts).before a st = ts.all (fun c => c.before a st) := by
  induction ts with
  | nil => rfl
  | cons c t ih =>
    show (Jvm.Cond.and c (allAtoms t)).before a st = _
    rw [Jvm.Cond.before_and, ih, List.all_cons]
def words1 : List Jvm.Cond := Jvm.Cond.code x code maxLocals ret :: tables_1
/-- a 'code' word, met by the world's own term for the bytes: nothing is compared byte by byte -/
theorem code_word {y : MethodName} {bytes : ByteArray} {mx : Nat} {rt : Option FieldType} {a : Array Value} {s : State} {m : MethodId} {meth : Method} {c : Code} (h1 : s.methodNamed? y = some m) (h2 : s.vm.method? m = some meth) (h3 : meth.code = some c) (h4 : c.code = bytes)
    (h5 : (c.maxLocals == mx && c.exceptionTable.isEmpty && decide (c.maxStack ≤ mostOperands) && decide (meth.sig.returnType = rt) && !meth.locks && decide (parseMethodDescriptor y.desc = some meth.sig)) = true) : (Jvm.Cond.code y bytes mx rt).before a s = true := by
  simp only [Bool.and_eq_true, beq_iff_eq, Bool.not_eq_true', decide_eq_true_eq] at h5
  obtain ⟨⟨⟨⟨⟨g1, g2⟩, g3⟩, g4⟩, g5⟩, g6⟩ := h5
  simp [Cond.before, Cond.holds, Cond.value, h1, h2, h3, h4, g1, g2, g3, g4, g5, g6]
def isCode : Jvm.Cond → Bool
  | .code _ _ _ _ => true
  | _ => false
theorem all_split {L : List Jvm.Cond} {P : Jvm.Cond → Bool} (h1 : L.all (fun c => isCode c || P c) = true) (h2 : ∀ c ∈ L.filter isCode, P c = true) : L.all P = true := by
  refine List.all_eq_true.mpr fun c hc => ?_
  have h := List.all_eq_true.mp h1 c hc
  rcases Bool.eq_false_or_eq_true (isCode c) with hi | hi
  · exact h2 c (List.mem_filter.mpr ⟨hc, hi⟩)
  · simpa [hi] using h
set_option maxRecDepth 65536 in
theorem w_c0 : (Jvm.Cond.code x code maxLocals ret).before args0 about1 = true := code_word (m := ⟨1, 1⟩) (meth := k1m1) (c := k1c1) (by decide +kernel) rfl rfl rfl (by decide +kernel)
set_option maxRecDepth 65536 in
theorem w_c1 : (Jvm.Cond.code ({ cls := "com/example/hailwise/hailwise/NodeQueue", name := "<init>", desc := "()V" } : Jvm.MethodName) prog_21_method_1_code (1 : Nat) (Option.none : Option Jvm.ClassFile.FieldType)).before args0 about1 = true := code_word (m := ⟨2, 0⟩) (meth := k2m0) (c := k2c0) (by decide +kernel) rfl rfl rfl (by decide +kernel)
set_option maxRecDepth 65536 in
theorem w_c2 : (Jvm.Cond.code ({ cls := "java/lang/Object", name := "<init>", desc := "()V" } : Jvm.MethodName) object_method_1_code (1 : Nat) (Option.none : Option Jvm.ClassFile.FieldType)).before args0 about1 = true := code_word (m := ⟨0, 0⟩) (meth := k0m0) (c := k0c0) (by decide +kernel) rfl rfl rfl (by decide +kernel)
set_option maxRecDepth 65536 in
theorem w_c3 : (Jvm.Cond.code ({ cls := "com/example/hailwise/hailwise/NodeQueue", name := "add", desc := "(ID)V" } : Jvm.MethodName) prog_21_method_4_code (6 : Nat) (Option.none : Option Jvm.ClassFile.FieldType)).before args0 about1 = true := code_word (m := ⟨2, 3⟩) (meth := k2m3) (c := k2c3) (by decide +kernel) rfl rfl rfl (by decide +kernel)
set_option maxRecDepth 65536 in
theorem w_c4 : (Jvm.Cond.code ({ cls := "com/example/hailwise/hailwise/NodeQueue", name := "isEmpty", desc := "()Z" } : Jvm.MethodName) prog_21_method_3_code (1 : Nat) (Option.some Jvm.ClassFile.FieldType.boolean)).before args0 about1 = true := code_word (m := ⟨2, 2⟩) (meth := k2m2) (c := k2c2) (by decide +kernel) rfl rfl rfl (by decide +kernel)
set_option maxRecDepth 65536 in
theorem w_c5 : (Jvm.Cond.code ({ cls := "com/example/hailwise/hailwise/NodeQueue", name := "poll", desc := "()I" } : Jvm.MethodName) prog_21_method_6_code (7 : Nat) (Option.some Jvm.ClassFile.FieldType.int)).before args0 about1 = true := code_word (m := ⟨2, 4⟩) (meth := k2m4) (c := k2c4) (by decide +kernel) rfl rfl rfl (by decide +kernel)
set_option maxRecDepth 65536 in
theorem w_c6 : (Jvm.Cond.code ({ cls := "com/example/hailwise/hailwise/NodeQueue", name := "clear", desc := "()V" } : Jvm.MethodName) prog_21_method_2_code (1 : Nat) (Option.none : Option Jvm.ClassFile.FieldType)).before args0 about1 = true := code_word (m := ⟨2, 1⟩) (meth := k2m1) (c := k2c1) (by decide +kernel) rfl rfl rfl (by decide +kernel)
def codes1 : List Jvm.Cond := [Jvm.Cond.code x code maxLocals ret, Jvm.Cond.code ({ cls := "com/example/hailwise/hailwise/NodeQueue", name := "<init>", desc := "()V" } : Jvm.MethodName) prog_21_method_1_code (1 : Nat) (Option.none : Option Jvm.ClassFile.FieldType), Jvm.Cond.code ({ cls := "java/lang/Object", name := "<init>", desc := "()V" } : Jvm.MethodName) object_method_1_code (1 : Nat) (Option.none : Option Jvm.ClassFile.FieldType), Jvm.Cond.code ({ cls := "com/example/hailwise/hailwise/NodeQueue", name := "add", desc := "(ID)V" } : Jvm.MethodName) prog_21_method_4_code (6 : Nat) (Option.none : Option Jvm.ClassFile.FieldType), Jvm.Cond.code ({ cls := "com/example/hailwise/hailwise/NodeQueue", name := "isEmpty", desc := "()Z" } : Jvm.MethodName) prog_21_method_3_code (1 : Nat) (Option.some Jvm.ClassFile.FieldType.boolean), Jvm.Cond.code ({ cls := "com/example/hailwise/hailwise/NodeQueue", name := "poll", desc := "()I" } : Jvm.MethodName) prog_21_method_6_code (7 : Nat) (Option.some Jvm.ClassFile.FieldType.int), Jvm.Cond.code ({ cls := "com/example/hailwise/hailwise/NodeQueue", name := "clear", desc := "()V" } : Jvm.MethodName) prog_21_method_2_code (1 : Nat) (Option.none : Option Jvm.ClassFile.FieldType)]
set_option maxRecDepth 65536 in
theorem codes_eq : words1.filter isCode = codes1 := rfl
theorem w_codes : ∀ c ∈ words1.filter isCode, c.before args0 about1 = true := by
  rw [codes_eq]
  intro c hc
  simp only [codes1, List.mem_cons, List.not_mem_nil, or_false] at hc
  rcases hc with rfl | rfl | rfl | rfl | rfl | rfl | rfl
  · exact w_c0
  · exact w_c1
  · exact w_c2
  · exact w_c3
  · exact w_c4
  · exact w_c5
  · exact w_c6
set_option maxRecDepth 65536 in
theorem w_t1 : (words1.take 24).all (fun c => isCode c || c.before args0 about1) = true := by decide +kernel
set_option maxRecDepth 65536 in
theorem w_t2 : (words1.drop 24).all (fun c => isCode c || c.before args0 about1) = true := by decide +kernel
theorem w_tables : (allAtoms (Jvm.Cond.code x code maxLocals ret :: tables_1)).before args0 about1 = true := by
  rw [allAtoms_all]
  show words1.all (fun c => c.before args0 about1) = true
  refine all_split ?_ w_codes
  rw [← List.take_append_drop 24 words1, List.all_append, w_t1, w_t2]
  rfl
set_option maxRecDepth 65536 in
theorem w_case : (Jvm.Cond.and given_1 narrow_1).before args0 about1 = true := by decide +kernel
theorem w_applies : (headSpec (Jvm.Cond.code x code maxLocals ret :: tables_1) room_1).applies x e0.platform about1 = true :=
  (Spec.applies_iff w_frames).mpr ⟨w_running, w_runnable, w_alone, w_named, w_hears, w_ripe, w_room, w_tables⟩
theorem atStart : AtStart classFile x code maxLocals ret World_1 tables_1 room_1 Calls_1 rest_1 Pre_1 launch0 p0 e0 about1 theMethod args0 below0 :=
  ⟨lists_1, trivial, launch0.admits_env _ _ _, launch0.least_env, fairChoices_fair.cas, fairChoices_fair.clock, w_frames, w_args, w_heap, w_applies, trivial, trivial, w_case⟩
end start1
theorem witness_1 : WitnessClaimed_1 := ⟨start1.p0, start1.e0, start1.about1, start1.theMethod, start1.args0, start1.below0, start1.atStart⟩
end Jvm.Pilot.@@N@@
