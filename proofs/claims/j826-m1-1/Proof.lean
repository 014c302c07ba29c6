import JvmDerived
import JvmDerived.Pilot.@@N@@Statement
import JvmDerived.Pilot.@@N@@Code
set_option linter.unusedVariables false
set_option linter.unusedSimpArgs false
@@BLOCK:NumsL.lean.txt@@
namespace Jvm.Pilot.@@N@@
open Jvm Jvm.ClassFile Sem Op Lib Jvm.Free Jvm.Stand Jvm.LawKit Jvm.RoadKit Bundle Jvm.Pilot.@@N@@.Jvm.D
section Own
variable {p : Program} {l : Launch} {e : Env} {R : Room} {s : State} {m : MethodId} {args : Array Value} {below : List Frame} {meth : Method} {c : Code} {T : State} {locs : List Loc} {cells slots cl sl : Nat} {Q : Option Value → Heap → List Loc → Prop}
/-- from the state S the invocation comes to its end, returns, and Q holds of what it returned and left -/
def Goes (p : Program) (e : Env) (below : List Frame) (s : State) (cl sl : Nat) (Q : Option Value → Heap → List Loc → Prop) (S : State) : Prop :=
  ∃ s₂ o, Steps p.tables e below S s₂ ∧ s₂.status = .running ∧ Ended s₂ below o ∧ ∃ v L, o = .returned v ∧ Q v s₂.heap L ∧ FrameEnd s o s₂ L cl sl
theorem Goes.step {S S' : State} (h : ∀ t, Steps p.tables e below S' t → Steps p.tables e below S t) (k : Goes p e below s cl sl Q S') : Goes p e below s cl sl Q S := by
  obtain ⟨s₂, o, a, b⟩ := k
  exact ⟨s₂, o, h _ a, b⟩
theorem Goes.back {S S' : State} (h : Steps p.tables e below S S') (k : Goes p e below s cl sl Q S') : Goes p e below s cl sl Q S := Goes.step (fun _ q => h.trans q) k
theorem Goes.ret (X : Stand p l e R s m args below meth c T locs cells slots) (hx : p.tables.exec = Jvm.exec) (hlk : meth.locks = false) {pc : Nat} {Ls : Array Slot} {w : Value} {t : FieldType} {i : Instr} {rest : List Value} (hret : meth.sig.returnType = some t) (hn : narrow t w = w)
    (hi : (i = .ireturn ∧ (t = .int ∨ t = .boolean ∨ t = .byte ∨ t = .char ∨ t = .short) ∧ ∃ z, w = .int z) ∨ (i = .lreturn ∧ t = .long ∧ ∃ z, w = .long z) ∨ (i = .dreturn ∧ t = .double ∧ ∃ z, w = .double z) ∨ (i = .freturn ∧ t = .float ∧ ∃ z, w = .float z) ∨ (i = .areturn ∧ t.isReference = true ∧ w.isRef = true))
    (hd : decode c.code pc = .ok (i, 1)) (hQ : Q (some w) T.heap locs) (hc : cells ≤ cl) (hs : slots ≤ sl) : Goes p e below s cl sl Q (T.setTop (mkF m pc Ls (w :: rest))) := by
  obtain ⟨fs, hr, hrun, hended, hW, hsame⟩ := X.leave (v := some w) (fun h => by rw [hret] at h; cases h) hlk
  exact ⟨_, _, retOut X hx hret hn hi hd hr, hrun, hended, _, _, rfl, hQ, ⟨_, rfl⟩, hW, hsame.mono hc hs⟩
theorem Goes.retV (X : Stand p l e R s m args below meth c T locs cells slots) (hx : p.tables.exec = Jvm.exec) (hlk : meth.locks = false) {pc : Nat} {Ls : Array Slot} (hret : meth.sig.returnType = none)
    (hd : decode c.code pc = .ok (.return_, 1)) (hQ : Q none T.heap locs) (hc : cells ≤ cl) (hs : slots ≤ sl) : Goes p e below s cl sl Q (T.setTop (mkF m pc Ls [])) := by
  obtain ⟨fs, hr, hrun, hended, hW, hsame⟩ := X.leave (v := none) (fun _ => rfl) hlk
  exact ⟨_, _, X.returnOut hx hret hd hr, hrun, hended, _, _, rfl, hQ, ⟨_, rfl⟩, hW, hsame.mono hc hs⟩
theorem own_eqInt {args : Array Value} {s : State} {t : Term} {k : Int32} (h : (Cond.eq t (.int k)).value args s none s [] = some true) : t.eval args s none [] s = some (.int k) := by
  obtain ⟨x, y, hx, hy, -, k2⟩ := cmp_v (Or.inl h)
  obtain rfl : y = .int k := (Option.some.inj hy).symm
  obtain ⟨z, rfl⟩ := k2
  have e : (Cond.eq t (.int k)).value args s none s [] = some (decide (z = k)) := by simp [Cond.value, hx, hy]
  rw [hx, gotT e h]
theorem own_eqLong {args : Array Value} {s : State} {t : Term} {k : Int64} (h : (Cond.eq t (.long k)).value args s none s [] = some true) : t.eval args s none [] s = some (.long k) := by
  obtain ⟨x, y, hx, hy, -, k2⟩ := cmp_v (Or.inl h)
  obtain rfl : y = .long k := (Option.some.inj hy).symm
  obtain ⟨z, rfl⟩ := k2
  rw [hx, gotT (eq_L hx hy) h]
theorem own_neFld {Z : State} {h : Heap} {a b : Addr} {C n d : String} {x y : Int32} (F : Fld Z h a C n d (.int x)) (G : Fld Z h b C n d (.int y)) (q : x ≠ y) : a ≠ b := fun e => by
  subst e
  obtain ⟨cell, cf, k, i, f, h1, h2, -, -, -, -, h7⟩ := F
  obtain ⟨cell', cf', k', i', f', g1, g2, -, -, -, -, g7⟩ := G
  cases h1.symm.trans g1
  cases h2.symm.trans g2
  rw [h7] at g7
  injection g7 with g8
  injection g8 with g9
  exact q g9
theorem own_miss1 {k : Int32} {a : Int} (b : Int32) (hb : b.toInt = a) (h : ¬ k = b) : a ≠ k.toInt := fun q => h (Int32.toInt_inj.mp (by rw [hb, q]))
theorem own_find3 {k : Int32} {a b c' o1 o2 o3 : Int} {a' b' d' : Int32} (ha : ¬ k = a') (hb : ¬ k = b') (hc : ¬ k = d') (ea : a'.toInt = a := by rfl) (eb : b'.toInt = b := by rfl) (ec : d'.toInt = c' := by rfl) : (#[(a, o1), (b, o2), (c', o3)] : Array (Int × Int)).find? (·.1 == k.toInt) = none :=
  find_miss fun p hp => by
    simp only [List.mem_cons, List.not_mem_nil, or_false] at hp
    rcases hp with rfl | rfl | rfl
    · exact own_miss1 _ ea ha
    · exact own_miss1 _ eb hb
    · exact own_miss1 _ ec hc
theorem own_insKeep {Z : State} {h h' : Heap} {a : Addr} {C : String} {b : Bool} {ws : List Addr} (F : Ins Z h a C b) (K : Keep h h' ws) : Ins Z h' a C b := by
  obtain ⟨cell, cT, h1, h2, h3⟩ := F
  obtain ⟨c', q, r1, r2, r3⟩ := K.2.2 a cell h1
  exact ⟨c', cT, q, h2, by rw [r1, r2]; exact h3⟩
theorem own_insLt {Z : State} {h : Heap} {a : Addr} {C : String} {b : Bool} (F : Ins Z h a C b) : a < h.size := by
  obtain ⟨cell, cT, h1, -⟩ := F
  exact (Array.getElem?_eq_some_iff.mp h1).1
theorem own_cat {v : Value} (h : v.isRef = true) : v.category = 1 := by cases v <;> first | rfl | (simp [Value.isRef] at h)
theorem own_nar {ty : FieldType} {v : Value} (h : v.isRef = true) : narrow ty v = v := by cases v <;> first | (simp [Value.isRef] at h; done) | (cases ty <;> rfl)
theorem own_fit {C : String} {v : Value} (h : v.isRef = true) : fits (.object C) v = true := by cases v <;> first | rfl | (simp [Value.isRef] at h)
/-- a private method is selected by its own type, which is no interface since another method of it is selected -/
theorem own_selPriv {s : State} {args : Array Value} {C : String} {x z y : MethodName} (w : (Cond.selects C x z).before args s = true) (hc : z.cls = y.cls) (hp : (Cond.privateMethod y).before args s = true) (hi : (Cond.instanceMethod y).before args s = true)
    (hy : y.cls ≠ "java/lang/invoke/MethodHandle" ∧ y.cls ≠ "java/lang/invoke/VarHandle") : (Cond.selects y.cls y y).before args s = true := by
  obtain ⟨c2, r2, m2, -, -, q3, -, kP, hkP, hkPi⟩ := Cond.selects_spec w
  have hf := findClass_of_methodNamed q3
  rw [hc] at hf
  exact selects_self_of_private hf hkP hkPi (Cond.privateMethod_at hp) hi hy
/-- an array whose contents aren't told -/
def Arx (Z : State) (h : Heap) (a : Addr) (k : ClassId) (ty : FieldType) (n : Int32) : Prop :=
  ∃ cl : Cell, Arr Z h a cl ty ∧ cl.cls = k ∧ cl.slots.size = n.toNatClampNeg ∧ ¬ n < 0 ∧ ∀ i, i < cl.slots.size → ∃ v, cl.slots[i]? = some v ∧ fits ty v = true
theorem Arx.lt {Z : State} {h : Heap} {a : Addr} {k : ClassId} {ty : FieldType} {n : Int32} (F : Arx Z h a k ty n) : a < h.size := by obtain ⟨cl, A, -⟩ := F; exact A.lt
theorem Arx.ext {Z : State} {h h' : Heap} {a : Addr} {k : ClassId} {ty : FieldType} {n : Int32} (F : Arx Z h a k ty n) (E : Ext h h') : Arx Z h' a k ty n := by obtain ⟨cl, A, r⟩ := F; exact ⟨cl, A.ext E, r⟩
theorem Arx.other {Z : State} {h h' : Heap} {a b : Addr} {k : ClassId} {ty : FieldType} {n : Int32} {sl : Nat} {v : Value} (F : Arx Z h b k ty n) (W : Wr h h' a sl v) (q : b ≠ a) : Arx Z h' b k ty n := by obtain ⟨cl, A, r⟩ := F; exact ⟨cl, A.other W q, r⟩
theorem Arx.keep {Z : State} {h h' : Heap} {a : Addr} {k : ClassId} {ty : FieldType} {n : Int32} {ws : List Addr} (F : Arx Z h a k ty n) (K : Keep h h' ws) (q : a ∉ ws) : Arx Z h' a k ty n := by obtain ⟨cl, A, r⟩ := F; exact ⟨cl, ⟨K.2.1 a cl A.1 q, A.2⟩, r⟩
theorem Arx.set {Z : State} {h h' : Heap} {a : Addr} {k : ClassId} {ty : FieldType} {n : Int32} {cl : Cell} {sl : Nat} {v : Value} (A : Arr Z h a cl ty) (q1 : cl.cls = k) (S : cl.slots.size = n.toNatClampNeg) (P : ¬ n < 0) (G : ∀ i, i < cl.slots.size → ∃ v, cl.slots[i]? = some v ∧ fits ty v = true) (hv : fits ty v = true) (W : Wr h h' a sl v) : Arx Z h' a k ty n := by
  refine ⟨_, A.same W, q1, by rw [sz_set]; exact S, P, fun i hi => ?_⟩
  rw [sz_set] at hi
  by_cases u : sl = i
  · subst u
    exact ⟨v, by simp [Cell.setSlot, hi], hv⟩
  · obtain ⟨w, e1, e2⟩ := G i hi
    refine ⟨w, ?_, e2⟩
    show (cl.slots.setIfInBounds sl v)[i]? = some w
    rw [Array.getElem?_setIfInBounds_ne u]
    exact e1
theorem own_arx {Z : State} {h : Heap} {a : Addr} {k : ClassId} {ty : FieldType} {n : Int32} {vs : List Value} {d : Value} (F : Arv Z h a k ty n vs d) : Arx Z h a k ty n := by
  obtain ⟨cl, A, r1, r2, r3, H, G⟩ := F
  exact ⟨cl, A, r1, r2, r3, fun i hi => ⟨_, H i hi, G i hi⟩⟩
theorem own_arI {cl : Cell} {j : Int32} (G : ∀ i, i < cl.slots.size → ∃ v, cl.slots[i]? = some v ∧ fits .int v = true) (hin : ¬ (j < 0 ∨ cl.slots.size ≤ j.toNatClampNeg)) : ∃ x : Int32, cl.slots[j.toNatClampNeg]? = some (.int x) := by
  obtain ⟨v, e1, e2⟩ := G _ (Nat.lt_of_not_le fun q => hin (Or.inr q))
  obtain ⟨x, rfl⟩ := fit_I e2 (Or.inl rfl)
  exact ⟨x, e1⟩
theorem own_arD {cl : Cell} {j : Int32} (G : ∀ i, i < cl.slots.size → ∃ v, cl.slots[i]? = some v ∧ fits .double v = true) (hin : ¬ (j < 0 ∨ cl.slots.size ≤ j.toNatClampNeg)) : ∃ x, cl.slots[j.toNatClampNeg]? = some (.double x) := by
  obtain ⟨v, e1, e2⟩ := G _ (Nat.lt_of_not_le fun q => hin (Or.inr q))
  obtain ⟨x, rfl⟩ := fit_D e2
  exact ⟨x, e1⟩
end Own
theorem own_arx0 {s : State} {args : Array Value} {t : Term} {a : Addr} {cl : Cell} {ty : FieldType} {n : Int32} (hfit : Fit s) (et : t.eval args s none [] s = some (.ref a)) (A : Arr s s.heap a cl ty) (hl : (Term.length t).eval args s none [] s = some (.int n)) (hn : ¬ n < 0) : Arx s s.heap a cl.cls ty n := by
  obtain ⟨x, c2, e1, e2, e4, e3⟩ := Jvm.Free.SB.Term.length_small hl
  cases et.symm.trans e1
  cases (A.fin (Vm.Alike.refl _)).symm.trans e2
  injection e4 with e5
  have hs : cl.slots.size = n.toNatClampNeg := by
    rw [e5]
    simp only [Int32.toNatClampNeg, len_toInt e3]
    rfl
  refine ⟨cl, A, rfl, hs, hn, fun i hi => ?_⟩
  have hq : ¬ (i.toInt32 < 0 ∨ cl.slots.size ≤ i.toInt32.toNatClampNeg) := idx_in hi e3
  obtain ⟨v, r1, r2⟩ := elem_fit hfit A hq
  refine ⟨v, ?_, r2⟩
  have hi2 : i.toInt32.toNatClampNeg = i := by simp only [Int32.toNatClampNeg, len_toInt (Nat.lt_trans hi e3)]; rfl
  rw [hi2] at r1
  exact r1
section OwnNums
theorem own_maskNN (x : Int32) : 0 ≤ (x &&& 2147483647).toInt ∧ (x &&& 2147483647).toInt < 2 ^ 31 := by
  have h : (x &&& 2147483647).toInt = x.toInt % 2 ^ 31 := Jvm.Kit.i32_mask x 2147483647 (k := 31) (by decide) (by decide)
  omega
theorem own_remB (x : Int32) (n : Int32) (hn : 0 < n.toInt) : 0 ≤ ((x &&& 2147483647) % n).toInt ∧ ((x &&& 2147483647) % n).toInt < n.toInt := by
  rw [Int32.toInt_mod, Int.tmod_eq_emod_of_nonneg (own_maskNN x).1]
  exact ⟨Int.emod_nonneg _ (by omega), Int.emod_lt_of_pos _ hn⟩
theorem own_eqOf {i : Int32} (k : Int32) (h : i.toInt = k.toInt) : i = k := Int32.toInt_inj.mp h
end OwnNums
section OwnMirror
variable {p : Program} {l : Launch} {e : Env} {R : Room} {s : State} {m : MethodId} {args : Array Value} {below : List Frame} {meth : Method} {c : Code} {T : State} {locs : List Loc} {cells slots : Nat} {Z : State} {h : Heap}
/-- the Class object of C has been made -/
def MirO (Z : State) (C : String) (m : Addr) : Prop := ∃ (c : ClassId) (k : Class), Z.vm.findClass C = some c ∧ Z.vm.classes[c]? = some k ∧ k.mirror = some m
theorem own_getClass (X : Stand p l e R s m args below meth c T locs cells slots) (hx : p.tables.exec = Jvm.exec) (hZ : Z.Warmed39 s.vm) {a0 : Array Value} {own C : String} {index : Nat} {a mr : Addr} (hown : s.vm.findClass own = some m.cls)
    (w1 : (Cond.methodLink own index ⟨"java/lang/Object", "getClass", "()Ljava/lang/Class;"⟩).before a0 Z = true) (w2 : (Cond.declares ⟨"java/lang/Object", "getClass", "()Ljava/lang/Class;"⟩).before a0 Z = true)
    (w4 : (Cond.selects C ⟨"java/lang/Object", "getClass", "()Ljava/lang/Class;"⟩ ⟨"java/lang/Object", "getClass", "()Ljava/lang/Class;"⟩).before a0 Z = true)
    (w5 : (Cond.instanceMethod ⟨"java/lang/Object", "getClass", "()Ljava/lang/Class;"⟩).before a0 Z = true) (w6 : (Cond.native ⟨"java/lang/Object", "getClass", "()Ljava/lang/Class;"⟩).before a0 Z = true) (eT : T.heap = h) (E : Exa Z h a C) (MR : MirO Z C mr)
    {g : JFrame} (hg : g.method = m) (hsize : g.locals.size = c.maxLocals) {rest : List Value} (hs : g.stack = .ref a :: rest) (hd : decode c.code g.pc = .ok (.invokevirtual index, 3)) (hf : 1 ≤ R.frames) (hl : 2 * g.monitorRoom + (rest.map fun v => v.category).sum + (nativeFrameWords "java/lang/Object" "getClass" 1 + 11) ≤ R.locals) :
    ∃ T', Stand p l e R s m args below meth c T' locs cells slots ∧ T'.heap = h ∧ ∀ target, Steps p.tables e below (T'.setTop { g with pc := g.pc + 3, stack := .ref mr :: rest }) target → Steps p.tables e below (T.setTop g) target := by
  obtain ⟨cB, kB, i1, i2, i3⟩ := isOf hZ eT E
  obtain ⟨cc, kc, m1, m2, m3⟩ := MR
  have j1 : s.vm.findClass C = some cc := by rw [hZ.alike.findClass]; exact m1
  cases i1.symm.trans j1
  obtain ⟨k', q, ek⟩ := hZ.alike.2.2 _ _ m2
  obtain ⟨vm', X', st⟩ := X.getClassOf hx hown (mvT hZ w1) (mvT hZ w2) (notFace_of_selects (args := #[]) (mvT hZ w4)) (mvT hZ w4) (mvT hZ w5) (mvT hZ w6) j1 i3 q (by rw [ek]; exact m3) hg hsize hs hd hf hl
  exact ⟨_, X', eT, st⟩
theorem own_ldcMir (X : Stand p l e R s m args below meth c T locs cells slots) (hx : p.tables.exec = Jvm.exec) (hZ : Z.Warmed39 s.vm) {a0 : Array Value} {own C : String} {index : Nat} {mr : Addr} (hown : s.vm.findClass own = some m.cls)
    (w : (Cond.classLink own index C).before a0 Z = true) (eT : T.heap = h) (MR : MirO Z C mr) {g : JFrame} (hg : g.method = m) (hd : decode c.code g.pc = .ok (.ldc index, 2)) :
    ∃ T', Stand p l e R s m args below meth c T' locs cells slots ∧ T'.heap = h ∧ ∀ target, Steps p.tables e below (T'.setTop { g with pc := g.pc + 2, stack := .ref mr :: g.stack }) target → Steps p.tables e below (T.setTop g) target := by
  obtain ⟨cc, kc, m1, m2, m3⟩ := MR
  have j1 : s.vm.findClass C = some cc := by rw [hZ.alike.findClass]; exact m1
  obtain ⟨k', q, ek⟩ := hZ.alike.2.2 _ _ m2
  have hm : k'.mirror = some mr := by rw [ek]; exact m3
  obtain ⟨vm', X', st⟩ := X.ldcMirror hx hown (mvT hZ w) (a := mr) (by simp [Term.eval, j1, q, hm]) hg hd
  exact ⟨_, X', eT, st⟩
theorem own_keepSet {h : Heap} {a : Addr} {cd cx : Cell} (h1 : h[a]? = some cd) (q1 : cx.cls = cd.cls) (q2 : cx.vm = cd.vm) (q3 : cx.slots.size = cd.slots.size) : Keep h (h.setIfInBounds a cx) [a] := by
  refine ⟨by simp, fun x c q r => ?_, fun x c q => ?_⟩
  · have : a ≠ x := fun z => r (by simp [z])
    rw [Array.getElem?_setIfInBounds_ne this]; exact q
  · by_cases z : a = x
    · subst z; cases h1.symm.trans q
      exact ⟨cx, by rw [Array.getElem?_setIfInBounds_self_of_lt (Array.getElem?_eq_some_iff.mp h1).1], q1, q2, q3⟩
    · exact ⟨c, by rw [Array.getElem?_setIfInBounds_ne z]; exact q, rfl, rfl, rfl⟩
/-- System.arraycopy of no component at all, into an array without components -/
theorem own_copy0 (X : Stand p l e R s m args below meth c T locs cells slots) (hx : p.tables.exec = Jvm.exec) (hZ : Z.Warmed39 s.vm) {a0 : Array Value} {own : String} {index : Nat} (hown : s.vm.findClass own = some m.cls)
    (w1 : (Cond.methodLink own index ⟨"java/lang/System", "arraycopy", "(Ljava/lang/Object;ILjava/lang/Object;II)V"⟩).before a0 Z = true) (w2 : (Cond.native ⟨"java/lang/System", "arraycopy", "(Ljava/lang/Object;ILjava/lang/Object;II)V"⟩).before a0 Z = true)
    (w3 : (Cond.static ⟨"java/lang/System", "arraycopy", "(Ljava/lang/Object;ILjava/lang/Object;II)V"⟩).before a0 Z = true) (w4 : (Cond.initialized "java/lang/System").before a0 Z = true) (eT : T.heap = h)
    {src dst : Addr} {k1 k2 : ClassId} {n1 : Int32} {C1 C2 : String} (FS : Arx Z h src k1 (.object C1) n1) (FD : Arx Z h dst k2 (.object C2) (0 : Int32))
    {g : JFrame} (hg : g.method = m) (hsize : g.locals.size = c.maxLocals) {rest : List Value} (hstack : g.stack = .int (0 : Int32) :: .int 0 :: .ref dst :: .int 0 :: .ref src :: rest) (hdg : decode c.code g.pc = .ok (.invokestatic index, 3))
    (hframes : 1 ≤ R.frames) (hlocals : 2 * g.monitorRoom + (rest.map fun v => v.category).sum + (nativeFrameWords "java/lang/System" "arraycopy" 5 + 11) ≤ R.locals) :
    ∃ T' h' L', Stand p l e R s m args below meth c T' (locs ++ L') cells slots ∧ T'.heap = h' ∧ (∀ y ∈ L', y.base = dst) ∧ Keep h h' [dst] ∧ Arx Z h' dst k2 (.object C2) (0 : Int32) ∧
      ∀ target, Steps p.tables e below (T'.setTop { g with pc := g.pc + 3, stack := rest }) target → Steps p.tables e below (T.setTop g) target := by
  obtain ⟨cs, As, q1, S1, P1, G1⟩ := FS
  obtain ⟨cd, Ad, q2, S2, P2, G2⟩ := FD
  obtain ⟨ks, hks, compS, hkS⟩ := (State.isArrayOf_alike hZ.alike As.2.1).2
  obtain ⟨kd, hkd, compD, hkD⟩ := (State.isArrayOf_alike hZ.alike Ad.2.1).2
  have z0 : (0 : Int32).toInt = 0 := rfl
  obtain ⟨vm', X', st⟩ := X.arraycopy hx hown (mvT hZ w1) (mvT hZ w2) (mvT hZ w3) (mvT hZ w4) (src := src) (dst := dst) (srcPos := 0) (destPos := 0) (n := 0) (cs := cs) (cd := cd) (by rw [eT]; exact As.1) (by rw [eT]; exact Ad.1)
    As.2.1.1 Ad.2.1.1 As.2.2 Ad.2.2 hks hkd hkS hkD rfl (by decide) (by decide) (by decide) (by rw [z0]; omega) (by rw [z0]; omega)
    (fun vm2 _ i hi => absurd hi (Nat.not_lt_zero i)) hg hsize hstack hdg hframes hlocals
  obtain ⟨f1, f2, f3, -, -⟩ := Cell.storeRun_facts cd (0 : Int32).toNatClampNeg (cs.stretch (0 : Int32).toNatClampNeg (0 : Int32).toNatClampNeg)
  have hlt : dst < h.size := (Array.getElem?_eq_some_iff.mp Ad.1).1
  refine ⟨_, _, _, X', rfl, ?_, ?_, ?_, st⟩
  · intro y hy
    obtain ⟨z, -, rfl⟩ := List.mem_map.mp hy
    rfl
  · show Keep h (T.heap.setIfInBounds dst _) [dst]
    rw [eT]
    exact own_keepSet Ad.1 f1 f2 f3
  · refine ⟨copied cs cd 0 0 0, ⟨?_, ⟨by rw [f2]; exact Ad.2.1.1, by rw [f1]; exact Ad.2.1.2⟩, by rw [f2]; exact Ad.2.2⟩, f1.trans q2, f3.trans S2, P2, ?_⟩
    · show (T.heap.setIfInBounds dst _)[dst]? = _
      rw [eT, Array.getElem?_setIfInBounds_self_of_lt hlt]
    · intro j hj
      rw [f3, S2] at hj
      exact absurd hj (Nat.not_lt_zero j)
end OwnMirror
section OwnStep
theorem own_d (d : Int64) : (d &&& (9223372036854775807 : Int64)).toInt = d.toInt % 2 ^ 63 := Jvm.Kit.i64_mask d _ (k := 63) (by decide) (by decide)
theorem own_stepA {x d : Int64} (h : x < (0 : Int64)) : ¬ (x + (d &&& (9223372036854775807 : Int64))) < x := by
  have b := own_d d
  rw [Int64.lt_iff_toInt_lt] at h ⊢
  have z : (0 : Int64).toInt = 0 := rfl
  have h1 := x.minValue_le_toInt
  have m1 : Int64.minValue.toInt = -9223372036854775808 := rfl
  have e : (x + (d &&& (9223372036854775807 : Int64))).toInt = x.toInt + (d &&& (9223372036854775807 : Int64)).toInt := Jvm.Kit.i64_add (by omega) (by omega)
  omega
theorem own_stepB {x d : Int64} (h : ¬ x < (0 : Int64)) (h2 : ¬ ((9223372036854775807 : Int64) - x) < (d &&& (9223372036854775807 : Int64))) : ¬ (x + (d &&& (9223372036854775807 : Int64))) < x := by
  have b := own_d d
  rw [Int64.lt_iff_toInt_lt] at h h2 ⊢
  have z : (0 : Int64).toInt = 0 := rfl
  have t : (9223372036854775807 : Int64).toInt = 9223372036854775807 := rfl
  have h1 := x.toInt_le
  have m1 : Int64.maxValue.toInt = 9223372036854775807 := rfl
  have e0 : ((9223372036854775807 : Int64) - x).toInt = (9223372036854775807 : Int64).toInt - x.toInt := Jvm.Kit.i64_sub (by omega) (by omega)
  have e : (x + (d &&& (9223372036854775807 : Int64))).toInt = x.toInt + (d &&& (9223372036854775807 : Int64)).toInt := Jvm.Kit.i64_add (by omega) (by omega)
  omega
theorem own_stepM {x : Int64} : ¬ (9223372036854775807 : Int64) < x := by
  rw [Int64.lt_iff_toInt_lt]
  have t : (9223372036854775807 : Int64).toInt = 9223372036854775807 := rfl
  have h1 := x.toInt_le
  have m1 : Int64.maxValue.toInt = 9223372036854775807 := rfl
  omega
theorem own_ltDown {x y t : Int64} (h : ¬ y < x) (h2 : y < t) : x < t := by rw [Int64.lt_iff_toInt_lt] at *; omega
theorem own_ltUp {x y t : Int64} (h : ¬ y < x) (h2 : ¬ x < t) : ¬ y < t := by rw [Int64.lt_iff_toInt_lt] at *; omega
theorem own_tr {x y z : Int64} (h : ¬ y < x) (h2 : ¬ z < y) : ¬ z < x := by rw [Int64.lt_iff_toInt_lt] at *; omega
theorem own_five {x i : Int32} (h : (x &&& (2147483647 : Int32)) % (5 : Int32) = i) : i = 0 ∨ i = 1 ∨ i = 2 ∨ i = 3 ∨ i = 4 := by
  have b := own_remB x 5 (by decide)
  rw [h] at b
  have e : (5 : Int32).toInt = 5 := rfl
  have q : i.toInt = 0 ∨ i.toInt = 1 ∨ i.toInt = 2 ∨ i.toInt = 3 ∨ i.toInt = 4 := by omega
  rcases q with q | q | q | q | q
  · exact Or.inl (own_eqOf 0 q)
  · exact Or.inr (Or.inl (own_eqOf 1 q))
  · exact Or.inr (Or.inr (Or.inl (own_eqOf 2 q)))
  · exact Or.inr (Or.inr (Or.inr (Or.inl (own_eqOf 3 q))))
  · exact Or.inr (Or.inr (Or.inr (Or.inr (own_eqOf 4 q))))
end OwnStep
theorem d1_0 : decode method_3_code 0 = .ok (.lload_n 2, 1) := by decide +kernel
theorem d1_1 : decode method_3_code 1 = .ok (.ldc2_w 35, 3) := by decide +kernel
theorem d1_4 : decode method_3_code 4 = .ok (.land, 1) := by decide +kernel
theorem d1_5 : decode method_3_code 5 = .ok (.lstore 4, 2) := by decide +kernel
theorem d1_7 : decode method_3_code 7 = .ok (.lload_n 0, 1) := by decide +kernel
theorem d1_8 : decode method_3_code 8 = .ok (.lconst 0, 1) := by decide +kernel
theorem d1_9 : decode method_3_code 9 = .ok (.lcmp, 1) := by decide +kernel
theorem d1_10 : decode method_3_code 10 = .ok (.ifCond .lt 18, 3) := by decide +kernel
theorem d1_13 : decode method_3_code 13 = .ok (.lload 4, 2) := by decide +kernel
theorem d1_15 : decode method_3_code 15 = .ok (.ldc2_w 35, 3) := by decide +kernel
theorem d1_18 : decode method_3_code 18 = .ok (.lload_n 0, 1) := by decide +kernel
theorem d1_19 : decode method_3_code 19 = .ok (.lsub, 1) := by decide +kernel
theorem d1_20 : decode method_3_code 20 = .ok (.lcmp, 1) := by decide +kernel
theorem d1_21 : decode method_3_code 21 = .ok (.ifCond .le 7, 3) := by decide +kernel
theorem d1_24 : decode method_3_code 24 = .ok (.ldc2_w 35, 3) := by decide +kernel
theorem d1_27 : decode method_3_code 27 = .ok (.lreturn, 1) := by decide +kernel
theorem d1_28 : decode method_3_code 28 = .ok (.lload_n 0, 1) := by decide +kernel
theorem d1_29 : decode method_3_code 29 = .ok (.lload 4, 2) := by decide +kernel
theorem d1_31 : decode method_3_code 31 = .ok (.ladd, 1) := by decide +kernel
theorem d1_32 : decode method_3_code 32 = .ok (.lreturn, 1) := by decide +kernel
theorem pn_1 : plainName "com/example/orbitloom/orbitloom/core/TimelineFirstStartingFromPinLaw" = true := by first | (simp [plainName, overriddenIn]; done) | decide +kernel
theorem ef_1 (m : MethodId) (x0 : Int64) (x1 : Int64)  : entryFrame m #[(.long x0), (.long x1)] 6 = mkF m 0 #[.val (.long x0), .second, .val (.long x1), .second, .unset, .unset] [] := by first | (simp [entryFrame, mkF, argsToLocals, Value.category]; done) | rfl
def Q1 (Z : State) (x0 : Int64) (x1 : Int64) (h0 : Heap) (n0 : Nat) (v : Option Value) (h : Heap) (L : List Loc) : Prop := Fr n0 L ∧ h = h0 ∧ ∃ r : Int64, v = some (.long r) ∧ ¬ r < x0
set_option maxRecDepth 65536 in
set_option maxHeartbeats 40000000 in
theorem rm1 (l : Launch) (Z : State) (a0 : Array Value) (hw : ∀ d ∈ tables_1, d.before a0 Z = true) (ws : List Jvm.Cond) (x0 : Int64) (x1 : Int64) (h0 : Heap) (n0 : Nat) (Z0 : n0 ≤ h0.size) :
    MetFree l (⟨"com/example/orbitloom/orbitloom/core/TimelineFirstStartingFromPinLaw", "step", "(JJ)J"⟩ : MethodName) (head1 (Jvm.Cond.code (⟨"com/example/orbitloom/orbitloom/core/TimelineFirstStartingFromPinLaw", "step", "(JJ)J"⟩ : MethodName) method_3_code 6 (some .long) :: ws) ({ frames := 0, cells := 0, slots := 0, locals := 0 } : Room)) (fun a U => a = #[(.long x0), (.long x1)] ∧ Z.Warmed39 U.vm ∧ U.heap = h0) (fun _ _ _ _ _ => True) (fun _ U o U' => ∃ v L, o = .returned v ∧ Q1 Z x0 x1 h0 n0 v U'.heap L ∧ FrameEnd U o U' L ({ frames := 0, cells := 0, slots := 0, locals := 0 } : Room).cells ({ frames := 0, cells := 0, slots := 0, locals := 0 } : Room).slots) := by
  refine MetFree.of_bodySF (plainFor_of_name pn_1) hisR ?_
  intro p e s m args below meth c s₁ Bd hml0 hP hK
  obtain ⟨rfl, hZ, hh⟩ := hP
  have w_5 := hw _ (List.mem_of_getElem? (i := 5) rfl)
  have hx := Bd.exec
  have hby := Bd.bytes
  have hml : c.maxLocals = 6 := hml0
  have hown : s.vm.findClass "com/example/orbitloom/orbitloom/core/TimelineFirstStartingFromPinLaw" = some m.cls := findClass_of_methodNamed Bd.named
  have hnm := (name_of_methodNamed Bd.named Bd.method).1
  have X0 : Stand p l e ({ frames := 0, cells := 0, slots := 0, locals := 0 } : Room) s m #[(.long x0), (.long x1)] below meth c s₁ [] 0 0 := Stand.of_body Bd
  have e0 : s₁.heap = h0 := by rw [← hh, Bd.state]; rfl
  have N0 := Fr.nil n0
  have K0 : Keep h0 h0 [] := Keep.refl h0 _
  refine (?_ : Goes p e below s ({ frames := 0, cells := 0, slots := 0, locals := 0 } : Room).cells ({ frames := 0, cells := 0, slots := 0, locals := 0 } : Room).slots (fun v h L => Q1 Z x0 x1 h0 n0 v h L) (s₁.setTop (entryFrame m #[(.long x0), (.long x1)] 6)))
  rw [ef_1 m x0 x1 ]
  show Goes _ _ _ _ _ _ _ (s₁.setTop (mkF m 0 #[.val (.long x0), .second, .val (.long x1), .second, .unset, .unset] []))
  refine Goes.step (fun _ k => XS.lloadN X0.here hx rfl (hb hby d1_0) rfl  k) ?_
  refine Goes.step (fun _ k => X0.ldc2Long hx hown (mvT hZ w_5) (g := (mkF m 1 #[.val (.long x0), .second, .val (.long x1), .second, .unset, .unset] [(.long x1)])) rfl (hb hby d1_1) _ k) ?_
  refine Goes.step (fun _ k => XS.land X0.here hx rfl (hb hby d1_4) rfl k) ?_
  show Goes _ _ _ _ _ _ _ (s₁.setTop (mkF m 5 _ [(.long (x1 &&& (9223372036854775807 : Int64)))]))
  refine Goes.step (fun _ k => XS.lstore X0.here hx rfl (hb hby d1_5) rfl (l' := #[.val (.long x0), .second, .val (.long x1), .second, .val (.long (x1 &&& (9223372036854775807 : Int64))), .second]) rfl k) ?_
  show Goes _ _ _ _ _ _ _ (s₁.setTop (mkF m 7 _ []))
  refine Goes.step (fun _ k => XS.lloadN X0.here hx rfl (hb hby d1_7) rfl  k) ?_
  refine Goes.step (fun _ k => XS.lconst X0.here hx rfl (hb hby d1_8) k) ?_
  refine Goes.step (fun _ k => XS.lcmp X0.here hx rfl (hb hby d1_9) rfl k) ?_
  show Goes _ _ _ _ _ _ _ (s₁.setTop (mkF m 10 _ [(.int (lcmpW x0 (0 : Int64)))]))
  by_cases c10_1 : x0 < (0 : Int64)
  · refine Goes.step (fun _ k => XS.ifYes X0.here hx rfl (pc0 := 10) (pc' := 28) rfl (hb hby d1_10) rfl ((if0 _ _).trans (tlt ((lw_lt _ _).mpr c10_1)).1) (by decide) (by decide) k) ?_
    show Goes _ _ _ _ _ _ _ (s₁.setTop (mkF m 28 _ []))
    refine Goes.step (fun _ k => XS.lloadN X0.here hx rfl (hb hby d1_28) rfl  k) ?_
    refine Goes.step (fun _ k => XS.lload X0.here hx rfl (hb hby d1_29) rfl  k) ?_
    refine Goes.step (fun _ k => XS.ladd X0.here hx rfl (hb hby d1_31) rfl k) ?_
    show Goes _ _ _ _ _ _ _ (s₁.setTop (mkF m 32 _ [(.long (x0 + (x1 &&& (9223372036854775807 : Int64))))]))
    exact Goes.ret X0 hx (BodyLoose.notSynchronized Bd) Bd.returns rfl (Or.inr (Or.inl ⟨rfl, rfl, _, rfl⟩)) (hb hby d1_32) (by show Q1 Z x0 x1 h0 n0 (some (.long (x0 + (x1 &&& (9223372036854775807 : Int64))))) s₁.heap _; rw [e0]; exact ⟨N0, rfl, _, rfl, (own_stepA c10_1)⟩) (by decide) (by decide)
  · refine Goes.step (fun _ k => XS.ifNo X0.here hx rfl (hb hby d1_10) rfl ((if0 _ _).trans (flt (fun q => c10_1 ((lw_lt _ _).mp q))).1) k) ?_
    show Goes _ _ _ _ _ _ _ (s₁.setTop (mkF m 13 _ []))
    refine Goes.step (fun _ k => XS.lload X0.here hx rfl (hb hby d1_13) rfl  k) ?_
    refine Goes.step (fun _ k => X0.ldc2Long hx hown (mvT hZ w_5) (g := (mkF m 15 #[.val (.long x0), .second, .val (.long x1), .second, .val (.long (x1 &&& (9223372036854775807 : Int64))), .second] [(.long (x1 &&& (9223372036854775807 : Int64)))])) rfl (hb hby d1_15) _ k) ?_
    refine Goes.step (fun _ k => XS.lloadN X0.here hx rfl (hb hby d1_18) rfl  k) ?_
    refine Goes.step (fun _ k => XS.lsub X0.here hx rfl (hb hby d1_19) rfl k) ?_
    show Goes _ _ _ _ _ _ _ (s₁.setTop (mkF m 20 _ [(.long ((9223372036854775807 : Int64) - x0)), (.long (x1 &&& (9223372036854775807 : Int64)))]))
    refine Goes.step (fun _ k => XS.lcmp X0.here hx rfl (hb hby d1_20) rfl k) ?_
    show Goes _ _ _ _ _ _ _ (s₁.setTop (mkF m 21 _ [(.int (lcmpW (x1 &&& (9223372036854775807 : Int64)) ((9223372036854775807 : Int64) - x0)))]))
    by_cases c21_2 : ((9223372036854775807 : Int64) - x0) < (x1 &&& (9223372036854775807 : Int64))
    · refine Goes.step (fun _ k => XS.ifNo X0.here hx rfl (hb hby d1_21) rfl ((if0 _ _).trans (tlt ((lw_gt _ _).mpr c21_2)).2.2.2) k) ?_
      show Goes _ _ _ _ _ _ _ (s₁.setTop (mkF m 24 #[.val (.long x0), .second, .val (.long x1), .second, .val (.long (x1 &&& (9223372036854775807 : Int64))), .second] []))
      refine Goes.step (fun _ k => X0.ldc2Long hx hown (mvT hZ w_5) (g := (mkF m 24 #[.val (.long x0), .second, .val (.long x1), .second, .val (.long (x1 &&& (9223372036854775807 : Int64))), .second] [])) rfl (hb hby d1_24) _ k) ?_
      exact Goes.ret X0 hx (BodyLoose.notSynchronized Bd) Bd.returns rfl (Or.inr (Or.inl ⟨rfl, rfl, _, rfl⟩)) (hb hby d1_27) (by show Q1 Z x0 x1 h0 n0 (some (.long (9223372036854775807 : Int64))) s₁.heap _; rw [e0]; exact ⟨N0, rfl, _, rfl, own_stepM⟩) (by decide) (by decide)
    · refine Goes.step (fun _ k => XS.ifYes X0.here hx rfl (pc0 := 21) (pc' := 28) rfl (hb hby d1_21) rfl ((if0 _ _).trans (flt (fun q => c21_2 ((lw_gt _ _).mp q))).2.2.2) (by decide) (by decide) k) ?_
      show Goes _ _ _ _ _ _ _ (s₁.setTop (mkF m 28 #[.val (.long x0), .second, .val (.long x1), .second, .val (.long (x1 &&& (9223372036854775807 : Int64))), .second] []))
      refine Goes.step (fun _ k => XS.lloadN X0.here hx rfl (hb hby d1_28) rfl  k) ?_
      refine Goes.step (fun _ k => XS.lload X0.here hx rfl (hb hby d1_29) rfl  k) ?_
      refine Goes.step (fun _ k => XS.ladd X0.here hx rfl (hb hby d1_31) rfl k) ?_
      show Goes _ _ _ _ _ _ _ (s₁.setTop (mkF m 32 _ [(.long (x0 + (x1 &&& (9223372036854775807 : Int64))))]))
      exact Goes.ret X0 hx (BodyLoose.notSynchronized Bd) Bd.returns rfl (Or.inr (Or.inl ⟨rfl, rfl, _, rfl⟩)) (hb hby d1_32) (by show Q1 Z x0 x1 h0 n0 (some (.long (x0 + (x1 &&& (9223372036854775807 : Int64))))) s₁.heap _; rw [e0]; exact ⟨N0, rfl, _, rfl, (own_stepB c10_1 c21_2)⟩) (by decide) (by decide)
theorem d6_0 : decode jdk_22_method_1_code 0 = .ok (.aload_n 0, 1) := by decide +kernel
theorem d6_1 : decode jdk_22_method_1_code 1 = .ok (.invokespecial 1, 3) := by decide +kernel
theorem d6_4 : decode jdk_22_method_1_code 4 = .ok (.return_, 1) := by decide +kernel
theorem pn_6 : plainName "java/util/AbstractCollection" = true := by first | (simp [plainName, overriddenIn]; done) | decide +kernel
theorem ef_6 (m : MethodId) (x0 : Addr)  : entryFrame m #[(.ref x0)] 1 = mkF m 0 #[.val (.ref x0)] [] := by first | (simp [entryFrame, mkF, argsToLocals, Value.category]; done) | rfl
def Q6 (Z : State) (x0 : Addr) (h0 : Heap) (n0 : Nat) (v : Option Value) (h : Heap) (L : List Loc) : Prop := Fr n0 L ∧ h = h0 ∧ ((v = none))
set_option maxRecDepth 65536 in
set_option maxHeartbeats 40000000 in
theorem rm6 (l : Launch) (Z : State) (a0 : Array Value) (hw : ∀ d ∈ tables_1, d.before a0 Z = true) (ws : List Jvm.Cond) (x0 : Addr) (h0 : Heap) (n0 : Nat) (Z0 : n0 ≤ h0.size) :
    MetFree l (⟨"java/util/AbstractCollection", "<init>", "()V"⟩ : MethodName) (head1 (Jvm.Cond.code (⟨"java/util/AbstractCollection", "<init>", "()V"⟩ : MethodName) jdk_22_method_1_code 1 none :: ws) ({ frames := 1, cells := 0, slots := 0, locals := 12 } : Room)) (fun a U => a = #[(.ref x0)] ∧ Z.Warmed39 U.vm ∧ U.heap = h0) (fun _ _ _ _ _ => True) (fun _ U o U' => ∃ v L, o = .returned v ∧ Q6 Z x0 h0 n0 v U'.heap L ∧ FrameEnd U o U' L ({ frames := 1, cells := 0, slots := 0, locals := 12 } : Room).cells ({ frames := 1, cells := 0, slots := 0, locals := 12 } : Room).slots) := by
  refine MetFree.of_bodySF (plainFor_of_name pn_6) hisR ?_
  intro p e s m args below meth c s₁ Bd hml0 hP hK
  obtain ⟨rfl, hZ, hh⟩ := hP
  have w_13 := hw _ (List.mem_of_getElem? (i := 13) rfl)
  have w_14 := hw _ (List.mem_of_getElem? (i := 14) rfl)
  have w_37 := hw _ (List.mem_of_getElem? (i := 37) rfl)
  have hx := Bd.exec
  have hby := Bd.bytes
  have hml : c.maxLocals = 1 := hml0
  have hown : s.vm.findClass "java/util/AbstractCollection" = some m.cls := findClass_of_methodNamed Bd.named
  have hnm := (name_of_methodNamed Bd.named Bd.method).1
  have X0 : Stand p l e ({ frames := 1, cells := 0, slots := 0, locals := 12 } : Room) s m #[(.ref x0)] below meth c s₁ [] 0 0 := Stand.of_body Bd
  have e0 : s₁.heap = h0 := by rw [← hh, Bd.state]; rfl
  have N0 := Fr.nil n0
  have K0 : Keep h0 h0 [] := Keep.refl h0 _
  refine (?_ : Goes p e below s ({ frames := 1, cells := 0, slots := 0, locals := 12 } : Room).cells ({ frames := 1, cells := 0, slots := 0, locals := 12 } : Room).slots (fun v h L => Q6 Z x0 h0 n0 v h L) (s₁.setTop (entryFrame m #[(.ref x0)] 1)))
  rw [ef_6 m x0 ]
  show Goes _ _ _ _ _ _ _ (s₁.setTop (mkF m 0 #[.val (.ref x0)] []))
  refine Goes.step (fun _ k => XS.aloadN X0.here hx rfl (hb hby d6_0) rfl rfl k) ?_
  obtain ⟨T1, X1, e1, st1⟩ := initO X0 hx hZ hown w_37 w_13 w_14 e0 (g := (mkF m 1 #[.val (.ref x0)] [(.ref x0)])) rfl (by rw [hml]; rfl) rfl (hb hby d6_1) (by decide) (W := 0) (by show 2 * 0 + _ ≤ _; exact Nat.le_of_eq rfl) (by decide)
  refine Goes.step st1 ?_
  show Goes _ _ _ _ _ _ _ (T1.setTop (mkF m 4 _ []))
  exact Goes.retV X1 hx (BodyLoose.notSynchronized Bd) Bd.returns (hb hby d6_4) (by show Q6 Z x0 h0 n0 none T1.heap _; rw [e1]; exact ⟨N0, rfl, rfl⟩) (by decide) (by decide)
theorem d5_0 : decode jdk_39_method_1_code 0 = .ok (.aload_n 0, 1) := by decide +kernel
theorem d5_1 : decode jdk_39_method_1_code 1 = .ok (.invokespecial 1, 3) := by decide +kernel
theorem d5_4 : decode jdk_39_method_1_code 4 = .ok (.aload_n 0, 1) := by decide +kernel
theorem d5_5 : decode jdk_39_method_1_code 5 = .ok (.iconst 0, 1) := by decide +kernel
theorem d5_6 : decode jdk_39_method_1_code 6 = .ok (.putfield 7, 3) := by decide +kernel
theorem d5_9 : decode jdk_39_method_1_code 9 = .ok (.return_, 1) := by decide +kernel
theorem pn_5 : plainName "java/util/AbstractList" = true := by first | (simp [plainName, overriddenIn]; done) | decide +kernel
theorem ef_5 (m : MethodId) (x0 : Addr) (f0_modCount : Int32)  : entryFrame m #[(.ref x0)] 1 = mkF m 0 #[.val (.ref x0)] [] := by first | (simp [entryFrame, mkF, argsToLocals, Value.category]; done) | rfl
theorem pd_1 : parseMethodDescriptor "()V" = some ⟨[], none⟩ := by decide +kernel
def Q5 (Z : State) (x0 : Addr) (f0_modCount : Int32) (h0 : Heap) (n0 : Nat) (v : Option Value) (h : Heap) (L : List Loc) : Prop := Fr n0 L ∧ Keep h0 h [x0] ∧ ((v = none ∧ Fld Z h x0 "java/util/AbstractList" "modCount" "I" (.int (0 : Int32)) ∧ Fld Z h x0 "java/util/ArrayList" "elementData" "[Ljava/lang/Object;" .null ∧ Fld Z h x0 "java/util/ArrayList" "size" "I" (.int (0 : Int32)) ∧ Exa Z h x0 "java/util/ArrayList"))
set_option maxRecDepth 65536 in
set_option maxHeartbeats 40000000 in
theorem rm5 (l : Launch) (Z : State) (a0 : Array Value) (hw : ∀ d ∈ tables_1, d.before a0 Z = true) (ws : List Jvm.Cond) (x0 : Addr) (f0_modCount : Int32) (h0 : Heap) (n0 : Nat) (Z0 : n0 ≤ h0.size) (F0_modCount : Fld Z h0 x0 "java/util/AbstractList" "modCount" "I" (.int f0_modCount)) (F0_elementData : Fld Z h0 x0 "java/util/ArrayList" "elementData" "[Ljava/lang/Object;" .null) (F0_size : Fld Z h0 x0 "java/util/ArrayList" "size" "I" (.int (0 : Int32))) (E_x0 : Exa Z h0 x0 "java/util/ArrayList") (g_x0 : n0 ≤ x0) :
    MetFree l (⟨"java/util/AbstractList", "<init>", "()V"⟩ : MethodName) (head1 (Jvm.Cond.code (⟨"java/util/AbstractList", "<init>", "()V"⟩ : MethodName) jdk_39_method_1_code 1 none :: ws) ({ frames := 2, cells := 0, slots := 0, locals := 24 } : Room)) (fun a U => a = #[(.ref x0)] ∧ Z.Warmed39 U.vm ∧ U.heap = h0) (fun _ _ _ _ _ => True) (fun _ U o U' => ∃ v L, o = .returned v ∧ Q5 Z x0 f0_modCount h0 n0 v U'.heap L ∧ FrameEnd U o U' L ({ frames := 2, cells := 0, slots := 0, locals := 24 } : Room).cells ({ frames := 2, cells := 0, slots := 0, locals := 24 } : Room).slots) := by
  refine MetFree.of_bodySF (plainFor_of_name pn_5) hisR ?_
  intro p e s m args below meth c s₁ Bd hml0 hP hK
  obtain ⟨rfl, hZ, hh⟩ := hP
  have w_20 := hw _ (List.mem_of_getElem? (i := 20) rfl)
  have w_31 := hw _ (List.mem_of_getElem? (i := 31) rfl)
  have w_32 := hw _ (List.mem_of_getElem? (i := 32) rfl)
  have w_35 := hw _ (List.mem_of_getElem? (i := 35) rfl)
  have w_36 := hw _ (List.mem_of_getElem? (i := 36) rfl)
  have w_38 := hw _ (List.mem_of_getElem? (i := 38) rfl)
  have w_39 := hw _ (List.mem_of_getElem? (i := 39) rfl)
  have w_42 := hw _ (List.mem_of_getElem? (i := 42) rfl)
  have w_88 := hw _ (List.mem_of_getElem? (i := 88) rfl)
  have hx := Bd.exec
  have hby := Bd.bytes
  have hml : c.maxLocals = 1 := hml0
  have hown : s.vm.findClass "java/util/AbstractList" = some m.cls := findClass_of_methodNamed Bd.named
  have hnm := (name_of_methodNamed Bd.named Bd.method).1
  have X0 : Stand p l e ({ frames := 2, cells := 0, slots := 0, locals := 24 } : Room) s m #[(.ref x0)] below meth c s₁ [] 0 0 := Stand.of_body Bd
  have e0 : s₁.heap = h0 := by rw [← hh, Bd.state]; rfl
  have N0 := Fr.nil n0
  have K0 : Keep h0 h0 [x0] := Keep.refl h0 _
  refine (?_ : Goes p e below s ({ frames := 2, cells := 0, slots := 0, locals := 24 } : Room).cells ({ frames := 2, cells := 0, slots := 0, locals := 24 } : Room).slots (fun v h L => Q5 Z x0 f0_modCount h0 n0 v h L) (s₁.setTop (entryFrame m #[(.ref x0)] 1)))
  rw [ef_5 m x0 f0_modCount ]
  show Goes _ _ _ _ _ _ _ (s₁.setTop (mkF m 0 #[.val (.ref x0)] []))
  refine Goes.step (fun _ k => XS.aloadN X0.here hx rfl (hb hby d5_0) rfl rfl k) ?_
  obtain ⟨_, _, ⟨T1, L1, k1, n1⟩, -, X1, ⟨Lc1, hQ1, l1, y1, z1⟩, st1⟩ := X0.specialBack hx (y := (⟨"java/util/AbstractCollection", "<init>", "()V"⟩ : MethodName)) rfl hown (mvT hZ w_31) (mvT hZ w_32) (mvT hZ w_36) (by decide) (backOf (W := 0) (rm6 l Z a0 hw [] x0 h0 n0 Z0 ) hZ w_36 w_35 (by decide) (by decide)) (g := (mkF m 1 #[.val (.ref x0)] [(.ref x0)])) rfl (by rw [hml]; rfl) (Steps.refl _) (a := x0) (argsL := []) (rest := []) (lenOf pd_1 rfl) rfl (by show 2 * 0 + _ ≤ _; exact Nat.le_of_eq rfl) (hb hby d5_1) (fun _ _ => ⟨rfl, e0, (by decide : 0 + 0 ≤ _), (by decide : 0 + 0 ≤ _)⟩)
  dsimp only [Pt.U, Pt.locs, Pt.cells, Pt.slots] at X1 l1 y1 z1 st1 hQ1
  rw [l1, y1, z1] at X1
  obtain ⟨N1, KK1, hR1⟩ := hQ1
  have NA1 := Fr.app N0 N1
  obtain rfl := hR1
  refine Goes.back st1 ?_
  show Goes _ _ _ _ _ _ _ (T1.setTop (mkF m 4 _ []))
  refine Goes.step (fun _ k => XS.aloadN X1.here hx rfl (hb hby d5_4) rfl rfl k) ?_
  refine Goes.step (fun _ k => XS.iconst X1.here hx rfl (hb hby d5_5) k) ?_
  obtain ⟨T2, h2, X2, e2, W2, st2⟩ := putF X1 hx hZ hown (host := "") (Or.inl w_38) Via.refl KK1 F0_modCount E_x0 (Or.inl w_39) w_20 (ty := .int) (by decide) rfl rfl (g := (mkF m 6 #[.val (.ref x0)] [(.int (0 : Int32)), (.ref x0)])) rfl rfl (hb hby d5_6)
  refine Goes.step st2 ?_
  have f3 := F0_modCount.same W2
  have f4 := F0_elementData.other W2 (Or.inr (slot_ne (Or.inl w_42) (Or.inl w_39) (by decide) (t := (.array (.object "java/lang/Object"))) (t' := .int) (by decide) (by decide)))
  have f5 := F0_size.other W2 (Or.inr (slot_ne (Or.inl w_88) (Or.inl w_39) (by decide) (t := .int) (t' := .int) (by decide) (by decide)))
  have f6 := E_x0.wr W2
  have K7 : Keep h0 h2 [x0] := K0.wr W2 (Or.inl (List.mem_of_getElem? (i := 0) rfl))
  have Z7 : n0 ≤ h2.size := by rw [Wr.size W2]; exact Z0
  have N7 := Fr.snoc X2 NA1 g_x0
  show Goes _ _ _ _ _ _ _ (T2.setTop (mkF m 9 _ []))
  exact Goes.retV X2 hx (BodyLoose.notSynchronized Bd) Bd.returns (hb hby d5_9) (by show Q5 Z x0 f0_modCount h0 n0 none T2.heap _; rw [e2]; exact ⟨N7, K7, ⟨rfl, f3, f4, f5, f6⟩⟩) (by decide) (by decide)
theorem d4_0 : decode jdk_38_method_2_code 0 = .ok (.aload_n 0, 1) := by decide +kernel
theorem d4_1 : decode jdk_38_method_2_code 1 = .ok (.invokespecial 1, 3) := by decide +kernel
theorem d4_4 : decode jdk_38_method_2_code 4 = .ok (.aload_n 0, 1) := by decide +kernel
theorem d4_5 : decode jdk_38_method_2_code 5 = .ok (.getstatic 39, 3) := by decide +kernel
theorem d4_8 : decode jdk_38_method_2_code 8 = .ok (.putfield 9, 3) := by decide +kernel
theorem d4_11 : decode jdk_38_method_2_code 11 = .ok (.return_, 1) := by decide +kernel
theorem pn_4 : plainName "java/util/ArrayList" = true := by first | (simp [plainName, overriddenIn]; done) | decide +kernel
theorem ef_4 (m : MethodId) (x0 : Addr) (y_DEFAULTCAPACITY_EMPTY_ELEMENTDATA : Addr) (f0_modCount : Int32)  : entryFrame m #[(.ref x0)] 1 = mkF m 0 #[.val (.ref x0)] [] := by first | (simp [entryFrame, mkF, argsToLocals, Value.category]; done) | rfl
def Q4 (Z : State) (x0 : Addr) (y_DEFAULTCAPACITY_EMPTY_ELEMENTDATA : Addr) (f0_modCount : Int32) (h0 : Heap) (n0 : Nat) (v : Option Value) (h : Heap) (L : List Loc) : Prop := Fr n0 L ∧ Keep h0 h [x0] ∧ ((v = none ∧ Exa Z h x0 "java/util/ArrayList" ∧ Fld Z h x0 "java/util/AbstractList" "modCount" "I" (.int (0 : Int32)) ∧ Fld Z h x0 "java/util/ArrayList" "elementData" "[Ljava/lang/Object;" (.ref y_DEFAULTCAPACITY_EMPTY_ELEMENTDATA) ∧ Fld Z h x0 "java/util/ArrayList" "size" "I" (.int (0 : Int32))))
set_option maxRecDepth 65536 in
set_option maxHeartbeats 40000000 in
theorem rm4 (l : Launch) (Z : State) (a0 : Array Value) (hw : ∀ d ∈ tables_1, d.before a0 Z = true) (ws : List Jvm.Cond) (x0 : Addr) (y_DEFAULTCAPACITY_EMPTY_ELEMENTDATA : Addr) (f0_modCount : Int32) (h0 : Heap) (n0 : Nat) (Z0 : n0 ≤ h0.size) (S_DEFAULTCAPACITY_EMPTY_ELEMENTDATA : Sta Z Z.heap "java/util/ArrayList" "DEFAULTCAPACITY_EMPTY_ELEMENTDATA" "[Ljava/lang/Object;" (.ref y_DEFAULTCAPACITY_EMPTY_ELEMENTDATA)) (X00 : Old Z n0 h0) (F0_modCount : Fld Z h0 x0 "java/util/AbstractList" "modCount" "I" (.int f0_modCount)) (F0_elementData : Fld Z h0 x0 "java/util/ArrayList" "elementData" "[Ljava/lang/Object;" .null) (F0_size : Fld Z h0 x0 "java/util/ArrayList" "size" "I" (.int (0 : Int32))) (E_x0 : Exa Z h0 x0 "java/util/ArrayList") (g_x0 : n0 ≤ x0) :
    MetFree l (⟨"java/util/ArrayList", "<init>", "()V"⟩ : MethodName) (head1 (Jvm.Cond.code (⟨"java/util/ArrayList", "<init>", "()V"⟩ : MethodName) jdk_38_method_2_code 1 none :: ws) ({ frames := 3, cells := 0, slots := 0, locals := 36 } : Room)) (fun a U => a = #[(.ref x0)] ∧ Z.Warmed39 U.vm ∧ U.heap = h0) (fun _ _ _ _ _ => True) (fun _ U o U' => ∃ v L, o = .returned v ∧ Q4 Z x0 y_DEFAULTCAPACITY_EMPTY_ELEMENTDATA f0_modCount h0 n0 v U'.heap L ∧ FrameEnd U o U' L ({ frames := 3, cells := 0, slots := 0, locals := 36 } : Room).cells ({ frames := 3, cells := 0, slots := 0, locals := 36 } : Room).slots) := by
  refine MetFree.of_bodySF (plainFor_of_name pn_4) hisR ?_
  intro p e s m args below meth c s₁ Bd hml0 hP hK
  obtain ⟨rfl, hZ, hh⟩ := hP
  have w_20 := hw _ (List.mem_of_getElem? (i := 20) rfl)
  have w_25 := hw _ (List.mem_of_getElem? (i := 25) rfl)
  have w_26 := hw _ (List.mem_of_getElem? (i := 26) rfl)
  have w_29 := hw _ (List.mem_of_getElem? (i := 29) rfl)
  have w_30 := hw _ (List.mem_of_getElem? (i := 30) rfl)
  have w_39 := hw _ (List.mem_of_getElem? (i := 39) rfl)
  have w_40 := hw _ (List.mem_of_getElem? (i := 40) rfl)
  have w_41 := hw _ (List.mem_of_getElem? (i := 41) rfl)
  have w_42 := hw _ (List.mem_of_getElem? (i := 42) rfl)
  have w_88 := hw _ (List.mem_of_getElem? (i := 88) rfl)
  have hx := Bd.exec
  have hby := Bd.bytes
  have hml : c.maxLocals = 1 := hml0
  have hown : s.vm.findClass "java/util/ArrayList" = some m.cls := findClass_of_methodNamed Bd.named
  have hnm := (name_of_methodNamed Bd.named Bd.method).1
  have X0 : Stand p l e ({ frames := 3, cells := 0, slots := 0, locals := 36 } : Room) s m #[(.ref x0)] below meth c s₁ [] 0 0 := Stand.of_body Bd
  have e0 : s₁.heap = h0 := by rw [← hh, Bd.state]; rfl
  have N0 := Fr.nil n0
  have K0 : Keep h0 h0 [x0] := Keep.refl h0 _
  refine (?_ : Goes p e below s ({ frames := 3, cells := 0, slots := 0, locals := 36 } : Room).cells ({ frames := 3, cells := 0, slots := 0, locals := 36 } : Room).slots (fun v h L => Q4 Z x0 y_DEFAULTCAPACITY_EMPTY_ELEMENTDATA f0_modCount h0 n0 v h L) (s₁.setTop (entryFrame m #[(.ref x0)] 1)))
  rw [ef_4 m x0 y_DEFAULTCAPACITY_EMPTY_ELEMENTDATA f0_modCount ]
  show Goes _ _ _ _ _ _ _ (s₁.setTop (mkF m 0 #[.val (.ref x0)] []))
  refine Goes.step (fun _ k => XS.aloadN X0.here hx rfl (hb hby d4_0) rfl rfl k) ?_
  obtain ⟨_, _, ⟨T1, L1, k1, n1⟩, -, X1, ⟨Lc1, hQ1, l1, y1, z1⟩, st1⟩ := X0.specialBack hx (y := (⟨"java/util/AbstractList", "<init>", "()V"⟩ : MethodName)) rfl hown (mvT hZ w_25) (mvT hZ w_26) (mvT hZ w_30) (by decide) (backOf (W := 0) (rm5 l Z a0 hw [] x0 f0_modCount h0 n0 Z0 F0_modCount F0_elementData F0_size E_x0 g_x0) hZ w_30 w_29 (by decide) (by decide)) (g := (mkF m 1 #[.val (.ref x0)] [(.ref x0)])) rfl (by rw [hml]; rfl) (Steps.refl _) (a := x0) (argsL := []) (rest := []) (lenOf pd_1 rfl) rfl (by show 2 * 0 + _ ≤ _; exact Nat.le_of_eq rfl) (hb hby d4_1) (fun _ _ => ⟨rfl, e0, (by decide : 0 + 0 ≤ _), (by decide : 0 + 0 ≤ _)⟩)
  dsimp only [Pt.U, Pt.locs, Pt.cells, Pt.slots] at X1 l1 y1 z1 st1 hQ1
  rw [l1, y1, z1] at X1
  obtain ⟨N1, KK1, hR1⟩ := hQ1
  have NA1 := Fr.app N0 N1
  have XO2 : Old Z n0 T1.heap := X00.keep KK1 (allS g_x0 all0)
  have f6 := E_x0.keep KK1
  have K7 : Keep h0 T1.heap [x0] := K0.trans KK1 (allS (Or.inl (List.mem_of_getElem? (i := 0) rfl)) all0)
  have Z7 : n0 ≤ T1.heap.size := Nat.le_trans Z0 KK1.1
  obtain ⟨rfl, v1_0_0, v1_0_1, v1_0_2, v1_0_3⟩ := hR1
  refine Goes.back st1 ?_
  show Goes _ _ _ _ _ _ _ (T1.setTop (mkF m 4 _ []))
  refine Goes.step (fun _ k => XS.aloadN X1.here hx rfl (hb hby d4_4) rfl rfl k) ?_
  obtain ⟨T8, X8, e8, st8⟩ := getS2 X1 hx hZ hown (host := "") (Or.inl w_40) Via.refl rfl (S_DEFAULTCAPACITY_EMPTY_ELEMENTDATA.ext XO2.2) (g := (mkF m 5 #[.val (.ref x0)] [(.ref x0)])) rfl (hb hby d4_5)
  refine Goes.step st8 ?_
  show Goes _ _ _ _ _ _ _ (T8.setTop (mkF m 8 _ [(.ref y_DEFAULTCAPACITY_EMPTY_ELEMENTDATA), (.ref x0)]))
  obtain ⟨T9, h9, X9, e9, W9, st9⟩ := putF X8 hx hZ hown (host := "") (Or.inl w_41) Via.refl e8 v1_0_1 v1_0_3 (Or.inl w_42) w_20 (ty := (.array (.object "java/lang/Object"))) (by decide) rfl rfl (g := (mkF m 8 #[.val (.ref x0)] [(.ref y_DEFAULTCAPACITY_EMPTY_ELEMENTDATA), (.ref x0)])) rfl rfl (hb hby d4_8)
  refine Goes.step st9 ?_
  have XO10 : Old Z n0 h9 := XO2.wr W9 g_x0
  have f11 := v1_0_3.wr W9
  have f12 := v1_0_0.other W9 (Or.inr (slot_ne (Or.inl w_39) (Or.inl w_42) (by decide) (t := .int) (t' := (.array (.object "java/lang/Object"))) (by decide) (by decide)))
  have f13 := v1_0_1.same W9
  have f14 := v1_0_2.other W9 (Or.inr (slot_ne (Or.inl w_88) (Or.inl w_42) (by decide) (t := .int) (t' := (.array (.object "java/lang/Object"))) (by decide) (by decide)))
  have K15 : Keep h0 h9 [x0] := K7.wr W9 (Or.inl (List.mem_of_getElem? (i := 0) rfl))
  have Z15 : n0 ≤ h9.size := by rw [Wr.size W9]; exact Z7
  have N15 := Fr.snoc X9 NA1 g_x0
  show Goes _ _ _ _ _ _ _ (T9.setTop (mkF m 11 _ []))
  exact Goes.retV X9 hx (BodyLoose.notSynchronized Bd) Bd.returns (hb hby d4_11) (by show Q4 Z x0 y_DEFAULTCAPACITY_EMPTY_ELEMENTDATA f0_modCount h0 n0 none T9.heap _; rw [e9]; exact ⟨N15, K15, ⟨rfl, f11, f12, f13, f14⟩⟩) (by decide) (by decide)
theorem d2_0 : decode prog_49_method_1_code 0 = .ok (.aload_n 0, 1) := by decide +kernel
theorem d2_1 : decode prog_49_method_1_code 1 = .ok (.invokespecial 3, 3) := by decide +kernel
theorem d2_4 : decode prog_49_method_1_code 4 = .ok (.aload_n 0, 1) := by decide +kernel
theorem d2_5 : decode prog_49_method_1_code 5 = .ok (.bipush 8, 2) := by decide +kernel
theorem d2_7 : decode prog_49_method_1_code 7 = .ok (.anewarray 9, 3) := by decide +kernel
theorem d2_10 : decode prog_49_method_1_code 10 = .ok (.putfield 11, 3) := by decide +kernel
theorem d2_13 : decode prog_49_method_1_code 13 = .ok (.aload_n 0, 1) := by decide +kernel
theorem d2_14 : decode prog_49_method_1_code 14 = .ok (.new 17, 3) := by decide +kernel
theorem d2_17 : decode prog_49_method_1_code 17 = .ok (.dup, 1) := by decide +kernel
theorem d2_18 : decode prog_49_method_1_code 18 = .ok (.invokespecial 19, 3) := by decide +kernel
theorem d2_21 : decode prog_49_method_1_code 21 = .ok (.putfield 20, 3) := by decide +kernel
theorem d2_24 : decode prog_49_method_1_code 24 = .ok (.return_, 1) := by decide +kernel
theorem pn_2 : plainName "com/example/orbitloom/orbitloom/core/Timeline" = true := by first | (simp [plainName, overriddenIn]; done) | decide +kernel
theorem ef_2 (m : MethodId) (x0 : Addr) (y_DEFAULTCAPACITY_EMPTY_ELEMENTDATA : Addr)  : entryFrame m #[(.ref x0)] 1 = mkF m 0 #[.val (.ref x0)] [] := by first | (simp [entryFrame, mkF, argsToLocals, Value.category]; done) | rfl
def Q2 (Z : State) (x0 : Addr) (y_DEFAULTCAPACITY_EMPTY_ELEMENTDATA : Addr) (h0 : Heap) (n0 : Nat) (v : Option Value) (h : Heap) (L : List Loc) : Prop := Fr n0 L ∧ Keep h0 h [x0] ∧ ((∃ (r_0 : Addr) (r_1 : Addr) (k_0 : ClassId), v = none ∧ n0 ≤ r_0 ∧ h0.size ≤ r_0 ∧ n0 ≤ r_1 ∧ h0.size ≤ r_1 ∧ r_1 ≠ r_0 ∧ Fld Z h x0 "com/example/orbitloom/orbitloom/core/Timeline" "entries" "[Lcom/example/orbitloom/orbitloom/core/Timeline$Entry;" (.ref r_0) ∧ Fld Z h x0 "com/example/orbitloom/orbitloom/core/Timeline" "size" "I" (.int (0 : Int32)) ∧ Fld Z h x0 "com/example/orbitloom/orbitloom/core/Timeline" "members" "Ljava/util/List;" (.ref r_1) ∧ Exa Z h x0 "com/example/orbitloom/orbitloom/core/Timeline" ∧ Arv Z h r_0 k_0 (.object "com/example/orbitloom/orbitloom/core/Timeline$Entry") (8 : Int32) [.null, .null, .null, .null, .null, .null, .null, .null] .null ∧ Exa Z h r_1 "java/util/ArrayList" ∧ Fld Z h r_1 "java/util/AbstractList" "modCount" "I" (.int (0 : Int32)) ∧ Fld Z h r_1 "java/util/ArrayList" "elementData" "[Ljava/lang/Object;" (.ref y_DEFAULTCAPACITY_EMPTY_ELEMENTDATA) ∧ Fld Z h r_1 "java/util/ArrayList" "size" "I" (.int (0 : Int32)) ∧ Ovr Z k_0 "com/example/orbitloom/orbitloom/core/Timeline$Entry"))
set_option maxRecDepth 65536 in
set_option maxHeartbeats 40000000 in
theorem rm2 (l : Launch) (Z : State) (a0 : Array Value) (hw : ∀ d ∈ tables_1, d.before a0 Z = true) (ws : List Jvm.Cond) (x0 : Addr) (y_DEFAULTCAPACITY_EMPTY_ELEMENTDATA : Addr) (h0 : Heap) (n0 : Nat) (Z0 : n0 ≤ h0.size) (S_DEFAULTCAPACITY_EMPTY_ELEMENTDATA : Sta Z Z.heap "java/util/ArrayList" "DEFAULTCAPACITY_EMPTY_ELEMENTDATA" "[Ljava/lang/Object;" (.ref y_DEFAULTCAPACITY_EMPTY_ELEMENTDATA)) (X00 : Old Z n0 h0) (F0_entries : Fld Z h0 x0 "com/example/orbitloom/orbitloom/core/Timeline" "entries" "[Lcom/example/orbitloom/orbitloom/core/Timeline$Entry;" .null) (F0_size : Fld Z h0 x0 "com/example/orbitloom/orbitloom/core/Timeline" "size" "I" (.int (0 : Int32))) (F0_members : Fld Z h0 x0 "com/example/orbitloom/orbitloom/core/Timeline" "members" "Ljava/util/List;" .null) (E_x0 : Exa Z h0 x0 "com/example/orbitloom/orbitloom/core/Timeline") (g_x0 : n0 ≤ x0) :
    MetFree l (⟨"com/example/orbitloom/orbitloom/core/Timeline", "<init>", "()V"⟩ : MethodName) (head1 (Jvm.Cond.code (⟨"com/example/orbitloom/orbitloom/core/Timeline", "<init>", "()V"⟩ : MethodName) prog_49_method_1_code 1 none :: ws) ({ frames := 4, cells := 2, slots := 11, locals := 50 } : Room)) (fun a U => a = #[(.ref x0)] ∧ Z.Warmed39 U.vm ∧ U.heap = h0) (fun _ _ _ _ _ => True) (fun _ U o U' => ∃ v L, o = .returned v ∧ Q2 Z x0 y_DEFAULTCAPACITY_EMPTY_ELEMENTDATA h0 n0 v U'.heap L ∧ FrameEnd U o U' L ({ frames := 4, cells := 2, slots := 11, locals := 50 } : Room).cells ({ frames := 4, cells := 2, slots := 11, locals := 50 } : Room).slots) := by
  refine MetFree.of_bodySF (plainFor_of_name pn_2) hisR ?_
  intro p e s m args below meth c s₁ Bd hml0 hP hK
  obtain ⟨rfl, hZ, hh⟩ := hP
  have w_7 := hw _ (List.mem_of_getElem? (i := 7) rfl)
  have w_12 := hw _ (List.mem_of_getElem? (i := 12) rfl)
  have w_13 := hw _ (List.mem_of_getElem? (i := 13) rfl)
  have w_14 := hw _ (List.mem_of_getElem? (i := 14) rfl)
  have w_15 := hw _ (List.mem_of_getElem? (i := 15) rfl)
  have w_16 := hw _ (List.mem_of_getElem? (i := 16) rfl)
  have w_17 := hw _ (List.mem_of_getElem? (i := 17) rfl)
  have w_18 := hw _ (List.mem_of_getElem? (i := 18) rfl)
  have w_19 := hw _ (List.mem_of_getElem? (i := 19) rfl)
  have w_20 := hw _ (List.mem_of_getElem? (i := 20) rfl)
  have w_21 := hw _ (List.mem_of_getElem? (i := 21) rfl)
  have w_22 := hw _ (List.mem_of_getElem? (i := 22) rfl)
  have w_23 := hw _ (List.mem_of_getElem? (i := 23) rfl)
  have w_24 := hw _ (List.mem_of_getElem? (i := 24) rfl)
  have w_39 := hw _ (List.mem_of_getElem? (i := 39) rfl)
  have w_42 := hw _ (List.mem_of_getElem? (i := 42) rfl)
  have w_43 := hw _ (List.mem_of_getElem? (i := 43) rfl)
  have w_44 := hw _ (List.mem_of_getElem? (i := 44) rfl)
  have w_73 := hw _ (List.mem_of_getElem? (i := 73) rfl)
  have w_88 := hw _ (List.mem_of_getElem? (i := 88) rfl)
  have hx := Bd.exec
  have hby := Bd.bytes
  have hml : c.maxLocals = 1 := hml0
  have hown : s.vm.findClass "com/example/orbitloom/orbitloom/core/Timeline" = some m.cls := findClass_of_methodNamed Bd.named
  have hnm := (name_of_methodNamed Bd.named Bd.method).1
  have X0 : Stand p l e ({ frames := 4, cells := 2, slots := 11, locals := 50 } : Room) s m #[(.ref x0)] below meth c s₁ [] 0 0 := Stand.of_body Bd
  have e0 : s₁.heap = h0 := by rw [← hh, Bd.state]; rfl
  have N0 := Fr.nil n0
  have K0 : Keep h0 h0 [x0] := Keep.refl h0 _
  refine (?_ : Goes p e below s ({ frames := 4, cells := 2, slots := 11, locals := 50 } : Room).cells ({ frames := 4, cells := 2, slots := 11, locals := 50 } : Room).slots (fun v h L => Q2 Z x0 y_DEFAULTCAPACITY_EMPTY_ELEMENTDATA h0 n0 v h L) (s₁.setTop (entryFrame m #[(.ref x0)] 1)))
  rw [ef_2 m x0 y_DEFAULTCAPACITY_EMPTY_ELEMENTDATA ]
  show Goes _ _ _ _ _ _ _ (s₁.setTop (mkF m 0 #[.val (.ref x0)] []))
  refine Goes.step (fun _ k => XS.aloadN X0.here hx rfl (hb hby d2_0) rfl rfl k) ?_
  obtain ⟨T1, X1, e1, st1⟩ := initO X0 hx hZ hown w_12 w_13 w_14 e0 (g := (mkF m 1 #[.val (.ref x0)] [(.ref x0)])) rfl (by rw [hml]; rfl) rfl (hb hby d2_1) (by decide) (W := 0) (by show 2 * 0 + _ ≤ _; exact Nat.le_of_eq rfl) (by decide)
  refine Goes.step st1 ?_
  show Goes _ _ _ _ _ _ _ (T1.setTop (mkF m 4 _ []))
  refine Goes.step (fun _ k => XS.aloadN X1.here hx rfl (hb hby d2_4) rfl rfl k) ?_
  refine Goes.step (fun _ k => XS.bipush X1.here hx rfl (hb hby d2_5) k) ?_
  obtain ⟨T2, h2, k2, X2, e2, E2, A2, O2, st2⟩ := newR X1 hx hZ hown w_15 w_16 e1 (g := (mkF m 7 #[.val (.ref x0)] [(.int (8 : Int32)), (.ref x0)])) rfl (hb hby d2_7) rfl (by decide) (cap := 8) (by decide) (by decide) (by decide) (by decide)
  obtain ⟨b2, g2⟩ : ∃ z, z = h0.size := ⟨_, rfl⟩
  rw [← g2] at A2 st2
  refine Goes.step st2 ?_
  have g_b2 : n0 ≤ b2 := Nat.le_trans Z0 (Nat.le_of_eq g2.symm)
  have sz_b2 : h0.size ≤ b2 := Nat.le_trans K0.1 (Nat.le_of_eq g2.symm)
  have ne3 : x0 ≠ b2 := Nat.ne_of_lt (Nat.lt_of_lt_of_le F0_entries.lt (Nat.le_of_eq g2.symm))
  have XO4 : Old Z n0 h2 := X00.ext E2
  have f5 := F0_entries.ext E2
  have f6 := F0_size.ext E2
  have f7 := F0_members.ext E2
  have f8 := E_x0.ext E2
  have K9 : Keep h0 h2 [x0] := K0.ext E2
  have Z9 : n0 ≤ h2.size := Nat.le_trans Z0 E2.1
  have V_b2 : Arv Z h2 b2 k2 (.object "com/example/orbitloom/orbitloom/core/Timeline$Entry") (8 : Int32) [.null, .null, .null, .null, .null, .null, .null, .null] .null := (Arv.new A2 (by decide)).pad (pad_rep [] .null 8)
  show Goes _ _ _ _ _ _ _ (T2.setTop (mkF m 10 _ [(.ref b2), (.ref x0)]))
  obtain ⟨T10, h10, X10, e10, W10, st10⟩ := putF X2 hx hZ hown (host := "") (Or.inl w_17) Via.refl e2 f5 f8 (Or.inl w_18) w_7 (ty := (.array (.object "com/example/orbitloom/orbitloom/core/Timeline$Entry"))) (by decide) rfl rfl (g := (mkF m 10 #[.val (.ref x0)] [(.ref b2), (.ref x0)])) rfl rfl (hb hby d2_10)
  refine Goes.step st10 ?_
  have XO11 : Old Z n0 h10 := XO4.wr W10 g_x0
  have f12 := f5.same W10
  have f13 := f6.other W10 (Or.inr (slot_ne (Or.inl w_73) (Or.inl w_18) (by decide) (t := .int) (t' := (.array (.object "com/example/orbitloom/orbitloom/core/Timeline$Entry"))) (by decide) (by decide)))
  have f14 := f7.other W10 (Or.inr (slot_ne (Or.inr w_44) (Or.inl w_18) (by decide) (t := (.object "java/util/List")) (t' := (.array (.object "com/example/orbitloom/orbitloom/core/Timeline$Entry"))) (by decide) (by decide)))
  have f15 := f8.wr W10
  have f16 := V_b2.other W10 (Ne.symm ne3)
  have K17 : Keep h0 h10 [x0] := K9.wr W10 (Or.inl (List.mem_of_getElem? (i := 0) rfl))
  have Z17 : n0 ≤ h10.size := by rw [Wr.size W10]; exact Z9
  have N17 := Fr.snoc X10 N0 g_x0
  show Goes _ _ _ _ _ _ _ (T10.setTop (mkF m 13 _ []))
  refine Goes.step (fun _ k => XS.aloadN X10.here hx rfl (hb hby d2_13) rfl rfl k) ?_
  obtain ⟨T18, h18, X18, e18, E18, A18, D18, -, st18⟩ := newO X10 hx hZ hown w_19 w_20 w_21 e10 (g := (mkF m 14 #[.val (.ref x0)] [(.ref x0)])) rfl (hb hby d2_14) (by decide) (by decide)
  obtain ⟨b18, g18⟩ : ∃ z, z = h10.size := ⟨_, rfl⟩
  rw [← g18] at A18 D18 st18
  refine Goes.step st18 ?_
  have g_b18 : n0 ≤ b18 := Nat.le_trans Z17 (Nat.le_of_eq g18.symm)
  have sz_b18 : h0.size ≤ b18 := Nat.le_trans K17.1 (Nat.le_of_eq g18.symm)
  have ne19 : x0 ≠ b18 := Nat.ne_of_lt (Nat.lt_of_lt_of_le f12.lt (Nat.le_of_eq g18.symm))
  have ne20 : b2 ≠ b18 := Nat.ne_of_lt (Nat.lt_of_lt_of_le f16.lt (Nat.le_of_eq g18.symm))
  have XO21 : Old Z n0 h18 := XO11.ext E18
  have f22 := f12.ext E18
  have f23 := f13.ext E18
  have f24 := f14.ext E18
  have f25 := f15.ext E18
  have f26 := f16.ext E18
  have K27 : Keep h0 h18 [x0] := K17.ext E18
  have Z27 : n0 ≤ h18.size := Nat.le_trans Z17 E18.1
  have E_b18 := A18
  have F_modCount_b18 : Fld Z h18 b18 "java/util/AbstractList" "modCount" "I" (.int (0 : Int32)) := D18 (Or.inl w_39) (ty := .int) (by decide)
  have F_elementData_b18 : Fld Z h18 b18 "java/util/ArrayList" "elementData" "[Ljava/lang/Object;" .null := D18 (Or.inl w_42) (ty := (.array (.object "java/lang/Object"))) (by decide)
  have F_size_b18 : Fld Z h18 b18 "java/util/ArrayList" "size" "I" (.int (0 : Int32)) := D18 (Or.inl w_88) (ty := .int) (by decide)
  show Goes _ _ _ _ _ _ _ (T18.setTop (mkF m 17 _ [(.ref b18), (.ref x0)]))
  refine Goes.step (fun _ k => XS.dup X18.here hx rfl (hb hby d2_17) rfl rfl k) ?_
  obtain ⟨_, _, ⟨T28, L28, k28, n28⟩, -, X28, ⟨Lc28, hQ28, l28, y28, z28⟩, st28⟩ := X18.specialBack hx (y := (⟨"java/util/ArrayList", "<init>", "()V"⟩ : MethodName)) rfl hown (mvT hZ w_22) (mvT hZ w_23) (mvT hZ w_24) (by decide) (backOf (W := 2) (rm4 l Z a0 hw [] b18 y_DEFAULTCAPACITY_EMPTY_ELEMENTDATA (0 : Int32) h18 n0 Z27 S_DEFAULTCAPACITY_EMPTY_ELEMENTDATA XO21 F_modCount_b18 F_elementData_b18 F_size_b18 E_b18 g_b18) hZ w_24 w_21 (by decide) (by decide)) (g := (mkF m 18 #[.val (.ref x0)] [(.ref b18), (.ref b18), (.ref x0)])) rfl (by rw [hml]; rfl) (Steps.refl _) (a := b18) (argsL := []) (rest := [(.ref b18), (.ref x0)]) (lenOf pd_1 rfl) rfl (by show 2 * 0 + _ ≤ _; exact Nat.le_of_eq rfl) (hb hby d2_18) (fun _ _ => ⟨rfl, e18, (by decide : 2 + 0 ≤ _), (by decide : 11 + 0 ≤ _)⟩)
  dsimp only [Pt.U, Pt.locs, Pt.cells, Pt.slots] at X28 l28 y28 z28 st28 hQ28
  rw [l28, y28, z28] at X28
  obtain ⟨N28, KK28, hR28⟩ := hQ28
  have NA28 := Fr.app N17 N28
  have XO29 : Old Z n0 T28.heap := XO21.keep KK28 (allS g_b18 all0)
  have f30 := f22.keep KK28 (ninS ne19 nin0)
  have f31 := f23.keep KK28 (ninS ne19 nin0)
  have f32 := f24.keep KK28 (ninS ne19 nin0)
  have f33 := f25.keep KK28
  have f34 := f26.keep KK28 (ninS ne20 nin0)
  have f35 := E_b18.keep KK28
  have K39 : Keep h0 T28.heap [x0] := K27.trans KK28 (allS (Or.inr sz_b18) all0)
  have Z39 : n0 ≤ T28.heap.size := Nat.le_trans Z27 KK28.1
  obtain ⟨rfl, v28_0_0, v28_0_1, v28_0_2, v28_0_3⟩ := hR28
  refine Goes.back st28 ?_
  show Goes _ _ _ _ _ _ _ (T28.setTop (mkF m 21 _ [(.ref b18), (.ref x0)]))
  obtain ⟨T40, h40, X40, e40, W40, st40⟩ := putF X28 hx hZ hown (host := "") (Or.inl w_43) Via.refl rfl f32 f33 (Or.inr ⟨w_44, rfl, hnm⟩) w_7 (ty := (.object "java/util/List")) (by decide) rfl rfl (g := (mkF m 21 #[.val (.ref x0)] [(.ref b18), (.ref x0)])) rfl rfl (hb hby d2_21)
  refine Goes.step st40 ?_
  have XO41 : Old Z n0 h40 := XO29.wr W40 g_x0
  have f42 := f30.other W40 (Or.inr (slot_ne (Or.inl w_18) (Or.inr w_44) (by decide) (t := (.array (.object "com/example/orbitloom/orbitloom/core/Timeline$Entry"))) (t' := (.object "java/util/List")) (by decide) (by decide)))
  have f43 := f31.other W40 (Or.inr (slot_ne (Or.inl w_73) (Or.inr w_44) (by decide) (t := .int) (t' := (.object "java/util/List")) (by decide) (by decide)))
  have f44 := f32.same W40
  have f45 := f33.wr W40
  have f46 := f34.other W40 (Ne.symm ne3)
  have f47 := v28_0_0.wr W40
  have f48 := v28_0_1.other W40 (Or.inl (Ne.symm ne19))
  have f49 := v28_0_2.other W40 (Or.inl (Ne.symm ne19))
  have f50 := v28_0_3.other W40 (Or.inl (Ne.symm ne19))
  have K51 : Keep h0 h40 [x0] := K39.wr W40 (Or.inl (List.mem_of_getElem? (i := 0) rfl))
  have Z51 : n0 ≤ h40.size := by rw [Wr.size W40]; exact Z39
  have N51 := Fr.snoc X40 NA28 g_x0
  show Goes _ _ _ _ _ _ _ (T40.setTop (mkF m 24 _ []))
  exact Goes.retV X40 hx (BodyLoose.notSynchronized Bd) Bd.returns (hb hby d2_24) (by show Q2 Z x0 y_DEFAULTCAPACITY_EMPTY_ELEMENTDATA h0 n0 none T40.heap _; rw [e40]; exact ⟨N51, K51, ⟨b2, b18, k2, rfl, g_b2, sz_b2, g_b18, sz_b18, (Ne.symm ne20), f42, f43, f44, f45, f46, f47, f48, f49, f50, O2⟩⟩) (by decide) (by decide)
theorem d8_0 : decode jdk_30_method_1_code 0 = .ok (.aload_n 0, 1) := by decide +kernel
theorem d8_1 : decode jdk_30_method_1_code 1 = .ok (.invokespecial 1, 3) := by decide +kernel
theorem d8_4 : decode jdk_30_method_1_code 4 = .ok (.return_, 1) := by decide +kernel
theorem pn_8 : plainName "java/lang/Record" = true := by first | (simp [plainName, overriddenIn]; done) | decide +kernel
theorem ef_8 (m : MethodId) (x0 : Addr)  : entryFrame m #[(.ref x0)] 1 = mkF m 0 #[.val (.ref x0)] [] := by first | (simp [entryFrame, mkF, argsToLocals, Value.category]; done) | rfl
def Q8 (Z : State) (x0 : Addr) (h0 : Heap) (n0 : Nat) (v : Option Value) (h : Heap) (L : List Loc) : Prop := Fr n0 L ∧ h = h0 ∧ ((v = none))
set_option maxRecDepth 65536 in
set_option maxHeartbeats 40000000 in
theorem rm8 (l : Launch) (Z : State) (a0 : Array Value) (hw : ∀ d ∈ tables_1, d.before a0 Z = true) (ws : List Jvm.Cond) (x0 : Addr) (h0 : Heap) (n0 : Nat) (Z0 : n0 ≤ h0.size) :
    MetFree l (⟨"java/lang/Record", "<init>", "()V"⟩ : MethodName) (head1 (Jvm.Cond.code (⟨"java/lang/Record", "<init>", "()V"⟩ : MethodName) jdk_30_method_1_code 1 none :: ws) ({ frames := 1, cells := 0, slots := 0, locals := 12 } : Room)) (fun a U => a = #[(.ref x0)] ∧ Z.Warmed39 U.vm ∧ U.heap = h0) (fun _ _ _ _ _ => True) (fun _ U o U' => ∃ v L, o = .returned v ∧ Q8 Z x0 h0 n0 v U'.heap L ∧ FrameEnd U o U' L ({ frames := 1, cells := 0, slots := 0, locals := 12 } : Room).cells ({ frames := 1, cells := 0, slots := 0, locals := 12 } : Room).slots) := by
  refine MetFree.of_bodySF (plainFor_of_name pn_8) hisR ?_
  intro p e s m args below meth c s₁ Bd hml0 hP hK
  obtain ⟨rfl, hZ, hh⟩ := hP
  have w_13 := hw _ (List.mem_of_getElem? (i := 13) rfl)
  have w_14 := hw _ (List.mem_of_getElem? (i := 14) rfl)
  have w_58 := hw _ (List.mem_of_getElem? (i := 58) rfl)
  have hx := Bd.exec
  have hby := Bd.bytes
  have hml : c.maxLocals = 1 := hml0
  have hown : s.vm.findClass "java/lang/Record" = some m.cls := findClass_of_methodNamed Bd.named
  have hnm := (name_of_methodNamed Bd.named Bd.method).1
  have X0 : Stand p l e ({ frames := 1, cells := 0, slots := 0, locals := 12 } : Room) s m #[(.ref x0)] below meth c s₁ [] 0 0 := Stand.of_body Bd
  have e0 : s₁.heap = h0 := by rw [← hh, Bd.state]; rfl
  have N0 := Fr.nil n0
  have K0 : Keep h0 h0 [] := Keep.refl h0 _
  refine (?_ : Goes p e below s ({ frames := 1, cells := 0, slots := 0, locals := 12 } : Room).cells ({ frames := 1, cells := 0, slots := 0, locals := 12 } : Room).slots (fun v h L => Q8 Z x0 h0 n0 v h L) (s₁.setTop (entryFrame m #[(.ref x0)] 1)))
  rw [ef_8 m x0 ]
  show Goes _ _ _ _ _ _ _ (s₁.setTop (mkF m 0 #[.val (.ref x0)] []))
  refine Goes.step (fun _ k => XS.aloadN X0.here hx rfl (hb hby d8_0) rfl rfl k) ?_
  obtain ⟨T1, X1, e1, st1⟩ := initO X0 hx hZ hown w_58 w_13 w_14 e0 (g := (mkF m 1 #[.val (.ref x0)] [(.ref x0)])) rfl (by rw [hml]; rfl) rfl (hb hby d8_1) (by decide) (W := 0) (by show 2 * 0 + _ ≤ _; exact Nat.le_of_eq rfl) (by decide)
  refine Goes.step st1 ?_
  show Goes _ _ _ _ _ _ _ (T1.setTop (mkF m 4 _ []))
  exact Goes.retV X1 hx (BodyLoose.notSynchronized Bd) Bd.returns (hb hby d8_4) (by show Q8 Z x0 h0 n0 none T1.heap _; rw [e1]; exact ⟨N0, rfl, rfl⟩) (by decide) (by decide)
theorem d7_0 : decode prog_50_method_1_code 0 = .ok (.aload_n 0, 1) := by decide +kernel
theorem d7_1 : decode prog_50_method_1_code 1 = .ok (.invokespecial 1, 3) := by decide +kernel
theorem d7_4 : decode prog_50_method_1_code 4 = .ok (.aload_n 0, 1) := by decide +kernel
theorem d7_5 : decode prog_50_method_1_code 5 = .ok (.lload_n 1, 1) := by decide +kernel
theorem d7_6 : decode prog_50_method_1_code 6 = .ok (.putfield 7, 3) := by decide +kernel
theorem d7_9 : decode prog_50_method_1_code 9 = .ok (.aload_n 0, 1) := by decide +kernel
theorem d7_10 : decode prog_50_method_1_code 10 = .ok (.lload_n 3, 1) := by decide +kernel
theorem d7_11 : decode prog_50_method_1_code 11 = .ok (.putfield 13, 3) := by decide +kernel
theorem d7_14 : decode prog_50_method_1_code 14 = .ok (.aload_n 0, 1) := by decide +kernel
theorem d7_15 : decode prog_50_method_1_code 15 = .ok (.aload 5, 2) := by decide +kernel
theorem d7_17 : decode prog_50_method_1_code 17 = .ok (.putfield 16, 3) := by decide +kernel
theorem d7_20 : decode prog_50_method_1_code 20 = .ok (.aload_n 0, 1) := by decide +kernel
theorem d7_21 : decode prog_50_method_1_code 21 = .ok (.iload 6, 2) := by decide +kernel
theorem d7_23 : decode prog_50_method_1_code 23 = .ok (.putfield 20, 3) := by decide +kernel
theorem d7_26 : decode prog_50_method_1_code 26 = .ok (.return_, 1) := by decide +kernel
theorem pn_7 : plainName "com/example/orbitloom/orbitloom/core/Timeline$Entry" = true := by first | (simp [plainName, overriddenIn]; done) | decide +kernel
theorem ef_7 (m : MethodId) (x0 : Addr) (x1 : Int64) (x2 : Int64) (x4 : Int32)  : entryFrame m #[(.ref x0), (.long x1), (.long x2), .null, (.int x4)] 7 = mkF m 0 #[.val (.ref x0), .val (.long x1), .second, .val (.long x2), .second, .val .null, .val (.int x4)] [] := by first | (simp [entryFrame, mkF, argsToLocals, Value.category]; done) | rfl
def Q7 (Z : State) (x0 : Addr) (x1 : Int64) (x2 : Int64) (x4 : Int32) (h0 : Heap) (n0 : Nat) (v : Option Value) (h : Heap) (L : List Loc) : Prop := Fr n0 L ∧ Keep h0 h [x0] ∧ ((v = none ∧ Fld Z h x0 "com/example/orbitloom/orbitloom/core/Timeline$Entry" "start" "J" (.long x1) ∧ Exa Z h x0 "com/example/orbitloom/orbitloom/core/Timeline$Entry"))
set_option maxRecDepth 65536 in
set_option maxHeartbeats 40000000 in
theorem rm7 (l : Launch) (Z : State) (a0 : Array Value) (hw : ∀ d ∈ tables_1, d.before a0 Z = true) (ws : List Jvm.Cond) (x0 : Addr) (x1 : Int64) (x2 : Int64) (x4 : Int32) (h0 : Heap) (n0 : Nat) (Z0 : n0 ≤ h0.size) (F0_start : Fld Z h0 x0 "com/example/orbitloom/orbitloom/core/Timeline$Entry" "start" "J" (.long (0 : Int64))) (F0_end : Fld Z h0 x0 "com/example/orbitloom/orbitloom/core/Timeline$Entry" "end" "J" (.long (0 : Int64))) (F0_attitude : Fld Z h0 x0 "com/example/orbitloom/orbitloom/core/Timeline$Entry" "attitude" "Lcom/example/orbitloom/orbitloom/core/Attitude;" .null) (F0_rev : Fld Z h0 x0 "com/example/orbitloom/orbitloom/core/Timeline$Entry" "rev" "I" (.int (0 : Int32))) (E_x0 : Exa Z h0 x0 "com/example/orbitloom/orbitloom/core/Timeline$Entry") (g_x0 : n0 ≤ x0) :
    MetFree l (⟨"com/example/orbitloom/orbitloom/core/Timeline$Entry", "<init>", "(JJLcom/example/orbitloom/orbitloom/core/Attitude;I)V"⟩ : MethodName) (head1 (Jvm.Cond.code (⟨"com/example/orbitloom/orbitloom/core/Timeline$Entry", "<init>", "(JJLcom/example/orbitloom/orbitloom/core/Attitude;I)V"⟩ : MethodName) prog_50_method_1_code 7 none :: ws) ({ frames := 2, cells := 0, slots := 0, locals := 24 } : Room)) (fun a U => a = #[(.ref x0), (.long x1), (.long x2), .null, (.int x4)] ∧ Z.Warmed39 U.vm ∧ U.heap = h0) (fun _ _ _ _ _ => True) (fun _ U o U' => ∃ v L, o = .returned v ∧ Q7 Z x0 x1 x2 x4 h0 n0 v U'.heap L ∧ FrameEnd U o U' L ({ frames := 2, cells := 0, slots := 0, locals := 24 } : Room).cells ({ frames := 2, cells := 0, slots := 0, locals := 24 } : Room).slots) := by
  refine MetFree.of_bodySF (plainFor_of_name pn_7) hisR ?_
  intro p e s m args below meth c s₁ Bd hml0 hP hK
  obtain ⟨rfl, hZ, hh⟩ := hP
  have w_48 := hw _ (List.mem_of_getElem? (i := 48) rfl)
  have w_53 := hw _ (List.mem_of_getElem? (i := 53) rfl)
  have w_54 := hw _ (List.mem_of_getElem? (i := 54) rfl)
  have w_56 := hw _ (List.mem_of_getElem? (i := 56) rfl)
  have w_57 := hw _ (List.mem_of_getElem? (i := 57) rfl)
  have w_59 := hw _ (List.mem_of_getElem? (i := 59) rfl)
  have w_60 := hw _ (List.mem_of_getElem? (i := 60) rfl)
  have w_61 := hw _ (List.mem_of_getElem? (i := 61) rfl)
  have w_62 := hw _ (List.mem_of_getElem? (i := 62) rfl)
  have w_63 := hw _ (List.mem_of_getElem? (i := 63) rfl)
  have w_64 := hw _ (List.mem_of_getElem? (i := 64) rfl)
  have w_65 := hw _ (List.mem_of_getElem? (i := 65) rfl)
  have w_66 := hw _ (List.mem_of_getElem? (i := 66) rfl)
  have hx := Bd.exec
  have hby := Bd.bytes
  have hml : c.maxLocals = 7 := hml0
  have hown : s.vm.findClass "com/example/orbitloom/orbitloom/core/Timeline$Entry" = some m.cls := findClass_of_methodNamed Bd.named
  have hnm := (name_of_methodNamed Bd.named Bd.method).1
  have X0 : Stand p l e ({ frames := 2, cells := 0, slots := 0, locals := 24 } : Room) s m #[(.ref x0), (.long x1), (.long x2), .null, (.int x4)] below meth c s₁ [] 0 0 := Stand.of_body Bd
  have e0 : s₁.heap = h0 := by rw [← hh, Bd.state]; rfl
  have N0 := Fr.nil n0
  have K0 : Keep h0 h0 [x0] := Keep.refl h0 _
  refine (?_ : Goes p e below s ({ frames := 2, cells := 0, slots := 0, locals := 24 } : Room).cells ({ frames := 2, cells := 0, slots := 0, locals := 24 } : Room).slots (fun v h L => Q7 Z x0 x1 x2 x4 h0 n0 v h L) (s₁.setTop (entryFrame m #[(.ref x0), (.long x1), (.long x2), .null, (.int x4)] 7)))
  rw [ef_7 m x0 x1 x2 x4 ]
  show Goes _ _ _ _ _ _ _ (s₁.setTop (mkF m 0 #[.val (.ref x0), .val (.long x1), .second, .val (.long x2), .second, .val .null, .val (.int x4)] []))
  refine Goes.step (fun _ k => XS.aloadN X0.here hx rfl (hb hby d7_0) rfl rfl k) ?_
  obtain ⟨_, _, ⟨T1, L1, k1, n1⟩, -, X1, ⟨Lc1, hQ1, l1, y1, z1⟩, st1⟩ := X0.specialBack hx (y := (⟨"java/lang/Record", "<init>", "()V"⟩ : MethodName)) rfl hown (mvT hZ w_53) (mvT hZ w_54) (mvT hZ w_57) (by decide) (backOf (W := 0) (rm8 l Z a0 hw [] x0 h0 n0 Z0 ) hZ w_57 w_56 (by decide) (by decide)) (g := (mkF m 1 #[.val (.ref x0), .val (.long x1), .second, .val (.long x2), .second, .val .null, .val (.int x4)] [(.ref x0)])) rfl (by rw [hml]; rfl) (Steps.refl _) (a := x0) (argsL := []) (rest := []) (lenOf pd_1 rfl) rfl (by show 2 * 0 + _ ≤ _; exact Nat.le_of_eq rfl) (hb hby d7_1) (fun _ _ => ⟨rfl, e0, (by decide : 0 + 0 ≤ _), (by decide : 0 + 0 ≤ _)⟩)
  dsimp only [Pt.U, Pt.locs, Pt.cells, Pt.slots] at X1 l1 y1 z1 st1 hQ1
  rw [l1, y1, z1] at X1
  obtain ⟨N1, eh1, hR1⟩ := hQ1
  have NA1 := Fr.app N0 N1
  obtain rfl := hR1
  refine Goes.back st1 ?_
  show Goes _ _ _ _ _ _ _ (T1.setTop (mkF m 4 _ []))
  refine Goes.step (fun _ k => XS.aloadN X1.here hx rfl (hb hby d7_4) rfl rfl k) ?_
  refine Goes.step (fun _ k => XS.lloadN X1.here hx rfl (hb hby d7_5) rfl  k) ?_
  obtain ⟨T2, h2, X2, e2, W2, st2⟩ := putF X1 hx hZ hown (host := "") (Or.inl w_59) Via.refl eh1 F0_start E_x0 (Or.inr ⟨w_60, rfl, hnm⟩) w_48 (ty := .long) (by decide) rfl rfl (g := (mkF m 6 #[.val (.ref x0), .val (.long x1), .second, .val (.long x2), .second, .val .null, .val (.int x4)] [(.long x1), (.ref x0)])) rfl rfl (hb hby d7_6)
  refine Goes.step st2 ?_
  have f3 := F0_start.same W2
  have f4 := F0_end.other W2 (Or.inr (slot_ne (Or.inr w_62) (Or.inr w_60) (by decide) (t := .long) (t' := .long) (by decide) (by decide)))
  have f5 := F0_attitude.other W2 (Or.inr (slot_ne (Or.inr w_64) (Or.inr w_60) (by decide) (t := (.object "com/example/orbitloom/orbitloom/core/Attitude")) (t' := .long) (by decide) (by decide)))
  have f6 := F0_rev.other W2 (Or.inr (slot_ne (Or.inr w_66) (Or.inr w_60) (by decide) (t := .int) (t' := .long) (by decide) (by decide)))
  have f7 := E_x0.wr W2
  have K8 : Keep h0 h2 [x0] := K0.wr W2 (Or.inl (List.mem_of_getElem? (i := 0) rfl))
  have Z8 : n0 ≤ h2.size := by rw [Wr.size W2]; exact Z0
  have N8 := Fr.snoc X2 NA1 g_x0
  show Goes _ _ _ _ _ _ _ (T2.setTop (mkF m 9 _ []))
  refine Goes.step (fun _ k => XS.aloadN X2.here hx rfl (hb hby d7_9) rfl rfl k) ?_
  refine Goes.step (fun _ k => XS.lloadN X2.here hx rfl (hb hby d7_10) rfl  k) ?_
  obtain ⟨T9, h9, X9, e9, W9, st9⟩ := putF X2 hx hZ hown (host := "") (Or.inl w_61) Via.refl e2 f4 f7 (Or.inr ⟨w_62, rfl, hnm⟩) w_48 (ty := .long) (by decide) rfl rfl (g := (mkF m 11 #[.val (.ref x0), .val (.long x1), .second, .val (.long x2), .second, .val .null, .val (.int x4)] [(.long x2), (.ref x0)])) rfl rfl (hb hby d7_11)
  refine Goes.step st9 ?_
  have f10 := f3.other W9 (Or.inr (slot_ne (Or.inr w_60) (Or.inr w_62) (by decide) (t := .long) (t' := .long) (by decide) (by decide)))
  have f11 := f4.same W9
  have f12 := f5.other W9 (Or.inr (slot_ne (Or.inr w_64) (Or.inr w_62) (by decide) (t := (.object "com/example/orbitloom/orbitloom/core/Attitude")) (t' := .long) (by decide) (by decide)))
  have f13 := f6.other W9 (Or.inr (slot_ne (Or.inr w_66) (Or.inr w_62) (by decide) (t := .int) (t' := .long) (by decide) (by decide)))
  have f14 := f7.wr W9
  have K15 : Keep h0 h9 [x0] := K8.wr W9 (Or.inl (List.mem_of_getElem? (i := 0) rfl))
  have Z15 : n0 ≤ h9.size := by rw [Wr.size W9]; exact Z8
  have N15 := Fr.snoc X9 N8 g_x0
  show Goes _ _ _ _ _ _ _ (T9.setTop (mkF m 14 _ []))
  refine Goes.step (fun _ k => XS.aloadN X9.here hx rfl (hb hby d7_14) rfl rfl k) ?_
  refine Goes.step (fun _ k => XS.aload X9.here hx rfl (hb hby d7_15) rfl rfl k) ?_
  obtain ⟨T16, h16, X16, e16, W16, st16⟩ := putF X9 hx hZ hown (host := "") (Or.inl w_63) Via.refl e9 f12 f14 (Or.inr ⟨w_64, rfl, hnm⟩) w_48 (ty := (.object "com/example/orbitloom/orbitloom/core/Attitude")) (by decide) rfl rfl (g := (mkF m 17 #[.val (.ref x0), .val (.long x1), .second, .val (.long x2), .second, .val .null, .val (.int x4)] [.null, (.ref x0)])) rfl rfl (hb hby d7_17)
  refine Goes.step st16 ?_
  have f17 := f10.other W16 (Or.inr (slot_ne (Or.inr w_60) (Or.inr w_64) (by decide) (t := .long) (t' := (.object "com/example/orbitloom/orbitloom/core/Attitude")) (by decide) (by decide)))
  have f18 := f11.other W16 (Or.inr (slot_ne (Or.inr w_62) (Or.inr w_64) (by decide) (t := .long) (t' := (.object "com/example/orbitloom/orbitloom/core/Attitude")) (by decide) (by decide)))
  have f19 := f12.same W16
  have f20 := f13.other W16 (Or.inr (slot_ne (Or.inr w_66) (Or.inr w_64) (by decide) (t := .int) (t' := (.object "com/example/orbitloom/orbitloom/core/Attitude")) (by decide) (by decide)))
  have f21 := f14.wr W16
  have K22 : Keep h0 h16 [x0] := K15.wr W16 (Or.inl (List.mem_of_getElem? (i := 0) rfl))
  have Z22 : n0 ≤ h16.size := by rw [Wr.size W16]; exact Z15
  have N22 := Fr.snoc X16 N15 g_x0
  show Goes _ _ _ _ _ _ _ (T16.setTop (mkF m 20 _ []))
  refine Goes.step (fun _ k => XS.aloadN X16.here hx rfl (hb hby d7_20) rfl rfl k) ?_
  refine Goes.step (fun _ k => XS.iload X16.here hx rfl (hb hby d7_21) rfl  k) ?_
  obtain ⟨T23, h23, X23, e23, W23, st23⟩ := putF X16 hx hZ hown (host := "") (Or.inl w_65) Via.refl e16 f20 f21 (Or.inr ⟨w_66, rfl, hnm⟩) w_48 (ty := .int) (by decide) rfl rfl (g := (mkF m 23 #[.val (.ref x0), .val (.long x1), .second, .val (.long x2), .second, .val .null, .val (.int x4)] [(.int x4), (.ref x0)])) rfl rfl (hb hby d7_23)
  refine Goes.step st23 ?_
  have f24 := f17.other W23 (Or.inr (slot_ne (Or.inr w_60) (Or.inr w_66) (by decide) (t := .long) (t' := .int) (by decide) (by decide)))
  have f25 := f18.other W23 (Or.inr (slot_ne (Or.inr w_62) (Or.inr w_66) (by decide) (t := .long) (t' := .int) (by decide) (by decide)))
  have f26 := f19.other W23 (Or.inr (slot_ne (Or.inr w_64) (Or.inr w_66) (by decide) (t := (.object "com/example/orbitloom/orbitloom/core/Attitude")) (t' := .int) (by decide) (by decide)))
  have f27 := f20.same W23
  have f28 := f21.wr W23
  have K29 : Keep h0 h23 [x0] := K22.wr W23 (Or.inl (List.mem_of_getElem? (i := 0) rfl))
  have Z29 : n0 ≤ h23.size := by rw [Wr.size W23]; exact Z22
  have N29 := Fr.snoc X23 N22 g_x0
  show Goes _ _ _ _ _ _ _ (T23.setTop (mkF m 26 _ []))
  exact Goes.retV X23 hx (BodyLoose.notSynchronized Bd) Bd.returns (hb hby d7_26) (by show Q7 Z x0 x1 x2 x4 h0 n0 none T23.heap _; rw [e23]; exact ⟨N29, K29, ⟨rfl, f24, f28⟩⟩) (by decide) (by decide)
theorem d14_0 : decode jdk_29_method_69_code 0 = .ok (.iload_n 0, 1) := by decide +kernel
theorem d14_1 : decode jdk_29_method_69_code 1 = .ok (.iload_n 1, 1) := by decide +kernel
theorem d14_2 : decode jdk_29_method_69_code 2 = .ok (.if_icmp .gt 7, 3) := by decide +kernel
theorem d14_5 : decode jdk_29_method_69_code 5 = .ok (.iload_n 0, 1) := by decide +kernel
theorem d14_6 : decode jdk_29_method_69_code 6 = .ok (.goto 4, 3) := by decide +kernel
theorem d14_9 : decode jdk_29_method_69_code 9 = .ok (.iload_n 1, 1) := by decide +kernel
theorem d14_10 : decode jdk_29_method_69_code 10 = .ok (.ireturn, 1) := by decide +kernel
theorem ef_14 (m : MethodId) (x0 : Int32) (x1 : Int32)  : entryFrame m #[(.int x0), (.int x1)] 2 = mkF m 0 #[.val (.int x0), .val (.int x1)] [] := by first | (simp [entryFrame, mkF, argsToLocals, Value.category]; done) | rfl
def Q14 (Z : State) (x0 : Int32) (x1 : Int32) (h0 : Heap) (n0 : Nat) (v : Option Value) (h : Heap) (L : List Loc) : Prop := Fr n0 L ∧ h = h0 ∧ ((v = some (.int x1) ∧ x1 < x0) ∨ (v = some (.int x0) ∧ ¬ (x1 < x0)))
set_option maxRecDepth 65536 in
set_option maxHeartbeats 40000000 in
theorem rm14 (l : Launch) (Z : State) (a0 : Array Value) (hw : ∀ d ∈ tables_1, d.before a0 Z = true) (ws : List Jvm.Cond) (x0 : Int32) (x1 : Int32) (h0 : Heap) (n0 : Nat) (Z0 : n0 ≤ h0.size) :
    MetFree l (⟨"java/lang/Math", "min", "(II)I"⟩ : MethodName) (head1 (Jvm.Cond.code (⟨"java/lang/Math", "min", "(II)I"⟩ : MethodName) jdk_29_method_69_code 2 (some .int) :: ws) ({ frames := 0, cells := 0, slots := 0, locals := 0 } : Room)) (fun a U => a = #[(.int x0), (.int x1)] ∧ Z.Warmed39 U.vm ∧ U.heap = h0) (fun _ _ _ _ _ => True) (fun _ U o U' => ∃ v L, o = .returned v ∧ Q14 Z x0 x1 h0 n0 v U'.heap L ∧ FrameEnd U o U' L ({ frames := 0, cells := 0, slots := 0, locals := 0 } : Room).cells ({ frames := 0, cells := 0, slots := 0, locals := 0 } : Room).slots) := by
  refine MetFree.of_bodySF (Jvm.Free.JP.mathPlain rfl (by decide +kernel)) hisR ?_
  intro p e s m args below meth c s₁ Bd hml0 hP hK
  obtain ⟨rfl, hZ, hh⟩ := hP
  have hx := Bd.exec
  have hby := Bd.bytes
  have hml : c.maxLocals = 2 := hml0
  have hown : s.vm.findClass "java/lang/Math" = some m.cls := findClass_of_methodNamed Bd.named
  have hnm := (name_of_methodNamed Bd.named Bd.method).1
  have X0 : Stand p l e ({ frames := 0, cells := 0, slots := 0, locals := 0 } : Room) s m #[(.int x0), (.int x1)] below meth c s₁ [] 0 0 := Stand.of_body Bd
  have e0 : s₁.heap = h0 := by rw [← hh, Bd.state]; rfl
  have N0 := Fr.nil n0
  have K0 : Keep h0 h0 [] := Keep.refl h0 _
  refine (?_ : Goes p e below s ({ frames := 0, cells := 0, slots := 0, locals := 0 } : Room).cells ({ frames := 0, cells := 0, slots := 0, locals := 0 } : Room).slots (fun v h L => Q14 Z x0 x1 h0 n0 v h L) (s₁.setTop (entryFrame m #[(.int x0), (.int x1)] 2)))
  rw [ef_14 m x0 x1 ]
  show Goes _ _ _ _ _ _ _ (s₁.setTop (mkF m 0 #[.val (.int x0), .val (.int x1)] []))
  refine Goes.step (fun _ k => XS.iloadN X0.here hx rfl (hb hby d14_0) rfl  k) ?_
  refine Goes.step (fun _ k => XS.iloadN X0.here hx rfl (hb hby d14_1) rfl  k) ?_
  by_cases c2_1 : x1 < x0
  · refine Goes.step (fun _ k => XS.icmpYes X0.here hx rfl (pc0 := 2) (pc' := 9) rfl (hb hby d14_2) rfl (tlt c2_1).2.2.1 (by decide) (by decide) k) ?_
    show Goes _ _ _ _ _ _ _ (s₁.setTop (mkF m 9 _ []))
    refine Goes.step (fun _ k => XS.iloadN X0.here hx rfl (hb hby d14_9) rfl  k) ?_
    exact Goes.ret X0 hx (BodyLoose.notSynchronized Bd) Bd.returns rfl (Or.inl ⟨rfl, by simp, _, rfl⟩) (hb hby d14_10) (by show Q14 Z x0 x1 h0 n0 (some (.int x1)) s₁.heap _; rw [e0]; exact ⟨N0, rfl, Or.inl (⟨rfl, c2_1⟩)⟩) (by decide) (by decide)
  · refine Goes.step (fun _ k => XS.icmpNo X0.here hx rfl (hb hby d14_2) rfl (flt c2_1).2.2.1 k) ?_
    show Goes _ _ _ _ _ _ _ (s₁.setTop (mkF m 5 _ []))
    refine Goes.step (fun _ k => XS.iloadN X0.here hx rfl (hb hby d14_5) rfl  k) ?_
    refine Goes.step (fun _ k => XS.goto X0.here hx rfl (pc0 := 6) (pc' := 10) rfl (hb hby d14_6) (by decide) (by decide) k) ?_
    show Goes _ _ _ _ _ _ _ (s₁.setTop (mkF m 10 _ [(.int x0)]))
    exact Goes.ret X0 hx (BodyLoose.notSynchronized Bd) Bd.returns rfl (Or.inl ⟨rfl, by simp, _, rfl⟩) (hb hby d14_10) (by show Q14 Z x0 x1 h0 n0 (some (.int x0)) s₁.heap _; rw [e0]; exact ⟨N0, rfl, Or.inr (⟨rfl, c2_1⟩)⟩) (by decide) (by decide)
theorem d19_0 : decode jdk_29_method_65_code 0 = .ok (.iload_n 0, 1) := by decide +kernel
theorem d19_1 : decode jdk_29_method_65_code 1 = .ok (.iload_n 1, 1) := by decide +kernel
theorem d19_2 : decode jdk_29_method_65_code 2 = .ok (.if_icmp .lt 7, 3) := by decide +kernel
theorem d19_5 : decode jdk_29_method_65_code 5 = .ok (.iload_n 0, 1) := by decide +kernel
theorem d19_6 : decode jdk_29_method_65_code 6 = .ok (.goto 4, 3) := by decide +kernel
theorem d19_9 : decode jdk_29_method_65_code 9 = .ok (.iload_n 1, 1) := by decide +kernel
theorem d19_10 : decode jdk_29_method_65_code 10 = .ok (.ireturn, 1) := by decide +kernel
theorem ef_19 (m : MethodId) (x0 : Int32) (x1 : Int32)  : entryFrame m #[(.int x0), (.int x1)] 2 = mkF m 0 #[.val (.int x0), .val (.int x1)] [] := by first | (simp [entryFrame, mkF, argsToLocals, Value.category]; done) | rfl
def Q19 (Z : State) (x0 : Int32) (x1 : Int32) (h0 : Heap) (n0 : Nat) (v : Option Value) (h : Heap) (L : List Loc) : Prop := Fr n0 L ∧ h = h0 ∧ ((v = some (.int x1) ∧ x0 < x1) ∨ (v = some (.int x0) ∧ ¬ (x0 < x1)))
set_option maxRecDepth 65536 in
set_option maxHeartbeats 40000000 in
theorem rm19 (l : Launch) (Z : State) (a0 : Array Value) (hw : ∀ d ∈ tables_1, d.before a0 Z = true) (ws : List Jvm.Cond) (x0 : Int32) (x1 : Int32) (h0 : Heap) (n0 : Nat) (Z0 : n0 ≤ h0.size) :
    MetFree l (⟨"java/lang/Math", "max", "(II)I"⟩ : MethodName) (head1 (Jvm.Cond.code (⟨"java/lang/Math", "max", "(II)I"⟩ : MethodName) jdk_29_method_65_code 2 (some .int) :: ws) ({ frames := 0, cells := 0, slots := 0, locals := 0 } : Room)) (fun a U => a = #[(.int x0), (.int x1)] ∧ Z.Warmed39 U.vm ∧ U.heap = h0) (fun _ _ _ _ _ => True) (fun _ U o U' => ∃ v L, o = .returned v ∧ Q19 Z x0 x1 h0 n0 v U'.heap L ∧ FrameEnd U o U' L ({ frames := 0, cells := 0, slots := 0, locals := 0 } : Room).cells ({ frames := 0, cells := 0, slots := 0, locals := 0 } : Room).slots) := by
  refine MetFree.of_bodySF (Jvm.Free.JP.mathPlain rfl (by decide +kernel)) hisR ?_
  intro p e s m args below meth c s₁ Bd hml0 hP hK
  obtain ⟨rfl, hZ, hh⟩ := hP
  have hx := Bd.exec
  have hby := Bd.bytes
  have hml : c.maxLocals = 2 := hml0
  have hown : s.vm.findClass "java/lang/Math" = some m.cls := findClass_of_methodNamed Bd.named
  have hnm := (name_of_methodNamed Bd.named Bd.method).1
  have X0 : Stand p l e ({ frames := 0, cells := 0, slots := 0, locals := 0 } : Room) s m #[(.int x0), (.int x1)] below meth c s₁ [] 0 0 := Stand.of_body Bd
  have e0 : s₁.heap = h0 := by rw [← hh, Bd.state]; rfl
  have N0 := Fr.nil n0
  have K0 : Keep h0 h0 [] := Keep.refl h0 _
  refine (?_ : Goes p e below s ({ frames := 0, cells := 0, slots := 0, locals := 0 } : Room).cells ({ frames := 0, cells := 0, slots := 0, locals := 0 } : Room).slots (fun v h L => Q19 Z x0 x1 h0 n0 v h L) (s₁.setTop (entryFrame m #[(.int x0), (.int x1)] 2)))
  rw [ef_19 m x0 x1 ]
  show Goes _ _ _ _ _ _ _ (s₁.setTop (mkF m 0 #[.val (.int x0), .val (.int x1)] []))
  refine Goes.step (fun _ k => XS.iloadN X0.here hx rfl (hb hby d19_0) rfl  k) ?_
  refine Goes.step (fun _ k => XS.iloadN X0.here hx rfl (hb hby d19_1) rfl  k) ?_
  by_cases c2_1 : x0 < x1
  · refine Goes.step (fun _ k => XS.icmpYes X0.here hx rfl (pc0 := 2) (pc' := 9) rfl (hb hby d19_2) rfl (tlt c2_1).1 (by decide) (by decide) k) ?_
    show Goes _ _ _ _ _ _ _ (s₁.setTop (mkF m 9 _ []))
    refine Goes.step (fun _ k => XS.iloadN X0.here hx rfl (hb hby d19_9) rfl  k) ?_
    exact Goes.ret X0 hx (BodyLoose.notSynchronized Bd) Bd.returns rfl (Or.inl ⟨rfl, by simp, _, rfl⟩) (hb hby d19_10) (by show Q19 Z x0 x1 h0 n0 (some (.int x1)) s₁.heap _; rw [e0]; exact ⟨N0, rfl, Or.inl (⟨rfl, c2_1⟩)⟩) (by decide) (by decide)
  · refine Goes.step (fun _ k => XS.icmpNo X0.here hx rfl (hb hby d19_2) rfl (flt c2_1).1 k) ?_
    show Goes _ _ _ _ _ _ _ (s₁.setTop (mkF m 5 _ []))
    refine Goes.step (fun _ k => XS.iloadN X0.here hx rfl (hb hby d19_5) rfl  k) ?_
    refine Goes.step (fun _ k => XS.goto X0.here hx rfl (pc0 := 6) (pc' := 10) rfl (hb hby d19_6) (by decide) (by decide) k) ?_
    show Goes _ _ _ _ _ _ _ (s₁.setTop (mkF m 10 _ [(.int x0)]))
    exact Goes.ret X0 hx (BodyLoose.notSynchronized Bd) Bd.returns rfl (Or.inl ⟨rfl, by simp, _, rfl⟩) (hb hby d19_10) (by show Q19 Z x0 x1 h0 n0 (some (.int x0)) s₁.heap _; rw [e0]; exact ⟨N0, rfl, Or.inr (⟨rfl, c2_1⟩)⟩) (by decide) (by decide)
theorem d21_0 : decode prog_50_method_5_code 0 = .ok (.aload_n 0, 1) := by decide +kernel
theorem d21_1 : decode prog_50_method_5_code 1 = .ok (.getfield 7, 3) := by decide +kernel
theorem d21_4 : decode prog_50_method_5_code 4 = .ok (.lreturn, 1) := by decide +kernel
theorem pn_21 : plainName "com/example/orbitloom/orbitloom/core/Timeline$Entry" = true := by first | (simp [plainName, overriddenIn]; done) | decide +kernel
theorem ef_21 (m : MethodId) (x0 : Addr) (f0_start : Int64)  : entryFrame m #[(.ref x0)] 1 = mkF m 0 #[.val (.ref x0)] [] := by first | (simp [entryFrame, mkF, argsToLocals, Value.category]; done) | rfl
def Q21 (Z : State) (x0 : Addr) (f0_start : Int64) (h0 : Heap) (n0 : Nat) (v : Option Value) (h : Heap) (L : List Loc) : Prop := Fr n0 L ∧ h = h0 ∧ ((v = some (.long f0_start)))
set_option maxRecDepth 65536 in
set_option maxHeartbeats 40000000 in
theorem rm21 (l : Launch) (Z : State) (a0 : Array Value) (hw : ∀ d ∈ tables_1, d.before a0 Z = true) (ws : List Jvm.Cond) (x0 : Addr) (f0_start : Int64) (h0 : Heap) (n0 : Nat) (Z0 : n0 ≤ h0.size) (F0_start : Fld Z h0 x0 "com/example/orbitloom/orbitloom/core/Timeline$Entry" "start" "J" (.long f0_start)) :
    MetFree l (⟨"com/example/orbitloom/orbitloom/core/Timeline$Entry", "start", "()J"⟩ : MethodName) (head1 (Jvm.Cond.code (⟨"com/example/orbitloom/orbitloom/core/Timeline$Entry", "start", "()J"⟩ : MethodName) prog_50_method_5_code 1 (some .long) :: ws) ({ frames := 0, cells := 0, slots := 0, locals := 0 } : Room)) (fun a U => a = #[(.ref x0)] ∧ Z.Warmed39 U.vm ∧ U.heap = h0) (fun _ _ _ _ _ => True) (fun _ U o U' => ∃ v L, o = .returned v ∧ Q21 Z x0 f0_start h0 n0 v U'.heap L ∧ FrameEnd U o U' L ({ frames := 0, cells := 0, slots := 0, locals := 0 } : Room).cells ({ frames := 0, cells := 0, slots := 0, locals := 0 } : Room).slots) := by
  refine MetFree.of_bodySF (plainFor_of_name pn_21) hisR ?_
  intro p e s m args below meth c s₁ Bd hml0 hP hK
  obtain ⟨rfl, hZ, hh⟩ := hP
  have w_59 := hw _ (List.mem_of_getElem? (i := 59) rfl)
  have hx := Bd.exec
  have hby := Bd.bytes
  have hml : c.maxLocals = 1 := hml0
  have hown : s.vm.findClass "com/example/orbitloom/orbitloom/core/Timeline$Entry" = some m.cls := findClass_of_methodNamed Bd.named
  have hnm := (name_of_methodNamed Bd.named Bd.method).1
  have X0 : Stand p l e ({ frames := 0, cells := 0, slots := 0, locals := 0 } : Room) s m #[(.ref x0)] below meth c s₁ [] 0 0 := Stand.of_body Bd
  have e0 : s₁.heap = h0 := by rw [← hh, Bd.state]; rfl
  have N0 := Fr.nil n0
  have K0 : Keep h0 h0 [] := Keep.refl h0 _
  refine (?_ : Goes p e below s ({ frames := 0, cells := 0, slots := 0, locals := 0 } : Room).cells ({ frames := 0, cells := 0, slots := 0, locals := 0 } : Room).slots (fun v h L => Q21 Z x0 f0_start h0 n0 v h L) (s₁.setTop (entryFrame m #[(.ref x0)] 1)))
  rw [ef_21 m x0 f0_start ]
  show Goes _ _ _ _ _ _ _ (s₁.setTop (mkF m 0 #[.val (.ref x0)] []))
  refine Goes.step (fun _ k => XS.aloadN X0.here hx rfl (hb hby d21_0) rfl rfl k) ?_
  obtain ⟨T1, X1, e1, st1⟩ := getF X0 hx hZ hown (host := "") (Or.inl w_59) Via.refl e0 F0_start (g := (mkF m 1 #[.val (.ref x0)] [(.ref x0)])) rfl rfl (hb hby d21_1)
  refine Goes.step st1 ?_
  show Goes _ _ _ _ _ _ _ (T1.setTop (mkF m 4 _ [(.long f0_start)]))
  exact Goes.ret X1 hx (BodyLoose.notSynchronized Bd) Bd.returns rfl (Or.inr (Or.inl ⟨rfl, rfl, _, rfl⟩)) (hb hby d21_4) (by show Q21 Z x0 f0_start h0 n0 (some (.long f0_start)) T1.heap _; rw [e1]; exact ⟨N0, rfl, rfl⟩) (by decide) (by decide)
theorem d13_0 : decode jdk_65_method_120_code 0 = .ok (.aload_n 2, 1) := by decide +kernel
theorem d13_1 : decode jdk_65_method_120_code 1 = .ok (.ldc 110, 2) := by decide +kernel
theorem d13_3 : decode jdk_65_method_120_code 3 = .ok (.if_acmp .ne 10, 3) := by decide +kernel
theorem d13_6 : decode jdk_65_method_120_code 6 = .ok (.iload_n 1, 1) := by decide +kernel
theorem d13_7 : decode jdk_65_method_120_code 7 = .ok (.anewarray 2, 3) := by decide +kernel
theorem d13_10 : decode jdk_65_method_120_code 10 = .ok (.goto 14, 3) := by decide +kernel
theorem d13_24 : decode jdk_65_method_120_code 24 = .ok (.astore_n 3, 1) := by decide +kernel
theorem d13_25 : decode jdk_65_method_120_code 25 = .ok (.aload_n 0, 1) := by decide +kernel
theorem d13_26 : decode jdk_65_method_120_code 26 = .ok (.iconst 0, 1) := by decide +kernel
theorem d13_27 : decode jdk_65_method_120_code 27 = .ok (.aload_n 3, 1) := by decide +kernel
theorem d13_28 : decode jdk_65_method_120_code 28 = .ok (.iconst 0, 1) := by decide +kernel
theorem d13_29 : decode jdk_65_method_120_code 29 = .ok (.aload_n 0, 1) := by decide +kernel
theorem d13_30 : decode jdk_65_method_120_code 30 = .ok (.arraylength, 1) := by decide +kernel
theorem d13_31 : decode jdk_65_method_120_code 31 = .ok (.iload_n 1, 1) := by decide +kernel
theorem d13_32 : decode jdk_65_method_120_code 32 = .ok (.invokestatic 304, 3) := by decide +kernel
theorem d13_35 : decode jdk_65_method_120_code 35 = .ok (.invokestatic 150, 3) := by decide +kernel
theorem d13_38 : decode jdk_65_method_120_code 38 = .ok (.aload_n 3, 1) := by decide +kernel
theorem d13_39 : decode jdk_65_method_120_code 39 = .ok (.areturn, 1) := by decide +kernel
theorem pn_13 : plainName "java/util/Arrays" = true := by first | (simp [plainName, overriddenIn]; done) | decide +kernel
theorem ef_13 (m : MethodId) (x0 : Addr) (ka_x0 : ClassId) (mr : Addr)  : entryFrame m #[(.ref x0), (.int (0 : Int32)), (.ref mr)] 4 = mkF m 0 #[.val (.ref x0), .val (.int (0 : Int32)), .val (.ref mr), .unset] [] := by first | (simp [entryFrame, mkF, argsToLocals, Value.category]; done) | rfl
theorem pd_9 : parseMethodDescriptor "(II)I" = some ⟨[.int, .int], some .int⟩ := by decide +kernel
def Q13 (Z : State) (x0 : Addr) (ka_x0 : ClassId) (mr : Addr) (h0 : Heap) (n0 : Nat) (v : Option Value) (h : Heap) (L : List Loc) : Prop := Fr n0 L ∧ Keep h0 h [] ∧ ((∃ (r_0 : Addr) (k_0 : ClassId), v = some (.ref r_0) ∧ ¬ ((0 : Int32) < (0 : Int32)) ∧ n0 ≤ r_0 ∧ h0.size ≤ r_0 ∧ Arx Z h r_0 k_0 (.object "java/lang/Object") (0 : Int32) ∧ Ovr Z k_0 "java/lang/Object"))
set_option maxRecDepth 65536 in
set_option maxHeartbeats 40000000 in
theorem rm13 (l : Launch) (Z : State) (a0 : Array Value) (hw : ∀ d ∈ tables_1, d.before a0 Z = true) (ws : List Jvm.Cond) (x0 : Addr) (ka_x0 : ClassId) (mr : Addr) (h0 : Heap) (n0 : Nat) (Z0 : n0 ≤ h0.size) (V_x0 : Arx Z h0 x0 ka_x0 (.object "java/lang/Object") (0 : Int32)) (MR : MirO Z "[Ljava/lang/Object;" mr) :
    MetFree l (⟨"java/util/Arrays", "copyOf", "([Ljava/lang/Object;ILjava/lang/Class;)[Ljava/lang/Object;"⟩ : MethodName) (head1 (Jvm.Cond.code (⟨"java/util/Arrays", "copyOf", "([Ljava/lang/Object;ILjava/lang/Class;)[Ljava/lang/Object;"⟩ : MethodName) jdk_65_method_120_code 4 (some (.array (.object "java/lang/Object"))) :: ws) ({ frames := 1, cells := 1, slots := 0, locals := 18 } : Room)) (fun a U => a = #[(.ref x0), (.int (0 : Int32)), (.ref mr)] ∧ Z.Warmed39 U.vm ∧ U.heap = h0) (fun _ _ _ _ _ => True) (fun _ U o U' => ∃ v L, o = .returned v ∧ Q13 Z x0 ka_x0 mr h0 n0 v U'.heap L ∧ FrameEnd U o U' L ({ frames := 1, cells := 1, slots := 0, locals := 18 } : Room).cells ({ frames := 1, cells := 1, slots := 0, locals := 18 } : Room).slots) := by
  refine MetFree.of_bodySF (plainFor_of_name pn_13) hisR ?_
  intro p e s m args below meth c s₁ Bd hml0 hP hK
  obtain ⟨rfl, hZ, hh⟩ := hP
  have w_102 := hw _ (List.mem_of_getElem? (i := 102) rfl)
  have w_103 := hw _ (List.mem_of_getElem? (i := 103) rfl)
  have w_104 := hw _ (List.mem_of_getElem? (i := 104) rfl)
  have w_105 := hw _ (List.mem_of_getElem? (i := 105) rfl)
  have w_106 := hw _ (List.mem_of_getElem? (i := 106) rfl)
  have w_107 := hw _ (List.mem_of_getElem? (i := 107) rfl)
  have w_108 := hw _ (List.mem_of_getElem? (i := 108) rfl)
  have w_109 := hw _ (List.mem_of_getElem? (i := 109) rfl)
  have w_110 := hw _ (List.mem_of_getElem? (i := 110) rfl)
  have w_111 := hw _ (List.mem_of_getElem? (i := 111) rfl)
  have w_112 := hw _ (List.mem_of_getElem? (i := 112) rfl)
  have hx := Bd.exec
  have hby := Bd.bytes
  have hml : c.maxLocals = 4 := hml0
  have hown : s.vm.findClass "java/util/Arrays" = some m.cls := findClass_of_methodNamed Bd.named
  have hnm := (name_of_methodNamed Bd.named Bd.method).1
  have X0 : Stand p l e ({ frames := 1, cells := 1, slots := 0, locals := 18 } : Room) s m #[(.ref x0), (.int (0 : Int32)), (.ref mr)] below meth c s₁ [] 0 0 := Stand.of_body Bd
  have e0 : s₁.heap = h0 := by rw [← hh, Bd.state]; rfl
  have N0 := Fr.nil n0
  have K0 : Keep h0 h0 [] := Keep.refl h0 _
  refine (?_ : Goes p e below s ({ frames := 1, cells := 1, slots := 0, locals := 18 } : Room).cells ({ frames := 1, cells := 1, slots := 0, locals := 18 } : Room).slots (fun v h L => Q13 Z x0 ka_x0 mr h0 n0 v h L) (s₁.setTop (entryFrame m #[(.ref x0), (.int (0 : Int32)), (.ref mr)] 4)))
  rw [ef_13 m x0 ka_x0 mr ]
  show Goes _ _ _ _ _ _ _ (s₁.setTop (mkF m 0 #[.val (.ref x0), .val (.int (0 : Int32)), .val (.ref mr), .unset] []))
  refine Goes.step (fun _ k => XS.aloadN X0.here hx rfl (hb hby d13_0) rfl rfl k) ?_
  obtain ⟨T1, X1, e1, st1⟩ := own_ldcMir X0 hx hZ hown w_102 e0 MR (g := (mkF m 1 #[.val (.ref x0), .val (.int (0 : Int32)), .val (.ref mr), .unset] [(.ref mr)])) rfl (hb hby d13_1)
  refine Goes.step st1 ?_
  show Goes _ _ _ _ _ _ _ (T1.setTop (mkF m 3 #[.val (.ref x0), .val (.int (0 : Int32)), .val (.ref mr), .unset] [(.ref mr), (.ref mr)]))
  refine Goes.step (fun _ k => Jvm.RoadKit.acmp X1 hx rfl rfl rfl (pc0 := 3) (pc' := 6) (same := true) rfl (hb hby d13_3) rfl (decide_eq_true rfl) (by decide) (by decide) k) ?_
  show Goes _ _ _ _ _ _ _ (T1.setTop (mkF m 6 _ []))
  refine Goes.step (fun _ k => XS.iloadN X1.here hx rfl (hb hby d13_6) rfl  k) ?_
  obtain ⟨T2, h2, k2, X2, e2, E2, A2, O2, st2⟩ := newR X1 hx hZ hown w_103 w_104 e1 (g := (mkF m 7 #[.val (.ref x0), .val (.int (0 : Int32)), .val (.ref mr), .unset] [(.int (0 : Int32))])) rfl (hb hby d13_7) rfl (by decide) (cap := 0) (by decide) (by decide) (by decide) (by decide)
  obtain ⟨b2, g2⟩ : ∃ z, z = h0.size := ⟨_, rfl⟩
  rw [← g2] at A2 st2
  refine Goes.step st2 ?_
  have g_b2 : n0 ≤ b2 := Nat.le_trans Z0 (Nat.le_of_eq g2.symm)
  have sz_b2 : h0.size ≤ b2 := Nat.le_trans K0.1 (Nat.le_of_eq g2.symm)
  have ne3 : x0 ≠ b2 := Nat.ne_of_lt (Nat.lt_of_lt_of_le V_x0.lt (Nat.le_of_eq g2.symm))
  have f4 := V_x0.ext E2
  have K5 : Keep h0 h2 [] := K0.ext E2
  have Z5 : n0 ≤ h2.size := Nat.le_trans Z0 E2.1
  have V_b2 : Arv Z h2 b2 k2 (.object "java/lang/Object") (0 : Int32) [] .null := (Arv.new A2 (by decide)).pad (pad_rep [] .null 0)
  show Goes _ _ _ _ _ _ _ (T2.setTop (mkF m 10 _ [(.ref b2)]))
  refine Goes.step (fun _ k => XS.goto X2.here hx rfl (pc0 := 10) (pc' := 24) rfl (hb hby d13_10) (by decide) (by decide) k) ?_
  show Goes _ _ _ _ _ _ _ (T2.setTop (mkF m 24 _ [(.ref b2)]))
  refine Goes.step (fun _ k => XS.astoreN X2.here hx rfl (hb hby d13_24) rfl rfl (l' := #[.val (.ref x0), .val (.int (0 : Int32)), .val (.ref mr), .val (.ref b2)]) rfl k) ?_
  show Goes _ _ _ _ _ _ _ (T2.setTop (mkF m 25 _ []))
  refine Goes.step (fun _ k => XS.aloadN X2.here hx rfl (hb hby d13_25) rfl rfl k) ?_
  refine Goes.step (fun _ k => XS.iconst X2.here hx rfl (hb hby d13_26) k) ?_
  refine Goes.step (fun _ k => XS.aloadN X2.here hx rfl (hb hby d13_27) rfl rfl k) ?_
  refine Goes.step (fun _ k => XS.iconst X2.here hx rfl (hb hby d13_28) k) ?_
  show Goes _ _ _ _ _ _ _ (T2.setTop (mkF m 29 _ [(.int (0 : Int32)), (.ref b2), (.int (0 : Int32)), (.ref x0)]))
  refine Goes.step (fun _ k => XS.aloadN X2.here hx rfl (hb hby d13_29) rfl rfl k) ?_
  obtain ⟨cl6, Ar6, q6, S6, P6, G6⟩ := id f4
  refine Goes.step (fun _ k => X2.arraylength hx (by rw [e2]; exact Ar6.1) (State.isArrayOf_alike hZ.alike Ar6.2.1) (g := (mkF m 30 #[.val (.ref x0), .val (.int (0 : Int32)), .val (.ref mr), .val (.ref b2)] [(.ref x0), (.int (0 : Int32)), (.ref b2), (.int (0 : Int32)), (.ref x0)])) rfl rfl (hb hby d13_30) _ k) ?_
  rw [len_of S6 P6]
  show Goes _ _ _ _ _ _ _ (T2.setTop (mkF m 31 _ [(.int (0 : Int32)), (.int (0 : Int32)), (.ref b2), (.int (0 : Int32)), (.ref x0)]))
  refine Goes.step (fun _ k => XS.iloadN X2.here hx rfl (hb hby d13_31) rfl  k) ?_
  obtain ⟨_, _, ⟨T7, L7, k7, n7⟩, -, X7, ⟨Lc7, hQ7, l7, y7, z7⟩, st7⟩ := Jvm.LawKit.callS X2 hx (y := (⟨"java/lang/Math", "min", "(II)I"⟩ : MethodName)) hown (mvT hZ w_105) (mvT hZ w_106) (mvT hZ w_107) (mvT hZ w_108) (by decide) (backOf (W := 4) (rm14 l Z a0 hw [] (0 : Int32) (0 : Int32) h2 n0 Z5 ) hZ w_108 w_107 (by decide) (by decide)) (g := (mkF m 32 #[.val (.ref x0), .val (.int (0 : Int32)), .val (.ref mr), .val (.ref b2)] [(.int (0 : Int32)), (.int (0 : Int32)), (.int (0 : Int32)), (.ref b2), (.int (0 : Int32)), (.ref x0)])) rfl (by rw [hml]; rfl) (argsL := [(.int (0 : Int32)), (.int (0 : Int32))]) (rest := [(.int (0 : Int32)), (.ref b2), (.int (0 : Int32)), (.ref x0)]) (lenOf pd_9 rfl) rfl (by show 2 * 0 + _ ≤ _; exact Nat.le_of_eq rfl) (hb hby d13_32) (fun _ _ => ⟨rfl, e2, (by decide : 1 + 0 ≤ _), (by decide : 0 + 0 ≤ _)⟩)
  dsimp only [Pt.U, Pt.locs, Pt.cells, Pt.slots] at X7 l7 y7 z7 st7 hQ7
  rw [l7, y7, z7] at X7
  obtain ⟨N7, eh7, hR7⟩ := hQ7
  have NA7 := Fr.app N0 N7
  rcases hR7 with ⟨rfl, u7_0_0⟩ | ⟨rfl, u7_1_0⟩
  · exact absurd u7_0_0 (by decide : ¬ ((0 : Int32) < (0 : Int32)))
  · refine Goes.step st7 ?_
    show Goes _ _ _ _ _ _ _ (T7.setTop (mkF m 35 #[.val (.ref x0), .val (.int (0 : Int32)), .val (.ref mr), .val (.ref b2)] [(.int (0 : Int32)), (.int (0 : Int32)), (.ref b2), (.int (0 : Int32)), (.ref x0)]))
    obtain ⟨T8, h8, L8, X8, e8, lb8, K8, V8, st8⟩ := own_copy0 X7 hx hZ hown w_109 w_112 w_110 w_111 eh7 f4 (own_arx V_b2) (g := (mkF m 35 #[.val (.ref x0), .val (.int (0 : Int32)), .val (.ref mr), .val (.ref b2)] [(.int (0 : Int32)), (.int (0 : Int32)), (.ref b2), (.int (0 : Int32)), (.ref x0)])) rfl (by rw [hml]; rfl) rfl (hb hby d13_35) (by decide) (by show 2 * 0 + _ ≤ _; decide)
    have NA8 : Fr n0 (_ ++ L8) := Fr.app NA7 (fun y hy => by rw [lb8 y hy]; exact g_b2)
    have f9 := f4.keep K8 (ninS ne3 nin0)
    have K11 : Keep h0 h8 [] := K5.trans K8 (allS (Or.inr sz_b2) all0)
    have Z11 : n0 ≤ h8.size := Nat.le_trans Z5 K8.1
    refine Goes.step st8 ?_
    show Goes _ _ _ _ _ _ _ (T8.setTop (mkF m 38 #[.val (.ref x0), .val (.int (0 : Int32)), .val (.ref mr), .val (.ref b2)] []))
    refine Goes.step (fun _ k => XS.aloadN X8.here hx rfl (hb hby d13_38) rfl rfl k) ?_
    exact Goes.ret X8 hx (BodyLoose.notSynchronized Bd) Bd.returns rfl (Or.inr (Or.inr (Or.inr (Or.inr ⟨rfl, rfl, rfl⟩)))) (hb hby d13_39) (by show Q13 Z x0 ka_x0 mr h0 n0 (some (.ref b2)) T8.heap _; rw [e8]; exact ⟨NA8, K11, ⟨b2, k2, rfl, u7_1_0, g_b2, sz_b2, V8, O2⟩⟩) (by decide) (by decide)
theorem d12_0 : decode jdk_65_method_119_code 0 = .ok (.aload_n 0, 1) := by decide +kernel
theorem d12_1 : decode jdk_65_method_119_code 1 = .ok (.iload_n 1, 1) := by decide +kernel
theorem d12_2 : decode jdk_65_method_119_code 2 = .ok (.aload_n 0, 1) := by decide +kernel
theorem d12_3 : decode jdk_65_method_119_code 3 = .ok (.invokevirtual 86, 3) := by decide +kernel
theorem d12_6 : decode jdk_65_method_119_code 6 = .ok (.invokestatic 300, 3) := by decide +kernel
theorem d12_9 : decode jdk_65_method_119_code 9 = .ok (.areturn, 1) := by decide +kernel
theorem pn_12 : plainName "java/util/Arrays" = true := by first | (simp [plainName, overriddenIn]; done) | decide +kernel
theorem ef_12 (m : MethodId) (x0 : Addr) (ka_x0 : ClassId) (mr : Addr)  : entryFrame m #[(.ref x0), (.int (0 : Int32))] 2 = mkF m 0 #[.val (.ref x0), .val (.int (0 : Int32))] [] := by first | (simp [entryFrame, mkF, argsToLocals, Value.category]; done) | rfl
theorem pd_8 : parseMethodDescriptor "([Ljava/lang/Object;ILjava/lang/Class;)[Ljava/lang/Object;" = some ⟨[(.array (.object "java/lang/Object")), .int, (.object "java/lang/Class")], some (.array (.object "java/lang/Object"))⟩ := by decide +kernel
def Q12 (Z : State) (x0 : Addr) (ka_x0 : ClassId) (mr : Addr) (h0 : Heap) (n0 : Nat) (v : Option Value) (h : Heap) (L : List Loc) : Prop := Fr n0 L ∧ Keep h0 h [] ∧ ((∃ (r_0 : Addr) (k_0 : ClassId), v = some (.ref r_0) ∧ n0 ≤ r_0 ∧ h0.size ≤ r_0 ∧ Arx Z h r_0 k_0 (.object "java/lang/Object") (0 : Int32) ∧ Ovr Z k_0 "java/lang/Object"))
set_option maxRecDepth 65536 in
set_option maxHeartbeats 40000000 in
theorem rm12 (l : Launch) (Z : State) (a0 : Array Value) (hw : ∀ d ∈ tables_1, d.before a0 Z = true) (ws : List Jvm.Cond) (x0 : Addr) (ka_x0 : ClassId) (mr : Addr) (h0 : Heap) (n0 : Nat) (Z0 : n0 ≤ h0.size) (E_x0 : Exa Z h0 x0 "[Ljava/lang/Object;") (V_x0 : Arx Z h0 x0 ka_x0 (.object "java/lang/Object") (0 : Int32)) (MR : MirO Z "[Ljava/lang/Object;" mr) :
    MetFree l (⟨"java/util/Arrays", "copyOf", "([Ljava/lang/Object;I)[Ljava/lang/Object;"⟩ : MethodName) (head1 (Jvm.Cond.code (⟨"java/util/Arrays", "copyOf", "([Ljava/lang/Object;I)[Ljava/lang/Object;"⟩ : MethodName) jdk_65_method_119_code 2 (some (.array (.object "java/lang/Object"))) :: ws) ({ frames := 2, cells := 1, slots := 0, locals := 33 } : Room)) (fun a U => a = #[(.ref x0), (.int (0 : Int32))] ∧ Z.Warmed39 U.vm ∧ U.heap = h0) (fun _ _ _ _ _ => True) (fun _ U o U' => ∃ v L, o = .returned v ∧ Q12 Z x0 ka_x0 mr h0 n0 v U'.heap L ∧ FrameEnd U o U' L ({ frames := 2, cells := 1, slots := 0, locals := 33 } : Room).cells ({ frames := 2, cells := 1, slots := 0, locals := 33 } : Room).slots) := by
  refine MetFree.of_bodySF (plainFor_of_name pn_12) hisR ?_
  intro p e s m args below meth c s₁ Bd hml0 hP hK
  obtain ⟨rfl, hZ, hh⟩ := hP
  have w_91 := hw _ (List.mem_of_getElem? (i := 91) rfl)
  have w_93 := hw _ (List.mem_of_getElem? (i := 93) rfl)
  have w_94 := hw _ (List.mem_of_getElem? (i := 94) rfl)
  have w_95 := hw _ (List.mem_of_getElem? (i := 95) rfl)
  have w_96 := hw _ (List.mem_of_getElem? (i := 96) rfl)
  have w_97 := hw _ (List.mem_of_getElem? (i := 97) rfl)
  have w_99 := hw _ (List.mem_of_getElem? (i := 99) rfl)
  have w_100 := hw _ (List.mem_of_getElem? (i := 100) rfl)
  have w_101 := hw _ (List.mem_of_getElem? (i := 101) rfl)
  have hx := Bd.exec
  have hby := Bd.bytes
  have hml : c.maxLocals = 2 := hml0
  have hown : s.vm.findClass "java/util/Arrays" = some m.cls := findClass_of_methodNamed Bd.named
  have hnm := (name_of_methodNamed Bd.named Bd.method).1
  have X0 : Stand p l e ({ frames := 2, cells := 1, slots := 0, locals := 33 } : Room) s m #[(.ref x0), (.int (0 : Int32))] below meth c s₁ [] 0 0 := Stand.of_body Bd
  have e0 : s₁.heap = h0 := by rw [← hh, Bd.state]; rfl
  have N0 := Fr.nil n0
  have K0 : Keep h0 h0 [] := Keep.refl h0 _
  refine (?_ : Goes p e below s ({ frames := 2, cells := 1, slots := 0, locals := 33 } : Room).cells ({ frames := 2, cells := 1, slots := 0, locals := 33 } : Room).slots (fun v h L => Q12 Z x0 ka_x0 mr h0 n0 v h L) (s₁.setTop (entryFrame m #[(.ref x0), (.int (0 : Int32))] 2)))
  rw [ef_12 m x0 ka_x0 mr ]
  show Goes _ _ _ _ _ _ _ (s₁.setTop (mkF m 0 #[.val (.ref x0), .val (.int (0 : Int32))] []))
  refine Goes.step (fun _ k => XS.aloadN X0.here hx rfl (hb hby d12_0) rfl rfl k) ?_
  refine Goes.step (fun _ k => XS.iloadN X0.here hx rfl (hb hby d12_1) rfl  k) ?_
  refine Goes.step (fun _ k => XS.aloadN X0.here hx rfl (hb hby d12_2) rfl rfl k) ?_
  obtain ⟨T1, X1, e1, st1⟩ := own_getClass X0 hx hZ hown w_93 w_94 w_96 w_95 w_97 e0 E_x0 MR (g := (mkF m 3 #[.val (.ref x0), .val (.int (0 : Int32))] [(.ref x0), (.int (0 : Int32)), (.ref x0)])) rfl (by rw [hml]; rfl) rfl (hb hby d12_3) (by decide) (by show 2 * 0 + 2 + _ ≤ _; decide)
  refine Goes.step st1 ?_
  show Goes _ _ _ _ _ _ _ (T1.setTop (mkF m 6 #[.val (.ref x0), .val (.int (0 : Int32))] [(.ref mr), (.int (0 : Int32)), (.ref x0)]))
  obtain ⟨_, _, ⟨T2, L2, k2, n2⟩, -, X2, ⟨Lc2, hQ2, l2, y2, z2⟩, st2⟩ := Jvm.LawKit.callS X1 hx (y := (⟨"java/util/Arrays", "copyOf", "([Ljava/lang/Object;ILjava/lang/Class;)[Ljava/lang/Object;"⟩ : MethodName)) hown (mvT hZ w_99) (mvT hZ w_100) (mvT hZ w_91) (mvT hZ w_101) (by decide) (backOf (W := 0) (rm13 l Z a0 hw [] x0 ka_x0 mr h0 n0 Z0 V_x0 MR) hZ w_101 w_91 (by decide) (by decide)) (g := (mkF m 6 #[.val (.ref x0), .val (.int (0 : Int32))] [(.ref mr), (.int (0 : Int32)), (.ref x0)])) rfl (by rw [hml]; rfl) (argsL := [(.ref x0), (.int (0 : Int32)), (.ref mr)]) (rest := []) (lenOf pd_8 rfl) rfl (by show 2 * 0 + _ ≤ _; exact Nat.le_of_eq rfl) (hb hby d12_6) (fun _ _ => ⟨rfl, e1, (by decide : 0 + 1 ≤ _), (by decide : 0 + 0 ≤ _)⟩)
  dsimp only [Pt.U, Pt.locs, Pt.cells, Pt.slots] at X2 l2 y2 z2 st2 hQ2
  rw [l2, y2, z2] at X2
  obtain ⟨N2, KK2, hR2⟩ := hQ2
  have NA2 := Fr.app N0 N2
  have f3 := E_x0.keep KK2
  have f4 := V_x0.keep KK2 nin0
  have K5 : Keep h0 T2.heap [] := K0.trans KK2 all0
  have Z5 : n0 ≤ T2.heap.size := Nat.le_trans Z0 KK2.1
  obtain ⟨r2_0_0, kk2_0_0, rfl, u2_0_0, g_r2_0_0, le_r2_0_0, v2_0_0, oo2_0_0⟩ := hR2
  have ne6 : x0 ≠ r2_0_0 := Nat.ne_of_lt (Nat.lt_of_lt_of_le E_x0.lt le_r2_0_0)
  have sz_r2_0_0 : h0.size ≤ r2_0_0 := Nat.le_trans K0.1 le_r2_0_0
  refine Goes.step st2 ?_
  show Goes _ _ _ _ _ _ _ (T2.setTop (mkF m 9 _ [(.ref r2_0_0)]))
  exact Goes.ret X2 hx (BodyLoose.notSynchronized Bd) Bd.returns rfl (Or.inr (Or.inr (Or.inr (Or.inr ⟨rfl, rfl, rfl⟩)))) (hb hby d12_9) (by show Q12 Z x0 ka_x0 mr h0 n0 (some (.ref r2_0_0)) T2.heap _; exact ⟨NA2, K5, ⟨r2_0_0, kk2_0_0, rfl, g_r2_0_0, sz_r2_0_0, v2_0_0, oo2_0_0⟩⟩) (by decide) (by decide)
theorem d11_0 : decode jdk_38_method_16_code 0 = .ok (.aload_n 0, 1) := by decide +kernel
theorem d11_1 : decode jdk_38_method_16_code 1 = .ok (.getfield 9, 3) := by decide +kernel
theorem d11_4 : decode jdk_38_method_16_code 4 = .ok (.aload_n 0, 1) := by decide +kernel
theorem d11_5 : decode jdk_38_method_16_code 5 = .ok (.getfield 48, 3) := by decide +kernel
theorem d11_8 : decode jdk_38_method_16_code 8 = .ok (.invokestatic 66, 3) := by decide +kernel
theorem d11_11 : decode jdk_38_method_16_code 11 = .ok (.areturn, 1) := by decide +kernel
theorem pn_11 : plainName "java/util/ArrayList" = true := by first | (simp [plainName, overriddenIn]; done) | decide +kernel
theorem ef_11 (m : MethodId) (x0 : Addr) (y_DEFAULTCAPACITY_EMPTY_ELEMENTDATA : Addr) (ka_y_DEFAULTCAPACITY_EMPTY_ELEMENTDATA : ClassId) (mr : Addr)  : entryFrame m #[(.ref x0)] 1 = mkF m 0 #[.val (.ref x0)] [] := by first | (simp [entryFrame, mkF, argsToLocals, Value.category]; done) | rfl
theorem pd_6 : parseMethodDescriptor "([Ljava/lang/Object;I)[Ljava/lang/Object;" = some ⟨[(.array (.object "java/lang/Object")), .int], some (.array (.object "java/lang/Object"))⟩ := by decide +kernel
def Q11 (Z : State) (x0 : Addr) (y_DEFAULTCAPACITY_EMPTY_ELEMENTDATA : Addr) (ka_y_DEFAULTCAPACITY_EMPTY_ELEMENTDATA : ClassId) (mr : Addr) (h0 : Heap) (n0 : Nat) (v : Option Value) (h : Heap) (L : List Loc) : Prop := Fr n0 L ∧ Keep h0 h [] ∧ ((∃ (r_0 : Addr) (k_0 : ClassId), v = some (.ref r_0) ∧ n0 ≤ r_0 ∧ h0.size ≤ r_0 ∧ Arx Z h r_0 k_0 (.object "java/lang/Object") (0 : Int32) ∧ Ovr Z k_0 "java/lang/Object"))
set_option maxRecDepth 65536 in
set_option maxHeartbeats 40000000 in
theorem rm11 (l : Launch) (Z : State) (a0 : Array Value) (hw : ∀ d ∈ tables_1, d.before a0 Z = true) (ws : List Jvm.Cond) (x0 : Addr) (y_DEFAULTCAPACITY_EMPTY_ELEMENTDATA : Addr) (ka_y_DEFAULTCAPACITY_EMPTY_ELEMENTDATA : ClassId) (mr : Addr) (h0 : Heap) (n0 : Nat) (Z0 : n0 ≤ h0.size) (S_DEFAULTCAPACITY_EMPTY_ELEMENTDATA : Sta Z Z.heap "java/util/ArrayList" "DEFAULTCAPACITY_EMPTY_ELEMENTDATA" "[Ljava/lang/Object;" (.ref y_DEFAULTCAPACITY_EMPTY_ELEMENTDATA)) (X00 : Old Z n0 h0) (F0_elementData : Fld Z h0 x0 "java/util/ArrayList" "elementData" "[Ljava/lang/Object;" (.ref y_DEFAULTCAPACITY_EMPTY_ELEMENTDATA)) (F0_size : Fld Z h0 x0 "java/util/ArrayList" "size" "I" (.int (0 : Int32))) (E_x0 : Exa Z h0 x0 "java/util/ArrayList") (E_y_DEFAULTCAPACITY_EMPTY_ELEMENTDATA : Exa Z h0 y_DEFAULTCAPACITY_EMPTY_ELEMENTDATA "[Ljava/lang/Object;") (V_y_DEFAULTCAPACITY_EMPTY_ELEMENTDATA : Arx Z h0 y_DEFAULTCAPACITY_EMPTY_ELEMENTDATA ka_y_DEFAULTCAPACITY_EMPTY_ELEMENTDATA (.object "java/lang/Object") (0 : Int32)) (MR : MirO Z "[Ljava/lang/Object;" mr) :
    MetFree l (⟨"java/util/ArrayList", "toArray", "()[Ljava/lang/Object;"⟩ : MethodName) (head1 (Jvm.Cond.code (⟨"java/util/ArrayList", "toArray", "()[Ljava/lang/Object;"⟩ : MethodName) jdk_38_method_16_code 1 (some (.array (.object "java/lang/Object"))) :: ws) ({ frames := 3, cells := 1, slots := 0, locals := 46 } : Room)) (fun a U => a = #[(.ref x0)] ∧ Z.Warmed39 U.vm ∧ U.heap = h0) (fun _ _ _ _ _ => True) (fun _ U o U' => ∃ v L, o = .returned v ∧ Q11 Z x0 y_DEFAULTCAPACITY_EMPTY_ELEMENTDATA ka_y_DEFAULTCAPACITY_EMPTY_ELEMENTDATA mr h0 n0 v U'.heap L ∧ FrameEnd U o U' L ({ frames := 3, cells := 1, slots := 0, locals := 46 } : Room).cells ({ frames := 3, cells := 1, slots := 0, locals := 46 } : Room).slots) := by
  refine MetFree.of_bodySF (plainFor_of_name pn_11) hisR ?_
  intro p e s m args below meth c s₁ Bd hml0 hP hK
  obtain ⟨rfl, hZ, hh⟩ := hP
  have w_41 := hw _ (List.mem_of_getElem? (i := 41) rfl)
  have w_87 := hw _ (List.mem_of_getElem? (i := 87) rfl)
  have w_89 := hw _ (List.mem_of_getElem? (i := 89) rfl)
  have w_90 := hw _ (List.mem_of_getElem? (i := 90) rfl)
  have w_91 := hw _ (List.mem_of_getElem? (i := 91) rfl)
  have w_92 := hw _ (List.mem_of_getElem? (i := 92) rfl)
  have hx := Bd.exec
  have hby := Bd.bytes
  have hml : c.maxLocals = 1 := hml0
  have hown : s.vm.findClass "java/util/ArrayList" = some m.cls := findClass_of_methodNamed Bd.named
  have hnm := (name_of_methodNamed Bd.named Bd.method).1
  have X0 : Stand p l e ({ frames := 3, cells := 1, slots := 0, locals := 46 } : Room) s m #[(.ref x0)] below meth c s₁ [] 0 0 := Stand.of_body Bd
  have e0 : s₁.heap = h0 := by rw [← hh, Bd.state]; rfl
  have N0 := Fr.nil n0
  have K0 : Keep h0 h0 [] := Keep.refl h0 _
  refine (?_ : Goes p e below s ({ frames := 3, cells := 1, slots := 0, locals := 46 } : Room).cells ({ frames := 3, cells := 1, slots := 0, locals := 46 } : Room).slots (fun v h L => Q11 Z x0 y_DEFAULTCAPACITY_EMPTY_ELEMENTDATA ka_y_DEFAULTCAPACITY_EMPTY_ELEMENTDATA mr h0 n0 v h L) (s₁.setTop (entryFrame m #[(.ref x0)] 1)))
  rw [ef_11 m x0 y_DEFAULTCAPACITY_EMPTY_ELEMENTDATA ka_y_DEFAULTCAPACITY_EMPTY_ELEMENTDATA mr ]
  show Goes _ _ _ _ _ _ _ (s₁.setTop (mkF m 0 #[.val (.ref x0)] []))
  refine Goes.step (fun _ k => XS.aloadN X0.here hx rfl (hb hby d11_0) rfl rfl k) ?_
  obtain ⟨T1, X1, e1, st1⟩ := getF X0 hx hZ hown (host := "") (Or.inl w_41) Via.refl e0 F0_elementData (g := (mkF m 1 #[.val (.ref x0)] [(.ref x0)])) rfl rfl (hb hby d11_1)
  refine Goes.step st1 ?_
  show Goes _ _ _ _ _ _ _ (T1.setTop (mkF m 4 _ [(.ref y_DEFAULTCAPACITY_EMPTY_ELEMENTDATA)]))
  refine Goes.step (fun _ k => XS.aloadN X1.here hx rfl (hb hby d11_4) rfl rfl k) ?_
  obtain ⟨T2, X2, e2, st2⟩ := getF X1 hx hZ hown (host := "") (Or.inl w_87) Via.refl e1 F0_size (g := (mkF m 5 #[.val (.ref x0)] [(.ref x0), (.ref y_DEFAULTCAPACITY_EMPTY_ELEMENTDATA)])) rfl rfl (hb hby d11_5)
  refine Goes.step st2 ?_
  show Goes _ _ _ _ _ _ _ (T2.setTop (mkF m 8 _ [(.int (0 : Int32)), (.ref y_DEFAULTCAPACITY_EMPTY_ELEMENTDATA)]))
  obtain ⟨_, _, ⟨T3, L3, k3, n3⟩, -, X3, ⟨Lc3, hQ3, l3, y3, z3⟩, st3⟩ := Jvm.LawKit.callS X2 hx (y := (⟨"java/util/Arrays", "copyOf", "([Ljava/lang/Object;I)[Ljava/lang/Object;"⟩ : MethodName)) hown (mvT hZ w_89) (mvT hZ w_90) (mvT hZ w_91) (mvT hZ w_92) (by decide) (backOf (W := 0) (rm12 l Z a0 hw [] y_DEFAULTCAPACITY_EMPTY_ELEMENTDATA ka_y_DEFAULTCAPACITY_EMPTY_ELEMENTDATA mr h0 n0 Z0 E_y_DEFAULTCAPACITY_EMPTY_ELEMENTDATA V_y_DEFAULTCAPACITY_EMPTY_ELEMENTDATA MR) hZ w_92 w_91 (by decide) (by decide)) (g := (mkF m 8 #[.val (.ref x0)] [(.int (0 : Int32)), (.ref y_DEFAULTCAPACITY_EMPTY_ELEMENTDATA)])) rfl (by rw [hml]; rfl) (argsL := [(.ref y_DEFAULTCAPACITY_EMPTY_ELEMENTDATA), (.int (0 : Int32))]) (rest := []) (lenOf pd_6 rfl) rfl (by show 2 * 0 + _ ≤ _; exact Nat.le_of_eq rfl) (hb hby d11_8) (fun _ _ => ⟨rfl, e2, (by decide : 0 + 1 ≤ _), (by decide : 0 + 0 ≤ _)⟩)
  dsimp only [Pt.U, Pt.locs, Pt.cells, Pt.slots] at X3 l3 y3 z3 st3 hQ3
  rw [l3, y3, z3] at X3
  obtain ⟨N3, KK3, hR3⟩ := hQ3
  have NA3 := Fr.app N0 N3
  have XO4 : Old Z n0 T3.heap := X00.keep KK3 all0
  have f5 := F0_elementData.keep KK3 nin0
  have f6 := F0_size.keep KK3 nin0
  have f7 := E_x0.keep KK3
  have f8 := E_y_DEFAULTCAPACITY_EMPTY_ELEMENTDATA.keep KK3
  have f9 := V_y_DEFAULTCAPACITY_EMPTY_ELEMENTDATA.keep KK3 nin0
  have K10 : Keep h0 T3.heap [] := K0.trans KK3 all0
  have Z10 : n0 ≤ T3.heap.size := Nat.le_trans Z0 KK3.1
  obtain ⟨r3_0_0, kk3_0_0, rfl, g_r3_0_0, le_r3_0_0, v3_0_0, oo3_0_0⟩ := hR3
  have ne11 : x0 ≠ r3_0_0 := Nat.ne_of_lt (Nat.lt_of_lt_of_le F0_elementData.lt le_r3_0_0)
  have ne12 : y_DEFAULTCAPACITY_EMPTY_ELEMENTDATA ≠ r3_0_0 := Nat.ne_of_lt (Nat.lt_of_lt_of_le E_y_DEFAULTCAPACITY_EMPTY_ELEMENTDATA.lt le_r3_0_0)
  have sz_r3_0_0 : h0.size ≤ r3_0_0 := Nat.le_trans K0.1 le_r3_0_0
  refine Goes.step st3 ?_
  show Goes _ _ _ _ _ _ _ (T3.setTop (mkF m 11 _ [(.ref r3_0_0)]))
  exact Goes.ret X3 hx (BodyLoose.notSynchronized Bd) Bd.returns rfl (Or.inr (Or.inr (Or.inr (Or.inr ⟨rfl, rfl, rfl⟩)))) (hb hby d11_11) (by show Q11 Z x0 y_DEFAULTCAPACITY_EMPTY_ELEMENTDATA ka_y_DEFAULTCAPACITY_EMPTY_ELEMENTDATA mr h0 n0 (some (.ref r3_0_0)) T3.heap _; exact ⟨NA3, K10, ⟨r3_0_0, kk3_0_0, rfl, g_r3_0_0, sz_r3_0_0, v3_0_0, oo3_0_0⟩⟩) (by decide) (by decide)
theorem d10_0 : decode jdk_38_method_3_code 0 = .ok (.aload_n 0, 1) := by decide +kernel
theorem d10_1 : decode jdk_38_method_3_code 1 = .ok (.invokespecial 1, 3) := by decide +kernel
theorem d10_4 : decode jdk_38_method_3_code 4 = .ok (.aload_n 1, 1) := by decide +kernel
theorem d10_5 : decode jdk_38_method_3_code 5 = .ok (.invokeinterface 42 1, 5) := by decide +kernel
theorem d10_10 : decode jdk_38_method_3_code 10 = .ok (.astore_n 2, 1) := by decide +kernel
theorem d10_11 : decode jdk_38_method_3_code 11 = .ok (.aload_n 0, 1) := by decide +kernel
theorem d10_12 : decode jdk_38_method_3_code 12 = .ok (.aload_n 2, 1) := by decide +kernel
theorem d10_13 : decode jdk_38_method_3_code 13 = .ok (.arraylength, 1) := by decide +kernel
theorem d10_14 : decode jdk_38_method_3_code 14 = .ok (.dup_x1, 1) := by decide +kernel
theorem d10_15 : decode jdk_38_method_3_code 15 = .ok (.putfield 48, 3) := by decide +kernel
theorem d10_18 : decode jdk_38_method_3_code 18 = .ok (.ifCond .eq 39, 3) := by decide +kernel
theorem d10_57 : decode jdk_38_method_3_code 57 = .ok (.aload_n 0, 1) := by decide +kernel
theorem d10_58 : decode jdk_38_method_3_code 58 = .ok (.getstatic 15, 3) := by decide +kernel
theorem d10_61 : decode jdk_38_method_3_code 61 = .ok (.putfield 9, 3) := by decide +kernel
theorem d10_64 : decode jdk_38_method_3_code 64 = .ok (.return_, 1) := by decide +kernel
theorem pn_10 : plainName "java/util/ArrayList" = true := by first | (simp [plainName, overriddenIn]; done) | decide +kernel
theorem ef_10 (m : MethodId) (x0 : Addr) (x1 : Addr) (y_DEFAULTCAPACITY_EMPTY_ELEMENTDATA : Addr) (y_EMPTY_ELEMENTDATA : Addr) (f0_modCount : Int32) (ka_y_DEFAULTCAPACITY_EMPTY_ELEMENTDATA : ClassId) (mr : Addr)  : entryFrame m #[(.ref x0), (.ref x1)] 3 = mkF m 0 #[.val (.ref x0), .val (.ref x1), .unset] [] := by first | (simp [entryFrame, mkF, argsToLocals, Value.category]; done) | rfl
theorem pd_5 : parseMethodDescriptor "()[Ljava/lang/Object;" = some ⟨[], some (.array (.object "java/lang/Object"))⟩ := by decide +kernel
def Q10 (Z : State) (x0 : Addr) (x1 : Addr) (y_DEFAULTCAPACITY_EMPTY_ELEMENTDATA : Addr) (y_EMPTY_ELEMENTDATA : Addr) (f0_modCount : Int32) (ka_y_DEFAULTCAPACITY_EMPTY_ELEMENTDATA : ClassId) (mr : Addr) (h0 : Heap) (n0 : Nat) (v : Option Value) (h : Heap) (L : List Loc) : Prop := Fr n0 L ∧ Keep h0 h [x0] ∧ ((v = none ∧ Exa Z h x0 "java/util/ArrayList" ∧ Fld Z h x0 "java/util/AbstractList" "modCount" "I" (.int (0 : Int32)) ∧ Fld Z h x0 "java/util/ArrayList" "elementData" "[Ljava/lang/Object;" (.ref y_EMPTY_ELEMENTDATA) ∧ Fld Z h x0 "java/util/ArrayList" "size" "I" (.int (0 : Int32))))
set_option maxRecDepth 65536 in
set_option maxHeartbeats 40000000 in
theorem rm10 (l : Launch) (Z : State) (a0 : Array Value) (hw : ∀ d ∈ tables_1, d.before a0 Z = true) (ws : List Jvm.Cond) (x0 : Addr) (x1 : Addr) (y_DEFAULTCAPACITY_EMPTY_ELEMENTDATA : Addr) (y_EMPTY_ELEMENTDATA : Addr) (f0_modCount : Int32) (ka_y_DEFAULTCAPACITY_EMPTY_ELEMENTDATA : ClassId) (mr : Addr) (h0 : Heap) (n0 : Nat) (Z0 : n0 ≤ h0.size) (S_DEFAULTCAPACITY_EMPTY_ELEMENTDATA : Sta Z Z.heap "java/util/ArrayList" "DEFAULTCAPACITY_EMPTY_ELEMENTDATA" "[Ljava/lang/Object;" (.ref y_DEFAULTCAPACITY_EMPTY_ELEMENTDATA)) (S_EMPTY_ELEMENTDATA : Sta Z Z.heap "java/util/ArrayList" "EMPTY_ELEMENTDATA" "[Ljava/lang/Object;" (.ref y_EMPTY_ELEMENTDATA)) (X00 : Old Z n0 h0) (F0_modCount : Fld Z h0 x0 "java/util/AbstractList" "modCount" "I" (.int f0_modCount)) (F0_elementData : Fld Z h0 x0 "java/util/ArrayList" "elementData" "[Ljava/lang/Object;" .null) (F0_size : Fld Z h0 x0 "java/util/ArrayList" "size" "I" (.int (0 : Int32))) (F1_elementData : Fld Z h0 x1 "java/util/ArrayList" "elementData" "[Ljava/lang/Object;" (.ref y_DEFAULTCAPACITY_EMPTY_ELEMENTDATA)) (F1_size : Fld Z h0 x1 "java/util/ArrayList" "size" "I" (.int (0 : Int32))) (E_x0 : Exa Z h0 x0 "java/util/ArrayList") (E_x1 : Exa Z h0 x1 "java/util/ArrayList") (E_y_DEFAULTCAPACITY_EMPTY_ELEMENTDATA : Exa Z h0 y_DEFAULTCAPACITY_EMPTY_ELEMENTDATA "[Ljava/lang/Object;") (V_y_DEFAULTCAPACITY_EMPTY_ELEMENTDATA : Arx Z h0 y_DEFAULTCAPACITY_EMPTY_ELEMENTDATA ka_y_DEFAULTCAPACITY_EMPTY_ELEMENTDATA (.object "java/lang/Object") (0 : Int32)) (MR : MirO Z "[Ljava/lang/Object;" mr) (g_x0 : n0 ≤ x0) (ne_x1_x0 : x1 ≠ x0) (ne_y_DEFAULTCAPACITY_EMPTY_ELEMENTDATA_x0 : y_DEFAULTCAPACITY_EMPTY_ELEMENTDATA ≠ x0) :
    MetFree l (⟨"java/util/ArrayList", "<init>", "(Ljava/util/Collection;)V"⟩ : MethodName) (head1 (Jvm.Cond.code (⟨"java/util/ArrayList", "<init>", "(Ljava/util/Collection;)V"⟩ : MethodName) jdk_38_method_3_code 3 none :: ws) ({ frames := 4, cells := 1, slots := 0, locals := 58 } : Room)) (fun a U => a = #[(.ref x0), (.ref x1)] ∧ Z.Warmed39 U.vm ∧ U.heap = h0) (fun _ _ _ _ _ => True) (fun _ U o U' => ∃ v L, o = .returned v ∧ Q10 Z x0 x1 y_DEFAULTCAPACITY_EMPTY_ELEMENTDATA y_EMPTY_ELEMENTDATA f0_modCount ka_y_DEFAULTCAPACITY_EMPTY_ELEMENTDATA mr h0 n0 v U'.heap L ∧ FrameEnd U o U' L ({ frames := 4, cells := 1, slots := 0, locals := 58 } : Room).cells ({ frames := 4, cells := 1, slots := 0, locals := 58 } : Room).slots) := by
  refine MetFree.of_bodySF (plainFor_of_name pn_10) hisR ?_
  intro p e s m args below meth c s₁ Bd hml0 hP hK
  obtain ⟨rfl, hZ, hh⟩ := hP
  have w_20 := hw _ (List.mem_of_getElem? (i := 20) rfl)
  have w_21 := hw _ (List.mem_of_getElem? (i := 21) rfl)
  have w_25 := hw _ (List.mem_of_getElem? (i := 25) rfl)
  have w_26 := hw _ (List.mem_of_getElem? (i := 26) rfl)
  have w_29 := hw _ (List.mem_of_getElem? (i := 29) rfl)
  have w_30 := hw _ (List.mem_of_getElem? (i := 30) rfl)
  have w_39 := hw _ (List.mem_of_getElem? (i := 39) rfl)
  have w_41 := hw _ (List.mem_of_getElem? (i := 41) rfl)
  have w_42 := hw _ (List.mem_of_getElem? (i := 42) rfl)
  have w_78 := hw _ (List.mem_of_getElem? (i := 78) rfl)
  have w_79 := hw _ (List.mem_of_getElem? (i := 79) rfl)
  have w_80 := hw _ (List.mem_of_getElem? (i := 80) rfl)
  have w_81 := hw _ (List.mem_of_getElem? (i := 81) rfl)
  have w_82 := hw _ (List.mem_of_getElem? (i := 82) rfl)
  have w_83 := hw _ (List.mem_of_getElem? (i := 83) rfl)
  have w_84 := hw _ (List.mem_of_getElem? (i := 84) rfl)
  have w_85 := hw _ (List.mem_of_getElem? (i := 85) rfl)
  have w_86 := hw _ (List.mem_of_getElem? (i := 86) rfl)
  have w_87 := hw _ (List.mem_of_getElem? (i := 87) rfl)
  have w_88 := hw _ (List.mem_of_getElem? (i := 88) rfl)
  have w_113 := hw _ (List.mem_of_getElem? (i := 113) rfl)
  have hx := Bd.exec
  have hby := Bd.bytes
  have hml : c.maxLocals = 3 := hml0
  have hown : s.vm.findClass "java/util/ArrayList" = some m.cls := findClass_of_methodNamed Bd.named
  have hnm := (name_of_methodNamed Bd.named Bd.method).1
  have X0 : Stand p l e ({ frames := 4, cells := 1, slots := 0, locals := 58 } : Room) s m #[(.ref x0), (.ref x1)] below meth c s₁ [] 0 0 := Stand.of_body Bd
  have e0 : s₁.heap = h0 := by rw [← hh, Bd.state]; rfl
  have N0 := Fr.nil n0
  have K0 : Keep h0 h0 [x0] := Keep.refl h0 _
  refine (?_ : Goes p e below s ({ frames := 4, cells := 1, slots := 0, locals := 58 } : Room).cells ({ frames := 4, cells := 1, slots := 0, locals := 58 } : Room).slots (fun v h L => Q10 Z x0 x1 y_DEFAULTCAPACITY_EMPTY_ELEMENTDATA y_EMPTY_ELEMENTDATA f0_modCount ka_y_DEFAULTCAPACITY_EMPTY_ELEMENTDATA mr h0 n0 v h L) (s₁.setTop (entryFrame m #[(.ref x0), (.ref x1)] 3)))
  rw [ef_10 m x0 x1 y_DEFAULTCAPACITY_EMPTY_ELEMENTDATA y_EMPTY_ELEMENTDATA f0_modCount ka_y_DEFAULTCAPACITY_EMPTY_ELEMENTDATA mr ]
  show Goes _ _ _ _ _ _ _ (s₁.setTop (mkF m 0 #[.val (.ref x0), .val (.ref x1), .unset] []))
  refine Goes.step (fun _ k => XS.aloadN X0.here hx rfl (hb hby d10_0) rfl rfl k) ?_
  obtain ⟨_, _, ⟨T1, L1, k1, n1⟩, -, X1, ⟨Lc1, hQ1, l1, y1, z1⟩, st1⟩ := X0.specialBack hx (y := (⟨"java/util/AbstractList", "<init>", "()V"⟩ : MethodName)) rfl hown (mvT hZ w_25) (mvT hZ w_26) (mvT hZ w_30) (by decide) (backOf (W := 0) (rm5 l Z a0 hw [] x0 f0_modCount h0 n0 Z0 F0_modCount F0_elementData F0_size E_x0 g_x0) hZ w_30 w_29 (by decide) (by decide)) (g := (mkF m 1 #[.val (.ref x0), .val (.ref x1), .unset] [(.ref x0)])) rfl (by rw [hml]; rfl) (Steps.refl _) (a := x0) (argsL := []) (rest := []) (lenOf pd_1 rfl) rfl (by show 2 * 0 + _ ≤ _; exact Nat.le_of_eq rfl) (hb hby d10_1) (fun _ _ => ⟨rfl, e0, (by decide : 0 + 0 ≤ _), (by decide : 0 + 0 ≤ _)⟩)
  dsimp only [Pt.U, Pt.locs, Pt.cells, Pt.slots] at X1 l1 y1 z1 st1 hQ1
  rw [l1, y1, z1] at X1
  obtain ⟨N1, KK1, hR1⟩ := hQ1
  have NA1 := Fr.app N0 N1
  have XO2 : Old Z n0 T1.heap := X00.keep KK1 (allS g_x0 all0)
  have f6 := F1_elementData.keep KK1 (ninS ne_x1_x0 nin0)
  have f7 := F1_size.keep KK1 (ninS ne_x1_x0 nin0)
  have f8 := E_x0.keep KK1
  have f9 := E_x1.keep KK1
  have f10 := E_y_DEFAULTCAPACITY_EMPTY_ELEMENTDATA.keep KK1
  have f11 := V_y_DEFAULTCAPACITY_EMPTY_ELEMENTDATA.keep KK1 (ninS ne_y_DEFAULTCAPACITY_EMPTY_ELEMENTDATA_x0 nin0)
  have K12 : Keep h0 T1.heap [x0] := K0.trans KK1 (allS (Or.inl (List.mem_of_getElem? (i := 0) rfl)) all0)
  have Z12 : n0 ≤ T1.heap.size := Nat.le_trans Z0 KK1.1
  obtain ⟨rfl, v1_0_0, v1_0_1, v1_0_2, v1_0_3⟩ := hR1
  refine Goes.back st1 ?_
  show Goes _ _ _ _ _ _ _ (T1.setTop (mkF m 4 _ []))
  refine Goes.step (fun _ k => XS.aloadN X1.here hx rfl (hb hby d10_4) rfl rfl k) ?_
  obtain ⟨cq13, kq13, q13a, q13b, q13c⟩ := isOf hZ rfl f9
  obtain ⟨_, _, ⟨T13, L13, k13, n13⟩, -, X13, ⟨Lc13, hQ13, l13, y13, z13⟩, st13⟩ := X1.interfaceBack hx (xi := (⟨"java/util/Collection", "toArray", "()[Ljava/lang/Object;"⟩ : MethodName)) (y := (⟨"java/util/ArrayList", "toArray", "()[Ljava/lang/Object;"⟩ : MethodName)) hown (mvT hZ w_78) (mvT hZ w_79) (mvT hZ w_80) (mvT hZ w_81) (mvT hZ w_82) (mvT hZ w_83) (mvT hZ w_84) (mvT hZ w_85) (by decide) (backOf (W := 0) (rm11 l Z a0 hw [] x1 y_DEFAULTCAPACITY_EMPTY_ELEMENTDATA ka_y_DEFAULTCAPACITY_EMPTY_ELEMENTDATA mr T1.heap n0 Z12 S_DEFAULTCAPACITY_EMPTY_ELEMENTDATA XO2 f6 f7 f9 f10 f11 MR) hZ w_86 w_21 (by decide) (by decide)) q13a q13b q13c (g := (mkF m 5 #[.val (.ref x0), .val (.ref x1), .unset] [(.ref x1)])) rfl (by rw [hml]; rfl) (Steps.refl _) (argsL := []) (rest := []) (lenOf pd_5 rfl) rfl (by show 2 * 0 + _ ≤ _; exact Nat.le_of_eq rfl) (hb hby d10_5) (fun _ _ => ⟨rfl, rfl, (by decide : 0 + 1 ≤ _), (by decide : 0 + 0 ≤ _)⟩)
  dsimp only [Pt.U, Pt.locs, Pt.cells, Pt.slots] at X13 l13 y13 z13 st13 hQ13
  rw [l13, y13, z13] at X13
  obtain ⟨N13, KK13, hR13⟩ := hQ13
  have NA13 := Fr.app NA1 N13
  have XO14 : Old Z n0 T13.heap := XO2.keep KK13 all0
  have f15 := f6.keep KK13 nin0
  have f16 := f7.keep KK13 nin0
  have f17 := v1_0_3.keep KK13
  have f18 := f9.keep KK13
  have f19 := f10.keep KK13
  have f20 := f11.keep KK13 nin0
  have f21 := v1_0_0.keep KK13 nin0
  have f22 := v1_0_1.keep KK13 nin0
  have f23 := v1_0_2.keep KK13 nin0
  have K24 : Keep h0 T13.heap [x0] := K12.trans KK13 all0
  have Z24 : n0 ≤ T13.heap.size := Nat.le_trans Z12 KK13.1
  obtain ⟨r13_0_0, kk13_0_0, rfl, g_r13_0_0, le_r13_0_0, v13_0_0, oo13_0_0⟩ := hR13
  have ne25 : x1 ≠ r13_0_0 := Nat.ne_of_lt (Nat.lt_of_lt_of_le f6.lt le_r13_0_0)
  have ne26 : x0 ≠ r13_0_0 := Nat.ne_of_lt (Nat.lt_of_lt_of_le v1_0_3.lt le_r13_0_0)
  have ne27 : y_DEFAULTCAPACITY_EMPTY_ELEMENTDATA ≠ r13_0_0 := Nat.ne_of_lt (Nat.lt_of_lt_of_le f10.lt le_r13_0_0)
  have sz_r13_0_0 : h0.size ≤ r13_0_0 := Nat.le_trans K12.1 le_r13_0_0
  refine Goes.back st13 ?_
  show Goes _ _ _ _ _ _ _ (T13.setTop (mkF m 10 _ [(.ref r13_0_0)]))
  refine Goes.step (fun _ k => XS.astoreN X13.here hx rfl (hb hby d10_10) rfl rfl (l' := #[.val (.ref x0), .val (.ref x1), .val (.ref r13_0_0)]) rfl k) ?_
  show Goes _ _ _ _ _ _ _ (T13.setTop (mkF m 11 _ []))
  refine Goes.step (fun _ k => XS.aloadN X13.here hx rfl (hb hby d10_11) rfl rfl k) ?_
  refine Goes.step (fun _ k => XS.aloadN X13.here hx rfl (hb hby d10_12) rfl rfl k) ?_
  obtain ⟨cl28, Ar28, q28, S28, P28, G28⟩ := id v13_0_0
  refine Goes.step (fun _ k => X13.arraylength hx (by exact Ar28.1) (State.isArrayOf_alike hZ.alike Ar28.2.1) (g := (mkF m 13 #[.val (.ref x0), .val (.ref x1), .val (.ref r13_0_0)] [(.ref r13_0_0), (.ref x0)])) rfl rfl (hb hby d10_13) _ k) ?_
  rw [len_of S28 P28]
  show Goes _ _ _ _ _ _ _ (T13.setTop (mkF m 14 _ [(.int (0 : Int32)), (.ref x0)]))
  refine Goes.step (fun _ k => XS.dupX1 X13.here hx rfl (hb hby d10_14) rfl rfl rfl k) ?_
  show Goes _ _ _ _ _ _ _ (T13.setTop (mkF m 15 _ [(.int (0 : Int32)), (.ref x0), (.int (0 : Int32))]))
  obtain ⟨T29, h29, X29, e29, W29, st29⟩ := putF X13 hx hZ hown (host := "") (Or.inl w_87) Via.refl rfl f23 f17 (Or.inl w_88) w_20 (ty := .int) (by decide) rfl rfl (g := (mkF m 15 #[.val (.ref x0), .val (.ref x1), .val (.ref r13_0_0)] [(.int (0 : Int32)), (.ref x0), (.int (0 : Int32))])) rfl rfl (hb hby d10_15)
  refine Goes.step st29 ?_
  have XO30 : Old Z n0 h29 := XO14.wr W29 g_x0
  have f31 := f15.other W29 (Or.inl ne_x1_x0)
  have f32 := f16.other W29 (Or.inl ne_x1_x0)
  have f33 := f17.wr W29
  have f34 := f18.wr W29
  have f35 := f19.wr W29
  have f36 := f20.other W29 ne_y_DEFAULTCAPACITY_EMPTY_ELEMENTDATA_x0
  have f37 := f21.other W29 (Or.inr (slot_ne (Or.inl w_39) (Or.inl w_88) (by decide) (t := .int) (t' := .int) (by decide) (by decide)))
  have f38 := f22.other W29 (Or.inr (slot_ne (Or.inl w_42) (Or.inl w_88) (by decide) (t := (.array (.object "java/lang/Object"))) (t' := .int) (by decide) (by decide)))
  have f39 := f23.same W29
  have f40 := v13_0_0.other W29 (Ne.symm ne26)
  have K41 : Keep h0 h29 [x0] := K24.wr W29 (Or.inl (List.mem_of_getElem? (i := 0) rfl))
  have Z41 : n0 ≤ h29.size := by rw [Wr.size W29]; exact Z24
  have N41 := Fr.snoc X29 NA13 g_x0
  show Goes _ _ _ _ _ _ _ (T29.setTop (mkF m 18 _ [(.int (0 : Int32))]))
  refine Goes.step (fun _ k => XS.ifYes X29.here hx rfl (pc0 := 18) (pc' := 57) rfl (hb hby d10_18) rfl ((if0 _ _).trans (teq (by decide : (0 : Int32) = (0 : Int32))).1) (by decide) (by decide) k) ?_
  show Goes _ _ _ _ _ _ _ (T29.setTop (mkF m 57 #[.val (.ref x0), .val (.ref x1), .val (.ref r13_0_0)] []))
  refine Goes.step (fun _ k => XS.aloadN X29.here hx rfl (hb hby d10_57) rfl rfl k) ?_
  obtain ⟨T42, X42, e42, st42⟩ := getS2 X29 hx hZ hown (host := "") (Or.inl w_113) Via.refl e29 (S_EMPTY_ELEMENTDATA.ext XO30.2) (g := (mkF m 58 #[.val (.ref x0), .val (.ref x1), .val (.ref r13_0_0)] [(.ref x0)])) rfl (hb hby d10_58)
  refine Goes.step st42 ?_
  show Goes _ _ _ _ _ _ _ (T42.setTop (mkF m 61 _ [(.ref y_EMPTY_ELEMENTDATA), (.ref x0)]))
  obtain ⟨T43, h43, X43, e43, W43, st43⟩ := putF X42 hx hZ hown (host := "") (Or.inl w_41) Via.refl e42 f38 f33 (Or.inl w_42) w_20 (ty := (.array (.object "java/lang/Object"))) (by decide) rfl rfl (g := (mkF m 61 #[.val (.ref x0), .val (.ref x1), .val (.ref r13_0_0)] [(.ref y_EMPTY_ELEMENTDATA), (.ref x0)])) rfl rfl (hb hby d10_61)
  refine Goes.step st43 ?_
  have XO44 : Old Z n0 h43 := XO30.wr W43 g_x0
  have f45 := f31.other W43 (Or.inl ne_x1_x0)
  have f46 := f32.other W43 (Or.inl ne_x1_x0)
  have f47 := f33.wr W43
  have f48 := f34.wr W43
  have f49 := f35.wr W43
  have f50 := f36.other W43 ne_y_DEFAULTCAPACITY_EMPTY_ELEMENTDATA_x0
  have f51 := f37.other W43 (Or.inr (slot_ne (Or.inl w_39) (Or.inl w_42) (by decide) (t := .int) (t' := (.array (.object "java/lang/Object"))) (by decide) (by decide)))
  have f52 := f38.same W43
  have f53 := f39.other W43 (Or.inr (slot_ne (Or.inl w_88) (Or.inl w_42) (by decide) (t := .int) (t' := (.array (.object "java/lang/Object"))) (by decide) (by decide)))
  have f54 := f40.other W43 (Ne.symm ne26)
  have K55 : Keep h0 h43 [x0] := K41.wr W43 (Or.inl (List.mem_of_getElem? (i := 0) rfl))
  have Z55 : n0 ≤ h43.size := by rw [Wr.size W43]; exact Z41
  have N55 := Fr.snoc X43 N41 g_x0
  show Goes _ _ _ _ _ _ _ (T43.setTop (mkF m 64 _ []))
  exact Goes.retV X43 hx (BodyLoose.notSynchronized Bd) Bd.returns (hb hby d10_64) (by show Q10 Z x0 x1 y_DEFAULTCAPACITY_EMPTY_ELEMENTDATA y_EMPTY_ELEMENTDATA f0_modCount ka_y_DEFAULTCAPACITY_EMPTY_ELEMENTDATA mr h0 n0 none T43.heap _; rw [e43]; exact ⟨N55, K55, ⟨rfl, f47, f51, f52, f53⟩⟩) (by decide) (by decide)
theorem d18_0 : decode jdk_38_method_6_code 0 = .ok (.aload_n 0, 1) := by decide +kernel
theorem d18_1 : decode jdk_38_method_6_code 1 = .ok (.getfield 9, 3) := by decide +kernel
theorem d18_4 : decode jdk_38_method_6_code 4 = .ok (.arraylength, 1) := by decide +kernel
theorem d18_5 : decode jdk_38_method_6_code 5 = .ok (.istore_n 2, 1) := by decide +kernel
theorem d18_6 : decode jdk_38_method_6_code 6 = .ok (.iload_n 2, 1) := by decide +kernel
theorem d18_7 : decode jdk_38_method_6_code 7 = .ok (.ifCond .gt 13, 3) := by decide +kernel
theorem d18_10 : decode jdk_38_method_6_code 10 = .ok (.aload_n 0, 1) := by decide +kernel
theorem d18_11 : decode jdk_38_method_6_code 11 = .ok (.getfield 9, 3) := by decide +kernel
theorem d18_14 : decode jdk_38_method_6_code 14 = .ok (.getstatic 39, 3) := by decide +kernel
theorem d18_17 : decode jdk_38_method_6_code 17 = .ok (.if_acmp .eq 28, 3) := by decide +kernel
theorem d18_45 : decode jdk_38_method_6_code 45 = .ok (.aload_n 0, 1) := by decide +kernel
theorem d18_46 : decode jdk_38_method_6_code 46 = .ok (.bipush 10, 2) := by decide +kernel
theorem d18_48 : decode jdk_38_method_6_code 48 = .ok (.iload_n 1, 1) := by decide +kernel
theorem d18_49 : decode jdk_38_method_6_code 49 = .ok (.invokestatic 79, 3) := by decide +kernel
theorem d18_52 : decode jdk_38_method_6_code 52 = .ok (.anewarray 7, 3) := by decide +kernel
theorem d18_55 : decode jdk_38_method_6_code 55 = .ok (.dup_x1, 1) := by decide +kernel
theorem d18_56 : decode jdk_38_method_6_code 56 = .ok (.putfield 9, 3) := by decide +kernel
theorem d18_59 : decode jdk_38_method_6_code 59 = .ok (.areturn, 1) := by decide +kernel
theorem pn_18 : plainName "java/util/ArrayList" = true := by first | (simp [plainName, overriddenIn]; done) | decide +kernel
theorem ef_18 (m : MethodId) (x0 : Addr) (y_DEFAULTCAPACITY_EMPTY_ELEMENTDATA : Addr) (f0_modCount : Int32) (ka_y_DEFAULTCAPACITY_EMPTY_ELEMENTDATA : ClassId)  : entryFrame m #[(.ref x0), (.int (1 : Int32))] 4 = mkF m 0 #[.val (.ref x0), .val (.int (1 : Int32)), .unset, .unset] [] := by first | (simp [entryFrame, mkF, argsToLocals, Value.category]; done) | rfl
def Q18 (Z : State) (x0 : Addr) (y_DEFAULTCAPACITY_EMPTY_ELEMENTDATA : Addr) (f0_modCount : Int32) (ka_y_DEFAULTCAPACITY_EMPTY_ELEMENTDATA : ClassId) (h0 : Heap) (n0 : Nat) (v : Option Value) (h : Heap) (L : List Loc) : Prop := Fr n0 L ∧ Keep h0 h [x0] ∧ ((∃ (r_0 : Addr) (k_0 : ClassId), v = some (.ref r_0) ∧ ¬ ((10 : Int32) < (1 : Int32)) ∧ n0 ≤ r_0 ∧ h0.size ≤ r_0 ∧ Fld Z h x0 "java/util/AbstractList" "modCount" "I" (.int f0_modCount) ∧ Fld Z h x0 "java/util/ArrayList" "elementData" "[Ljava/lang/Object;" (.ref r_0) ∧ Fld Z h x0 "java/util/ArrayList" "size" "I" (.int (0 : Int32)) ∧ Exa Z h x0 "java/util/ArrayList" ∧ Arv Z h r_0 k_0 (.object "java/lang/Object") (10 : Int32) [.null, .null, .null, .null, .null, .null, .null, .null, .null, .null] .null ∧ Ovr Z k_0 "java/lang/Object"))
set_option maxRecDepth 65536 in
set_option maxHeartbeats 40000000 in
theorem rm18 (l : Launch) (Z : State) (a0 : Array Value) (hw : ∀ d ∈ tables_1, d.before a0 Z = true) (ws : List Jvm.Cond) (x0 : Addr) (y_DEFAULTCAPACITY_EMPTY_ELEMENTDATA : Addr) (f0_modCount : Int32) (ka_y_DEFAULTCAPACITY_EMPTY_ELEMENTDATA : ClassId) (h0 : Heap) (n0 : Nat) (Z0 : n0 ≤ h0.size) (S_DEFAULTCAPACITY_EMPTY_ELEMENTDATA : Sta Z Z.heap "java/util/ArrayList" "DEFAULTCAPACITY_EMPTY_ELEMENTDATA" "[Ljava/lang/Object;" (.ref y_DEFAULTCAPACITY_EMPTY_ELEMENTDATA)) (X00 : Old Z n0 h0) (F0_modCount : Fld Z h0 x0 "java/util/AbstractList" "modCount" "I" (.int f0_modCount)) (F0_elementData : Fld Z h0 x0 "java/util/ArrayList" "elementData" "[Ljava/lang/Object;" (.ref y_DEFAULTCAPACITY_EMPTY_ELEMENTDATA)) (F0_size : Fld Z h0 x0 "java/util/ArrayList" "size" "I" (.int (0 : Int32))) (E_x0 : Exa Z h0 x0 "java/util/ArrayList") (V_y_DEFAULTCAPACITY_EMPTY_ELEMENTDATA : Arx Z h0 y_DEFAULTCAPACITY_EMPTY_ELEMENTDATA ka_y_DEFAULTCAPACITY_EMPTY_ELEMENTDATA (.object "java/lang/Object") (0 : Int32)) (g_x0 : n0 ≤ x0) (ne_y_DEFAULTCAPACITY_EMPTY_ELEMENTDATA_x0 : y_DEFAULTCAPACITY_EMPTY_ELEMENTDATA ≠ x0) :
    MetFree l (⟨"java/util/ArrayList", "grow", "(I)[Ljava/lang/Object;"⟩ : MethodName) (head1 (Jvm.Cond.code (⟨"java/util/ArrayList", "grow", "(I)[Ljava/lang/Object;"⟩ : MethodName) jdk_38_method_6_code 4 (some (.array (.object "java/lang/Object"))) :: ws) ({ frames := 1, cells := 1, slots := 10, locals := 14 } : Room)) (fun a U => a = #[(.ref x0), (.int (1 : Int32))] ∧ Z.Warmed39 U.vm ∧ U.heap = h0) (fun _ _ _ _ _ => True) (fun _ U o U' => ∃ v L, o = .returned v ∧ Q18 Z x0 y_DEFAULTCAPACITY_EMPTY_ELEMENTDATA f0_modCount ka_y_DEFAULTCAPACITY_EMPTY_ELEMENTDATA h0 n0 v U'.heap L ∧ FrameEnd U o U' L ({ frames := 1, cells := 1, slots := 10, locals := 14 } : Room).cells ({ frames := 1, cells := 1, slots := 10, locals := 14 } : Room).slots) := by
  refine MetFree.of_bodySF (plainFor_of_name pn_18) hisR ?_
  intro p e s m args below meth c s₁ Bd hml0 hP hK
  obtain ⟨rfl, hZ, hh⟩ := hP
  have w_20 := hw _ (List.mem_of_getElem? (i := 20) rfl)
  have w_39 := hw _ (List.mem_of_getElem? (i := 39) rfl)
  have w_40 := hw _ (List.mem_of_getElem? (i := 40) rfl)
  have w_41 := hw _ (List.mem_of_getElem? (i := 41) rfl)
  have w_42 := hw _ (List.mem_of_getElem? (i := 42) rfl)
  have w_88 := hw _ (List.mem_of_getElem? (i := 88) rfl)
  have w_104 := hw _ (List.mem_of_getElem? (i := 104) rfl)
  have w_107 := hw _ (List.mem_of_getElem? (i := 107) rfl)
  have w_140 := hw _ (List.mem_of_getElem? (i := 140) rfl)
  have w_141 := hw _ (List.mem_of_getElem? (i := 141) rfl)
  have w_142 := hw _ (List.mem_of_getElem? (i := 142) rfl)
  have w_143 := hw _ (List.mem_of_getElem? (i := 143) rfl)
  have hx := Bd.exec
  have hby := Bd.bytes
  have hml : c.maxLocals = 4 := hml0
  have hown : s.vm.findClass "java/util/ArrayList" = some m.cls := findClass_of_methodNamed Bd.named
  have hnm := (name_of_methodNamed Bd.named Bd.method).1
  have X0 : Stand p l e ({ frames := 1, cells := 1, slots := 10, locals := 14 } : Room) s m #[(.ref x0), (.int (1 : Int32))] below meth c s₁ [] 0 0 := Stand.of_body Bd
  have e0 : s₁.heap = h0 := by rw [← hh, Bd.state]; rfl
  have N0 := Fr.nil n0
  have K0 : Keep h0 h0 [x0] := Keep.refl h0 _
  refine (?_ : Goes p e below s ({ frames := 1, cells := 1, slots := 10, locals := 14 } : Room).cells ({ frames := 1, cells := 1, slots := 10, locals := 14 } : Room).slots (fun v h L => Q18 Z x0 y_DEFAULTCAPACITY_EMPTY_ELEMENTDATA f0_modCount ka_y_DEFAULTCAPACITY_EMPTY_ELEMENTDATA h0 n0 v h L) (s₁.setTop (entryFrame m #[(.ref x0), (.int (1 : Int32))] 4)))
  rw [ef_18 m x0 y_DEFAULTCAPACITY_EMPTY_ELEMENTDATA f0_modCount ka_y_DEFAULTCAPACITY_EMPTY_ELEMENTDATA ]
  show Goes _ _ _ _ _ _ _ (s₁.setTop (mkF m 0 #[.val (.ref x0), .val (.int (1 : Int32)), .unset, .unset] []))
  refine Goes.step (fun _ k => XS.aloadN X0.here hx rfl (hb hby d18_0) rfl rfl k) ?_
  obtain ⟨T1, X1, e1, st1⟩ := getF X0 hx hZ hown (host := "") (Or.inl w_41) Via.refl e0 F0_elementData (g := (mkF m 1 #[.val (.ref x0), .val (.int (1 : Int32)), .unset, .unset] [(.ref x0)])) rfl rfl (hb hby d18_1)
  refine Goes.step st1 ?_
  show Goes _ _ _ _ _ _ _ (T1.setTop (mkF m 4 _ [(.ref y_DEFAULTCAPACITY_EMPTY_ELEMENTDATA)]))
  obtain ⟨cl2, Ar2, q2, S2, P2, G2⟩ := id V_y_DEFAULTCAPACITY_EMPTY_ELEMENTDATA
  refine Goes.step (fun _ k => X1.arraylength hx (by rw [e1]; exact Ar2.1) (State.isArrayOf_alike hZ.alike Ar2.2.1) (g := (mkF m 4 #[.val (.ref x0), .val (.int (1 : Int32)), .unset, .unset] [(.ref y_DEFAULTCAPACITY_EMPTY_ELEMENTDATA)])) rfl rfl (hb hby d18_4) _ k) ?_
  rw [len_of S2 P2]
  show Goes _ _ _ _ _ _ _ (T1.setTop (mkF m 5 _ [(.int (0 : Int32))]))
  refine Goes.step (fun _ k => XS.istoreN X1.here hx rfl (hb hby d18_5) rfl (l' := #[.val (.ref x0), .val (.int (1 : Int32)), .val (.int (0 : Int32)), .unset]) rfl k) ?_
  show Goes _ _ _ _ _ _ _ (T1.setTop (mkF m 6 _ []))
  refine Goes.step (fun _ k => XS.iloadN X1.here hx rfl (hb hby d18_6) rfl  k) ?_
  refine Goes.step (fun _ k => XS.ifNo X1.here hx rfl (hb hby d18_7) rfl ((if0 _ _).trans (flt (by decide : ¬ ((0 : Int32) < (0 : Int32)))).2.2.1) k) ?_
  show Goes _ _ _ _ _ _ _ (T1.setTop (mkF m 10 _ []))
  refine Goes.step (fun _ k => XS.aloadN X1.here hx rfl (hb hby d18_10) rfl rfl k) ?_
  obtain ⟨T3, X3, e3, st3⟩ := getF X1 hx hZ hown (host := "") (Or.inl w_41) Via.refl e1 F0_elementData (g := (mkF m 11 #[.val (.ref x0), .val (.int (1 : Int32)), .val (.int (0 : Int32)), .unset] [(.ref x0)])) rfl rfl (hb hby d18_11)
  refine Goes.step st3 ?_
  show Goes _ _ _ _ _ _ _ (T3.setTop (mkF m 14 _ [(.ref y_DEFAULTCAPACITY_EMPTY_ELEMENTDATA)]))
  obtain ⟨T4, X4, e4, st4⟩ := getS2 X3 hx hZ hown (host := "") (Or.inl w_40) Via.refl e3 (S_DEFAULTCAPACITY_EMPTY_ELEMENTDATA.ext X00.2) (g := (mkF m 14 #[.val (.ref x0), .val (.int (1 : Int32)), .val (.int (0 : Int32)), .unset] [(.ref y_DEFAULTCAPACITY_EMPTY_ELEMENTDATA)])) rfl (hb hby d18_14)
  refine Goes.step st4 ?_
  show Goes _ _ _ _ _ _ _ (T4.setTop (mkF m 17 _ [(.ref y_DEFAULTCAPACITY_EMPTY_ELEMENTDATA), (.ref y_DEFAULTCAPACITY_EMPTY_ELEMENTDATA)]))
  refine Goes.step (fun _ k => Jvm.RoadKit.acmp X4 hx rfl rfl rfl (pc0 := 17) (pc' := 45) (same := true) rfl (hb hby d18_17) rfl (decide_eq_true rfl) (by decide) (by decide) k) ?_
  show Goes _ _ _ _ _ _ _ (T4.setTop (mkF m 45 #[.val (.ref x0), .val (.int (1 : Int32)), .val (.int (0 : Int32)), .unset] []))
  refine Goes.step (fun _ k => XS.aloadN X4.here hx rfl (hb hby d18_45) rfl rfl k) ?_
  refine Goes.step (fun _ k => XS.bipush X4.here hx rfl (hb hby d18_46) k) ?_
  refine Goes.step (fun _ k => XS.iloadN X4.here hx rfl (hb hby d18_48) rfl  k) ?_
  obtain ⟨_, _, ⟨T5, L5, k5, n5⟩, -, X5, ⟨Lc5, hQ5, l5, y5, z5⟩, st5⟩ := Jvm.LawKit.callS X4 hx (y := (⟨"java/lang/Math", "max", "(II)I"⟩ : MethodName)) hown (mvT hZ w_140) (mvT hZ w_141) (mvT hZ w_107) (mvT hZ w_142) (by decide) (backOf (W := 1) (rm19 l Z a0 hw [] (10 : Int32) (1 : Int32) h0 n0 Z0 ) hZ w_142 w_107 (by decide) (by decide)) (g := (mkF m 49 #[.val (.ref x0), .val (.int (1 : Int32)), .val (.int (0 : Int32)), .unset] [(.int (1 : Int32)), (.int (10 : Int32)), (.ref x0)])) rfl (by rw [hml]; rfl) (argsL := [(.int (10 : Int32)), (.int (1 : Int32))]) (rest := [(.ref x0)]) (lenOf pd_9 rfl) rfl (by show 2 * 0 + _ ≤ _; exact Nat.le_of_eq rfl) (hb hby d18_49) (fun _ _ => ⟨rfl, e4, (by decide : 0 + 0 ≤ _), (by decide : 0 + 0 ≤ _)⟩)
  dsimp only [Pt.U, Pt.locs, Pt.cells, Pt.slots] at X5 l5 y5 z5 st5 hQ5
  rw [l5, y5, z5] at X5
  obtain ⟨N5, eh5, hR5⟩ := hQ5
  have NA5 := Fr.app N0 N5
  rcases hR5 with ⟨rfl, u5_0_0⟩ | ⟨rfl, u5_1_0⟩
  · exact absurd u5_0_0 (by decide : ¬ ((10 : Int32) < (1 : Int32)))
  · refine Goes.step st5 ?_
    show Goes _ _ _ _ _ _ _ (T5.setTop (mkF m 52 _ [(.int (10 : Int32)), (.ref x0)]))
    obtain ⟨T6, h6, k6, X6, e6, E6, A6, O6, st6⟩ := newR X5 hx hZ hown w_143 w_104 eh5 (g := (mkF m 52 #[.val (.ref x0), .val (.int (1 : Int32)), .val (.int (0 : Int32)), .unset] [(.int (10 : Int32)), (.ref x0)])) rfl (hb hby d18_52) rfl (by decide) (cap := 10) (by decide) (by decide) (by decide) (by decide)
    obtain ⟨b6, g6⟩ : ∃ z, z = h0.size := ⟨_, rfl⟩
    rw [← g6] at A6 st6
    refine Goes.step st6 ?_
    have g_b6 : n0 ≤ b6 := Nat.le_trans Z0 (Nat.le_of_eq g6.symm)
    have sz_b6 : h0.size ≤ b6 := Nat.le_trans K0.1 (Nat.le_of_eq g6.symm)
    have ne7 : x0 ≠ b6 := Nat.ne_of_lt (Nat.lt_of_lt_of_le F0_modCount.lt (Nat.le_of_eq g6.symm))
    have ne8 : y_DEFAULTCAPACITY_EMPTY_ELEMENTDATA ≠ b6 := Nat.ne_of_lt (Nat.lt_of_lt_of_le V_y_DEFAULTCAPACITY_EMPTY_ELEMENTDATA.lt (Nat.le_of_eq g6.symm))
    have XO9 : Old Z n0 h6 := X00.ext E6
    have f10 := F0_modCount.ext E6
    have f11 := F0_elementData.ext E6
    have f12 := F0_size.ext E6
    have f13 := E_x0.ext E6
    have f14 := V_y_DEFAULTCAPACITY_EMPTY_ELEMENTDATA.ext E6
    have K15 : Keep h0 h6 [x0] := K0.ext E6
    have Z15 : n0 ≤ h6.size := Nat.le_trans Z0 E6.1
    have V_b6 : Arv Z h6 b6 k6 (.object "java/lang/Object") (10 : Int32) [.null, .null, .null, .null, .null, .null, .null, .null, .null, .null] .null := (Arv.new A6 (by decide)).pad (pad_rep [] .null 10)
    show Goes _ _ _ _ _ _ _ (T6.setTop (mkF m 55 _ [(.ref b6), (.ref x0)]))
    refine Goes.step (fun _ k => XS.dupX1 X6.here hx rfl (hb hby d18_55) rfl rfl rfl k) ?_
    show Goes _ _ _ _ _ _ _ (T6.setTop (mkF m 56 _ [(.ref b6), (.ref x0), (.ref b6)]))
    obtain ⟨T16, h16, X16, e16, W16, st16⟩ := putF X6 hx hZ hown (host := "") (Or.inl w_41) Via.refl e6 f11 f13 (Or.inl w_42) w_20 (ty := (.array (.object "java/lang/Object"))) (by decide) rfl rfl (g := (mkF m 56 #[.val (.ref x0), .val (.int (1 : Int32)), .val (.int (0 : Int32)), .unset] [(.ref b6), (.ref x0), (.ref b6)])) rfl rfl (hb hby d18_56)
    refine Goes.step st16 ?_
    have XO17 : Old Z n0 h16 := XO9.wr W16 g_x0
    have f18 := f10.other W16 (Or.inr (slot_ne (Or.inl w_39) (Or.inl w_42) (by decide) (t := .int) (t' := (.array (.object "java/lang/Object"))) (by decide) (by decide)))
    have f19 := f11.same W16
    have f20 := f12.other W16 (Or.inr (slot_ne (Or.inl w_88) (Or.inl w_42) (by decide) (t := .int) (t' := (.array (.object "java/lang/Object"))) (by decide) (by decide)))
    have f21 := f13.wr W16
    have f22 := f14.other W16 ne_y_DEFAULTCAPACITY_EMPTY_ELEMENTDATA_x0
    have f23 := V_b6.other W16 (Ne.symm ne7)
    have K24 : Keep h0 h16 [x0] := K15.wr W16 (Or.inl (List.mem_of_getElem? (i := 0) rfl))
    have Z24 : n0 ≤ h16.size := by rw [Wr.size W16]; exact Z15
    have N24 := Fr.snoc X16 NA5 g_x0
    show Goes _ _ _ _ _ _ _ (T16.setTop (mkF m 59 _ [(.ref b6)]))
    exact Goes.ret X16 hx (BodyLoose.notSynchronized Bd) Bd.returns rfl (Or.inr (Or.inr (Or.inr (Or.inr ⟨rfl, rfl, rfl⟩)))) (hb hby d18_59) (by show Q18 Z x0 y_DEFAULTCAPACITY_EMPTY_ELEMENTDATA f0_modCount ka_y_DEFAULTCAPACITY_EMPTY_ELEMENTDATA h0 n0 (some (.ref b6)) T16.heap _; rw [e16]; exact ⟨N24, K24, ⟨b6, k6, rfl, u5_1_0, g_b6, sz_b6, f18, f19, f20, f21, f23, O6⟩⟩) (by decide) (by decide)
theorem d17_0 : decode jdk_38_method_7_code 0 = .ok (.aload_n 0, 1) := by decide +kernel
theorem d17_1 : decode jdk_38_method_7_code 1 = .ok (.aload_n 0, 1) := by decide +kernel
theorem d17_2 : decode jdk_38_method_7_code 2 = .ok (.getfield 48, 3) := by decide +kernel
theorem d17_5 : decode jdk_38_method_7_code 5 = .ok (.iconst 1, 1) := by decide +kernel
theorem d17_6 : decode jdk_38_method_7_code 6 = .ok (.iadd, 1) := by decide +kernel
theorem d17_7 : decode jdk_38_method_7_code 7 = .ok (.invokevirtual 69, 3) := by decide +kernel
theorem d17_10 : decode jdk_38_method_7_code 10 = .ok (.areturn, 1) := by decide +kernel
theorem pn_17 : plainName "java/util/ArrayList" = true := by first | (simp [plainName, overriddenIn]; done) | decide +kernel
theorem ef_17 (m : MethodId) (x0 : Addr) (y_DEFAULTCAPACITY_EMPTY_ELEMENTDATA : Addr) (f0_modCount : Int32) (ka_y_DEFAULTCAPACITY_EMPTY_ELEMENTDATA : ClassId)  : entryFrame m #[(.ref x0)] 1 = mkF m 0 #[.val (.ref x0)] [] := by first | (simp [entryFrame, mkF, argsToLocals, Value.category]; done) | rfl
theorem pd_13 : parseMethodDescriptor "(I)[Ljava/lang/Object;" = some ⟨[.int], some (.array (.object "java/lang/Object"))⟩ := by decide +kernel
def Q17 (Z : State) (x0 : Addr) (y_DEFAULTCAPACITY_EMPTY_ELEMENTDATA : Addr) (f0_modCount : Int32) (ka_y_DEFAULTCAPACITY_EMPTY_ELEMENTDATA : ClassId) (h0 : Heap) (n0 : Nat) (v : Option Value) (h : Heap) (L : List Loc) : Prop := Fr n0 L ∧ Keep h0 h [x0] ∧ ((∃ (r_0 : Addr) (k_0 : ClassId), v = some (.ref r_0) ∧ n0 ≤ r_0 ∧ h0.size ≤ r_0 ∧ Exa Z h x0 "java/util/ArrayList" ∧ Fld Z h x0 "java/util/AbstractList" "modCount" "I" (.int f0_modCount) ∧ Fld Z h x0 "java/util/ArrayList" "elementData" "[Ljava/lang/Object;" (.ref r_0) ∧ Fld Z h x0 "java/util/ArrayList" "size" "I" (.int (0 : Int32)) ∧ Arv Z h r_0 k_0 (.object "java/lang/Object") (10 : Int32) [.null, .null, .null, .null, .null, .null, .null, .null, .null, .null] .null ∧ Ovr Z k_0 "java/lang/Object"))
set_option maxRecDepth 65536 in
set_option maxHeartbeats 40000000 in
theorem rm17 (l : Launch) (Z : State) (a0 : Array Value) (hw : ∀ d ∈ tables_1, d.before a0 Z = true) (ws : List Jvm.Cond) (x0 : Addr) (y_DEFAULTCAPACITY_EMPTY_ELEMENTDATA : Addr) (f0_modCount : Int32) (ka_y_DEFAULTCAPACITY_EMPTY_ELEMENTDATA : ClassId) (h0 : Heap) (n0 : Nat) (Z0 : n0 ≤ h0.size) (S_DEFAULTCAPACITY_EMPTY_ELEMENTDATA : Sta Z Z.heap "java/util/ArrayList" "DEFAULTCAPACITY_EMPTY_ELEMENTDATA" "[Ljava/lang/Object;" (.ref y_DEFAULTCAPACITY_EMPTY_ELEMENTDATA)) (X00 : Old Z n0 h0) (F0_modCount : Fld Z h0 x0 "java/util/AbstractList" "modCount" "I" (.int f0_modCount)) (F0_elementData : Fld Z h0 x0 "java/util/ArrayList" "elementData" "[Ljava/lang/Object;" (.ref y_DEFAULTCAPACITY_EMPTY_ELEMENTDATA)) (F0_size : Fld Z h0 x0 "java/util/ArrayList" "size" "I" (.int (0 : Int32))) (E_x0 : Exa Z h0 x0 "java/util/ArrayList") (V_y_DEFAULTCAPACITY_EMPTY_ELEMENTDATA : Arx Z h0 y_DEFAULTCAPACITY_EMPTY_ELEMENTDATA ka_y_DEFAULTCAPACITY_EMPTY_ELEMENTDATA (.object "java/lang/Object") (0 : Int32)) (g_x0 : n0 ≤ x0) (ne_y_DEFAULTCAPACITY_EMPTY_ELEMENTDATA_x0 : y_DEFAULTCAPACITY_EMPTY_ELEMENTDATA ≠ x0) :
    MetFree l (⟨"java/util/ArrayList", "grow", "()[Ljava/lang/Object;"⟩ : MethodName) (head1 (Jvm.Cond.code (⟨"java/util/ArrayList", "grow", "()[Ljava/lang/Object;"⟩ : MethodName) jdk_38_method_7_code 1 (some (.array (.object "java/lang/Object"))) :: ws) ({ frames := 2, cells := 1, slots := 10, locals := 29 } : Room)) (fun a U => a = #[(.ref x0)] ∧ Z.Warmed39 U.vm ∧ U.heap = h0) (fun _ _ _ _ _ => True) (fun _ U o U' => ∃ v L, o = .returned v ∧ Q17 Z x0 y_DEFAULTCAPACITY_EMPTY_ELEMENTDATA f0_modCount ka_y_DEFAULTCAPACITY_EMPTY_ELEMENTDATA h0 n0 v U'.heap L ∧ FrameEnd U o U' L ({ frames := 2, cells := 1, slots := 10, locals := 29 } : Room).cells ({ frames := 2, cells := 1, slots := 10, locals := 29 } : Room).slots) := by
  refine MetFree.of_bodySF (plainFor_of_name pn_17) hisR ?_
  intro p e s m args below meth c s₁ Bd hml0 hP hK
  obtain ⟨rfl, hZ, hh⟩ := hP
  have w_21 := hw _ (List.mem_of_getElem? (i := 21) rfl)
  have w_87 := hw _ (List.mem_of_getElem? (i := 87) rfl)
  have w_135 := hw _ (List.mem_of_getElem? (i := 135) rfl)
  have w_136 := hw _ (List.mem_of_getElem? (i := 136) rfl)
  have w_137 := hw _ (List.mem_of_getElem? (i := 137) rfl)
  have w_138 := hw _ (List.mem_of_getElem? (i := 138) rfl)
  have w_139 := hw _ (List.mem_of_getElem? (i := 139) rfl)
  have hx := Bd.exec
  have hby := Bd.bytes
  have hml : c.maxLocals = 1 := hml0
  have hown : s.vm.findClass "java/util/ArrayList" = some m.cls := findClass_of_methodNamed Bd.named
  have hnm := (name_of_methodNamed Bd.named Bd.method).1
  have X0 : Stand p l e ({ frames := 2, cells := 1, slots := 10, locals := 29 } : Room) s m #[(.ref x0)] below meth c s₁ [] 0 0 := Stand.of_body Bd
  have e0 : s₁.heap = h0 := by rw [← hh, Bd.state]; rfl
  have N0 := Fr.nil n0
  have K0 : Keep h0 h0 [x0] := Keep.refl h0 _
  refine (?_ : Goes p e below s ({ frames := 2, cells := 1, slots := 10, locals := 29 } : Room).cells ({ frames := 2, cells := 1, slots := 10, locals := 29 } : Room).slots (fun v h L => Q17 Z x0 y_DEFAULTCAPACITY_EMPTY_ELEMENTDATA f0_modCount ka_y_DEFAULTCAPACITY_EMPTY_ELEMENTDATA h0 n0 v h L) (s₁.setTop (entryFrame m #[(.ref x0)] 1)))
  rw [ef_17 m x0 y_DEFAULTCAPACITY_EMPTY_ELEMENTDATA f0_modCount ka_y_DEFAULTCAPACITY_EMPTY_ELEMENTDATA ]
  show Goes _ _ _ _ _ _ _ (s₁.setTop (mkF m 0 #[.val (.ref x0)] []))
  refine Goes.step (fun _ k => XS.aloadN X0.here hx rfl (hb hby d17_0) rfl rfl k) ?_
  refine Goes.step (fun _ k => XS.aloadN X0.here hx rfl (hb hby d17_1) rfl rfl k) ?_
  obtain ⟨T1, X1, e1, st1⟩ := getF X0 hx hZ hown (host := "") (Or.inl w_87) Via.refl e0 F0_size (g := (mkF m 2 #[.val (.ref x0)] [(.ref x0), (.ref x0)])) rfl rfl (hb hby d17_2)
  refine Goes.step st1 ?_
  show Goes _ _ _ _ _ _ _ (T1.setTop (mkF m 5 _ [(.int (0 : Int32)), (.ref x0)]))
  refine Goes.step (fun _ k => XS.iconst X1.here hx rfl (hb hby d17_5) k) ?_
  refine Goes.step (fun _ k => XS.iadd X1.here hx rfl (hb hby d17_6) rfl k) ?_
  show Goes _ _ _ _ _ _ _ (T1.setTop (mkF m 7 _ [(.int (1 : Int32)), (.ref x0)]))
  obtain ⟨cq2, q2, q2'⟩ := E_x0.cell
  obtain ⟨_, _, ⟨T2, L2, k2, n2⟩, -, X2, ⟨Lc2, hQ2, l2, y2, z2⟩, st2⟩ := X1.privateBack hx (y := (⟨"java/util/ArrayList", "grow", "(I)[Ljava/lang/Object;"⟩ : MethodName)) hown (mvT hZ w_135) (mvT hZ w_136) (mvT hZ w_138) (Cond.privateMethod_at (mvP hZ w_137 (args := #[]))) (mvT hZ w_139) (by decide) (backOf (W := 0) (rm18 l Z a0 hw [] x0 y_DEFAULTCAPACITY_EMPTY_ELEMENTDATA f0_modCount ka_y_DEFAULTCAPACITY_EMPTY_ELEMENTDATA h0 n0 Z0 S_DEFAULTCAPACITY_EMPTY_ELEMENTDATA X00 F0_modCount F0_elementData F0_size E_x0 V_y_DEFAULTCAPACITY_EMPTY_ELEMENTDATA g_x0 ne_y_DEFAULTCAPACITY_EMPTY_ELEMENTDATA_x0) hZ w_139 w_21 (by decide) (by decide)) (g := (mkF m 7 #[.val (.ref x0)] [(.int (1 : Int32)), (.ref x0)])) rfl (by rw [hml]; rfl) (Steps.refl _) (a := x0) (by rw [e1]; exact q2) q2' (argsL := [(.int (1 : Int32))]) (rest := []) (lenOf pd_13 rfl) rfl (by show 2 * 0 + _ ≤ _; exact Nat.le_of_eq rfl) (hb hby d17_7) (fun _ _ => ⟨rfl, e1, (by decide : 0 + 1 ≤ _), (by decide : 0 + 10 ≤ _)⟩)
  dsimp only [Pt.U, Pt.locs, Pt.cells, Pt.slots] at X2 l2 y2 z2 st2 hQ2
  rw [l2, y2, z2] at X2
  obtain ⟨N2, KK2, hR2⟩ := hQ2
  have NA2 := Fr.app N0 N2
  have XO3 : Old Z n0 T2.heap := X00.keep KK2 (allS g_x0 all0)
  have f7 := E_x0.keep KK2
  have f8 := V_y_DEFAULTCAPACITY_EMPTY_ELEMENTDATA.keep KK2 (ninS ne_y_DEFAULTCAPACITY_EMPTY_ELEMENTDATA_x0 nin0)
  have K9 : Keep h0 T2.heap [x0] := K0.trans KK2 (allS (Or.inl (List.mem_of_getElem? (i := 0) rfl)) all0)
  have Z9 : n0 ≤ T2.heap.size := Nat.le_trans Z0 KK2.1
  obtain ⟨r2_0_0, kk2_0_0, rfl, u2_0_0, g_r2_0_0, le_r2_0_0, v2_0_0, v2_0_1, v2_0_2, v2_0_3, v2_0_4, oo2_0_0⟩ := hR2
  have ne10 : x0 ≠ r2_0_0 := Nat.ne_of_lt (Nat.lt_of_lt_of_le F0_modCount.lt le_r2_0_0)
  have ne11 : y_DEFAULTCAPACITY_EMPTY_ELEMENTDATA ≠ r2_0_0 := Nat.ne_of_lt (Nat.lt_of_lt_of_le V_y_DEFAULTCAPACITY_EMPTY_ELEMENTDATA.lt le_r2_0_0)
  have sz_r2_0_0 : h0.size ≤ r2_0_0 := Nat.le_trans K0.1 le_r2_0_0
  refine Goes.back st2 ?_
  show Goes _ _ _ _ _ _ _ (T2.setTop (mkF m 10 _ [(.ref r2_0_0)]))
  exact Goes.ret X2 hx (BodyLoose.notSynchronized Bd) Bd.returns rfl (Or.inr (Or.inr (Or.inr (Or.inr ⟨rfl, rfl, rfl⟩)))) (hb hby d17_10) (by show Q17 Z x0 y_DEFAULTCAPACITY_EMPTY_ELEMENTDATA f0_modCount ka_y_DEFAULTCAPACITY_EMPTY_ELEMENTDATA h0 n0 (some (.ref r2_0_0)) T2.heap _; exact ⟨NA2, K9, ⟨r2_0_0, kk2_0_0, rfl, g_r2_0_0, sz_r2_0_0, v2_0_3, v2_0_0, v2_0_1, v2_0_2, v2_0_4, oo2_0_0⟩⟩) (by decide) (by decide)
theorem d16_0 : decode jdk_38_method_24_code 0 = .ok (.iload_n 3, 1) := by decide +kernel
theorem d16_1 : decode jdk_38_method_24_code 1 = .ok (.aload_n 2, 1) := by decide +kernel
theorem d16_2 : decode jdk_38_method_24_code 2 = .ok (.arraylength, 1) := by decide +kernel
theorem d16_3 : decode jdk_38_method_24_code 3 = .ok (.if_icmp .ne 8, 3) := by decide +kernel
theorem d16_6 : decode jdk_38_method_24_code 6 = .ok (.aload_n 0, 1) := by decide +kernel
theorem d16_7 : decode jdk_38_method_24_code 7 = .ok (.invokevirtual 129, 3) := by decide +kernel
theorem d16_10 : decode jdk_38_method_24_code 10 = .ok (.astore_n 2, 1) := by decide +kernel
theorem d16_11 : decode jdk_38_method_24_code 11 = .ok (.aload_n 2, 1) := by decide +kernel
theorem d16_12 : decode jdk_38_method_24_code 12 = .ok (.iload_n 3, 1) := by decide +kernel
theorem d16_13 : decode jdk_38_method_24_code 13 = .ok (.aload_n 1, 1) := by decide +kernel
theorem d16_14 : decode jdk_38_method_24_code 14 = .ok (.aastore, 1) := by decide +kernel
theorem d16_15 : decode jdk_38_method_24_code 15 = .ok (.aload_n 0, 1) := by decide +kernel
theorem d16_16 : decode jdk_38_method_24_code 16 = .ok (.iload_n 3, 1) := by decide +kernel
theorem d16_17 : decode jdk_38_method_24_code 17 = .ok (.iconst 1, 1) := by decide +kernel
theorem d16_18 : decode jdk_38_method_24_code 18 = .ok (.iadd, 1) := by decide +kernel
theorem d16_19 : decode jdk_38_method_24_code 19 = .ok (.putfield 48, 3) := by decide +kernel
theorem d16_22 : decode jdk_38_method_24_code 22 = .ok (.return_, 1) := by decide +kernel
theorem pn_16 : plainName "java/util/ArrayList" = true := by first | (simp [plainName, overriddenIn]; done) | decide +kernel
theorem ef_16_0 (m : MethodId) (x0 : Addr) (x1 : Addr) (y_DEFAULTCAPACITY_EMPTY_ELEMENTDATA : Addr) (f0_modCount : Int32) (ka_y_DEFAULTCAPACITY_EMPTY_ELEMENTDATA : ClassId)  : entryFrame m #[(.ref x0), (.ref x1), (.ref y_DEFAULTCAPACITY_EMPTY_ELEMENTDATA), (.int (0 : Int32))] 4 = mkF m 0 #[.val (.ref x0), .val (.ref x1), .val (.ref y_DEFAULTCAPACITY_EMPTY_ELEMENTDATA), .val (.int (0 : Int32))] [] := by first | (simp [entryFrame, mkF, argsToLocals, Value.category]; done) | rfl
def Q16_0 (Z : State) (x0 : Addr) (x1 : Addr) (y_DEFAULTCAPACITY_EMPTY_ELEMENTDATA : Addr) (f0_modCount : Int32) (ka_y_DEFAULTCAPACITY_EMPTY_ELEMENTDATA : ClassId) (h0 : Heap) (n0 : Nat) (v : Option Value) (h : Heap) (L : List Loc) : Prop := Fr n0 L ∧ Keep h0 h [x0] ∧ ((∃ (r_0 : Addr) (k_0 : ClassId), v = none ∧ n0 ≤ r_0 ∧ h0.size ≤ r_0 ∧ Exa Z h x0 "java/util/ArrayList" ∧ Fld Z h x0 "java/util/AbstractList" "modCount" "I" (.int f0_modCount) ∧ Fld Z h x0 "java/util/ArrayList" "elementData" "[Ljava/lang/Object;" (.ref r_0) ∧ Fld Z h x0 "java/util/ArrayList" "size" "I" (.int (1 : Int32)) ∧ Arv Z h r_0 k_0 (.object "java/lang/Object") (10 : Int32) [(.ref x1), .null, .null, .null, .null, .null, .null, .null, .null, .null] .null ∧ Ovr Z k_0 "java/lang/Object"))
set_option maxRecDepth 65536 in
set_option maxHeartbeats 40000000 in
theorem rm16_0 (l : Launch) (Z : State) (a0 : Array Value) (hw : ∀ d ∈ tables_1, d.before a0 Z = true) (ws : List Jvm.Cond) (x0 : Addr) (x1 : Addr) (y_DEFAULTCAPACITY_EMPTY_ELEMENTDATA : Addr) (f0_modCount : Int32) (ka_y_DEFAULTCAPACITY_EMPTY_ELEMENTDATA : ClassId) (h0 : Heap) (n0 : Nat) (Z0 : n0 ≤ h0.size) (S_DEFAULTCAPACITY_EMPTY_ELEMENTDATA : Sta Z Z.heap "java/util/ArrayList" "DEFAULTCAPACITY_EMPTY_ELEMENTDATA" "[Ljava/lang/Object;" (.ref y_DEFAULTCAPACITY_EMPTY_ELEMENTDATA)) (X00 : Old Z n0 h0) (F0_modCount : Fld Z h0 x0 "java/util/AbstractList" "modCount" "I" (.int f0_modCount)) (F0_elementData : Fld Z h0 x0 "java/util/ArrayList" "elementData" "[Ljava/lang/Object;" (.ref y_DEFAULTCAPACITY_EMPTY_ELEMENTDATA)) (F0_size : Fld Z h0 x0 "java/util/ArrayList" "size" "I" (.int (0 : Int32))) (E_x0 : Exa Z h0 x0 "java/util/ArrayList") (E_x1 : Exa Z h0 x1 "java/util/ArrayList") (V_y_DEFAULTCAPACITY_EMPTY_ELEMENTDATA : Arx Z h0 y_DEFAULTCAPACITY_EMPTY_ELEMENTDATA ka_y_DEFAULTCAPACITY_EMPTY_ELEMENTDATA (.object "java/lang/Object") (0 : Int32)) (g_x0 : n0 ≤ x0) (ne_y_DEFAULTCAPACITY_EMPTY_ELEMENTDATA_x0 : y_DEFAULTCAPACITY_EMPTY_ELEMENTDATA ≠ x0) :
    MetFree l (⟨"java/util/ArrayList", "add", "(Ljava/lang/Object;[Ljava/lang/Object;I)V"⟩ : MethodName) (head1 (Jvm.Cond.code (⟨"java/util/ArrayList", "add", "(Ljava/lang/Object;[Ljava/lang/Object;I)V"⟩ : MethodName) jdk_38_method_24_code 4 none :: ws) ({ frames := 3, cells := 1, slots := 10, locals := 41 } : Room)) (fun a U => a = #[(.ref x0), (.ref x1), (.ref y_DEFAULTCAPACITY_EMPTY_ELEMENTDATA), (.int (0 : Int32))] ∧ Z.Warmed39 U.vm ∧ U.heap = h0) (fun _ _ _ _ _ => True) (fun _ U o U' => ∃ v L, o = .returned v ∧ Q16_0 Z x0 x1 y_DEFAULTCAPACITY_EMPTY_ELEMENTDATA f0_modCount ka_y_DEFAULTCAPACITY_EMPTY_ELEMENTDATA h0 n0 v U'.heap L ∧ FrameEnd U o U' L ({ frames := 3, cells := 1, slots := 10, locals := 41 } : Room).cells ({ frames := 3, cells := 1, slots := 10, locals := 41 } : Room).slots) := by
  refine MetFree.of_bodySF (plainFor_of_name pn_16) hisR ?_
  intro p e s m args below meth c s₁ Bd hml0 hP hK
  obtain ⟨rfl, hZ, hh⟩ := hP
  have w_20 := hw _ (List.mem_of_getElem? (i := 20) rfl)
  have w_21 := hw _ (List.mem_of_getElem? (i := 21) rfl)
  have w_39 := hw _ (List.mem_of_getElem? (i := 39) rfl)
  have w_42 := hw _ (List.mem_of_getElem? (i := 42) rfl)
  have w_87 := hw _ (List.mem_of_getElem? (i := 87) rfl)
  have w_88 := hw _ (List.mem_of_getElem? (i := 88) rfl)
  have w_130 := hw _ (List.mem_of_getElem? (i := 130) rfl)
  have w_131 := hw _ (List.mem_of_getElem? (i := 131) rfl)
  have w_132 := hw _ (List.mem_of_getElem? (i := 132) rfl)
  have w_133 := hw _ (List.mem_of_getElem? (i := 133) rfl)
  have w_134 := hw _ (List.mem_of_getElem? (i := 134) rfl)
  have w_144 := hw _ (List.mem_of_getElem? (i := 144) rfl)
  have hx := Bd.exec
  have hby := Bd.bytes
  have hml : c.maxLocals = 4 := hml0
  have hown : s.vm.findClass "java/util/ArrayList" = some m.cls := findClass_of_methodNamed Bd.named
  have hnm := (name_of_methodNamed Bd.named Bd.method).1
  have X0 : Stand p l e ({ frames := 3, cells := 1, slots := 10, locals := 41 } : Room) s m #[(.ref x0), (.ref x1), (.ref y_DEFAULTCAPACITY_EMPTY_ELEMENTDATA), (.int (0 : Int32))] below meth c s₁ [] 0 0 := Stand.of_body Bd
  have e0 : s₁.heap = h0 := by rw [← hh, Bd.state]; rfl
  have N0 := Fr.nil n0
  have K0 : Keep h0 h0 [x0] := Keep.refl h0 _
  refine (?_ : Goes p e below s ({ frames := 3, cells := 1, slots := 10, locals := 41 } : Room).cells ({ frames := 3, cells := 1, slots := 10, locals := 41 } : Room).slots (fun v h L => Q16_0 Z x0 x1 y_DEFAULTCAPACITY_EMPTY_ELEMENTDATA f0_modCount ka_y_DEFAULTCAPACITY_EMPTY_ELEMENTDATA h0 n0 v h L) (s₁.setTop (entryFrame m #[(.ref x0), (.ref x1), (.ref y_DEFAULTCAPACITY_EMPTY_ELEMENTDATA), (.int (0 : Int32))] 4)))
  rw [ef_16_0 m x0 x1 y_DEFAULTCAPACITY_EMPTY_ELEMENTDATA f0_modCount ka_y_DEFAULTCAPACITY_EMPTY_ELEMENTDATA ]
  show Goes _ _ _ _ _ _ _ (s₁.setTop (mkF m 0 #[.val (.ref x0), .val (.ref x1), .val (.ref y_DEFAULTCAPACITY_EMPTY_ELEMENTDATA), .val (.int (0 : Int32))] []))
  refine Goes.step (fun _ k => XS.iloadN X0.here hx rfl (hb hby d16_0) rfl  k) ?_
  refine Goes.step (fun _ k => XS.aloadN X0.here hx rfl (hb hby d16_1) rfl rfl k) ?_
  obtain ⟨cl1, Ar1, q1, S1, P1, G1⟩ := id V_y_DEFAULTCAPACITY_EMPTY_ELEMENTDATA
  refine Goes.step (fun _ k => X0.arraylength hx (by rw [e0]; exact Ar1.1) (State.isArrayOf_alike hZ.alike Ar1.2.1) (g := (mkF m 2 #[.val (.ref x0), .val (.ref x1), .val (.ref y_DEFAULTCAPACITY_EMPTY_ELEMENTDATA), .val (.int (0 : Int32))] [(.ref y_DEFAULTCAPACITY_EMPTY_ELEMENTDATA), (.int (0 : Int32))])) rfl rfl (hb hby d16_2) _ k) ?_
  rw [len_of S1 P1]
  show Goes _ _ _ _ _ _ _ (s₁.setTop (mkF m 3 _ [(.int (0 : Int32)), (.int (0 : Int32))]))
  refine Goes.step (fun _ k => XS.icmpNo X0.here hx rfl (hb hby d16_3) rfl (teq (by decide : (0 : Int32) = (0 : Int32))).2 k) ?_
  show Goes _ _ _ _ _ _ _ (s₁.setTop (mkF m 6 _ []))
  refine Goes.step (fun _ k => XS.aloadN X0.here hx rfl (hb hby d16_6) rfl rfl k) ?_
  obtain ⟨cq2, q2, q2'⟩ := E_x0.cell
  obtain ⟨_, _, ⟨T2, L2, k2, n2⟩, -, X2, ⟨Lc2, hQ2, l2, y2, z2⟩, st2⟩ := X0.privateBack hx (y := (⟨"java/util/ArrayList", "grow", "()[Ljava/lang/Object;"⟩ : MethodName)) hown (mvT hZ w_130) (mvT hZ w_131) (mvT hZ w_133) (Cond.privateMethod_at (mvP hZ w_132 (args := #[]))) (mvT hZ w_134) (by decide) (backOf (W := 0) (rm17 l Z a0 hw [] x0 y_DEFAULTCAPACITY_EMPTY_ELEMENTDATA f0_modCount ka_y_DEFAULTCAPACITY_EMPTY_ELEMENTDATA h0 n0 Z0 S_DEFAULTCAPACITY_EMPTY_ELEMENTDATA X00 F0_modCount F0_elementData F0_size E_x0 V_y_DEFAULTCAPACITY_EMPTY_ELEMENTDATA g_x0 ne_y_DEFAULTCAPACITY_EMPTY_ELEMENTDATA_x0) hZ w_134 w_21 (by decide) (by decide)) (g := (mkF m 7 #[.val (.ref x0), .val (.ref x1), .val (.ref y_DEFAULTCAPACITY_EMPTY_ELEMENTDATA), .val (.int (0 : Int32))] [(.ref x0)])) rfl (by rw [hml]; rfl) (Steps.refl _) (a := x0) (by rw [e0]; exact q2) q2' (argsL := []) (rest := []) (lenOf pd_5 rfl) rfl (by show 2 * 0 + _ ≤ _; exact Nat.le_of_eq rfl) (hb hby d16_7) (fun _ _ => ⟨rfl, e0, (by decide : 0 + 1 ≤ _), (by decide : 0 + 10 ≤ _)⟩)
  dsimp only [Pt.U, Pt.locs, Pt.cells, Pt.slots] at X2 l2 y2 z2 st2 hQ2
  rw [l2, y2, z2] at X2
  obtain ⟨N2, KK2, hR2⟩ := hQ2
  have NA2 := Fr.app N0 N2
  have XO3 : Old Z n0 T2.heap := X00.keep KK2 (allS g_x0 all0)
  have f7 := E_x0.keep KK2
  have f8 := E_x1.keep KK2
  have f9 := V_y_DEFAULTCAPACITY_EMPTY_ELEMENTDATA.keep KK2 (ninS ne_y_DEFAULTCAPACITY_EMPTY_ELEMENTDATA_x0 nin0)
  have K10 : Keep h0 T2.heap [x0] := K0.trans KK2 (allS (Or.inl (List.mem_of_getElem? (i := 0) rfl)) all0)
  have Z10 : n0 ≤ T2.heap.size := Nat.le_trans Z0 KK2.1
  obtain ⟨r2_0_0, kk2_0_0, rfl, g_r2_0_0, le_r2_0_0, v2_0_0, v2_0_1, v2_0_2, v2_0_3, v2_0_4, oo2_0_0⟩ := hR2
  have ne11 : x0 ≠ r2_0_0 := Nat.ne_of_lt (Nat.lt_of_lt_of_le F0_modCount.lt le_r2_0_0)
  have ne12 : x1 ≠ r2_0_0 := Nat.ne_of_lt (Nat.lt_of_lt_of_le E_x1.lt le_r2_0_0)
  have ne13 : y_DEFAULTCAPACITY_EMPTY_ELEMENTDATA ≠ r2_0_0 := Nat.ne_of_lt (Nat.lt_of_lt_of_le V_y_DEFAULTCAPACITY_EMPTY_ELEMENTDATA.lt le_r2_0_0)
  have sz_r2_0_0 : h0.size ≤ r2_0_0 := Nat.le_trans K0.1 le_r2_0_0
  refine Goes.back st2 ?_
  show Goes _ _ _ _ _ _ _ (T2.setTop (mkF m 10 _ [(.ref r2_0_0)]))
  refine Goes.step (fun _ k => XS.astoreN X2.here hx rfl (hb hby d16_10) rfl rfl (l' := #[.val (.ref x0), .val (.ref x1), .val (.ref r2_0_0), .val (.int (0 : Int32))]) rfl k) ?_
  show Goes _ _ _ _ _ _ _ (T2.setTop (mkF m 11 _ []))
  refine Goes.step (fun _ k => XS.aloadN X2.here hx rfl (hb hby d16_11) rfl rfl k) ?_
  refine Goes.step (fun _ k => XS.iloadN X2.here hx rfl (hb hby d16_12) rfl  k) ?_
  refine Goes.step (fun _ k => XS.aloadN X2.here hx rfl (hb hby d16_13) rfl rfl k) ?_
  obtain ⟨cl14, Ar14, q14, S14, P14, H14, G14⟩ := id v2_0_4
  have hin14 : ¬ ((0 : Int32) < 0 ∨ cl14.slots.size ≤ ((0 : Int32)).toNatClampNeg) := inb_of S14 ⟨by decide, by decide⟩
  obtain ⟨T15, h15, X15, e15, W15, st15⟩ := stR X2 hx hZ rfl Ar14 (j := (0 : Int32)) hin14 rfl (Sto.ofV Ar14 q14 oo2_0_0 (Ins.of_exa f8 w_144)) (g := (mkF m 14 #[.val (.ref x0), .val (.ref x1), .val (.ref r2_0_0), .val (.int (0 : Int32))] [(.ref x1), (.int (0 : Int32)), (.ref r2_0_0)])) rfl rfl (hb hby d16_14)
  refine Goes.step st15 ?_
  have V15 : Arv Z h15 r2_0_0 kk2_0_0 (.object "java/lang/Object") (10 : Int32) [(.ref x1), .null, .null, .null, .null, .null, .null, .null, .null, .null] .null := Arv.set Ar14 q14 S14 P14 H14 G14 rfl W15 0 rfl (Nat.le_of_ble_eq_true rfl)
  have XO16 : Old Z n0 h15 := XO3.wr W15 g_r2_0_0
  have f17 := v2_0_0.wr W15
  have f18 := f8.wr W15
  have f19 := f9.other W15 ne13
  have f20 := v2_0_1.other W15 (Or.inl ne11)
  have f21 := v2_0_2.other W15 (Or.inl ne11)
  have f22 := v2_0_3.other W15 (Or.inl ne11)
  have f23 := V15
  have K24 : Keep h0 h15 [x0] := K10.wr W15 (Or.inr sz_r2_0_0)
  have Z24 : n0 ≤ h15.size := by rw [Wr.size W15]; exact Z10
  have N24 := Fr.snoc X15 NA2 g_r2_0_0
  show Goes _ _ _ _ _ _ _ (T15.setTop (mkF m 15 _ []))
  refine Goes.step (fun _ k => XS.aloadN X15.here hx rfl (hb hby d16_15) rfl rfl k) ?_
  refine Goes.step (fun _ k => XS.iloadN X15.here hx rfl (hb hby d16_16) rfl  k) ?_
  refine Goes.step (fun _ k => XS.iconst X15.here hx rfl (hb hby d16_17) k) ?_
  refine Goes.step (fun _ k => XS.iadd X15.here hx rfl (hb hby d16_18) rfl k) ?_
  show Goes _ _ _ _ _ _ _ (T15.setTop (mkF m 19 _ [(.int (1 : Int32)), (.ref x0)]))
  obtain ⟨T25, h25, X25, e25, W25, st25⟩ := putF X15 hx hZ hown (host := "") (Or.inl w_87) Via.refl e15 f22 f17 (Or.inl w_88) w_20 (ty := .int) (by decide) rfl rfl (g := (mkF m 19 #[.val (.ref x0), .val (.ref x1), .val (.ref r2_0_0), .val (.int (0 : Int32))] [(.int (1 : Int32)), (.ref x0)])) rfl rfl (hb hby d16_19)
  refine Goes.step st25 ?_
  have XO26 : Old Z n0 h25 := XO16.wr W25 g_x0
  have f27 := f17.wr W25
  have f28 := f18.wr W25
  have f29 := f19.other W25 ne_y_DEFAULTCAPACITY_EMPTY_ELEMENTDATA_x0
  have f30 := f20.other W25 (Or.inr (slot_ne (Or.inl w_39) (Or.inl w_88) (by decide) (t := .int) (t' := .int) (by decide) (by decide)))
  have f31 := f21.other W25 (Or.inr (slot_ne (Or.inl w_42) (Or.inl w_88) (by decide) (t := (.array (.object "java/lang/Object"))) (t' := .int) (by decide) (by decide)))
  have f32 := f22.same W25
  have f33 := f23.other W25 (Ne.symm ne11)
  have K34 : Keep h0 h25 [x0] := K24.wr W25 (Or.inl (List.mem_of_getElem? (i := 0) rfl))
  have Z34 : n0 ≤ h25.size := by rw [Wr.size W25]; exact Z24
  have N34 := Fr.snoc X25 N24 g_x0
  show Goes _ _ _ _ _ _ _ (T25.setTop (mkF m 22 #[.val (.ref x0), .val (.ref x1), .val (.ref r2_0_0), .val (.int (0 : Int32))] []))
  exact Goes.retV X25 hx (BodyLoose.notSynchronized Bd) Bd.returns (hb hby d16_22) (by show Q16_0 Z x0 x1 y_DEFAULTCAPACITY_EMPTY_ELEMENTDATA f0_modCount ka_y_DEFAULTCAPACITY_EMPTY_ELEMENTDATA h0 n0 none T25.heap _; rw [e25]; exact ⟨N34, K34, ⟨r2_0_0, kk2_0_0, rfl, g_r2_0_0, sz_r2_0_0, f27, f30, f31, f32, f33, oo2_0_0⟩⟩) (by decide) (by decide)
theorem d15_0 : decode jdk_38_method_25_code 0 = .ok (.aload_n 0, 1) := by decide +kernel
theorem d15_1 : decode jdk_38_method_25_code 1 = .ok (.dup, 1) := by decide +kernel
theorem d15_2 : decode jdk_38_method_25_code 2 = .ok (.getfield 63, 3) := by decide +kernel
theorem d15_5 : decode jdk_38_method_25_code 5 = .ok (.iconst 1, 1) := by decide +kernel
theorem d15_6 : decode jdk_38_method_25_code 6 = .ok (.iadd, 1) := by decide +kernel
theorem d15_7 : decode jdk_38_method_25_code 7 = .ok (.putfield 63, 3) := by decide +kernel
theorem d15_10 : decode jdk_38_method_25_code 10 = .ok (.aload_n 0, 1) := by decide +kernel
theorem d15_11 : decode jdk_38_method_25_code 11 = .ok (.aload_n 1, 1) := by decide +kernel
theorem d15_12 : decode jdk_38_method_25_code 12 = .ok (.aload_n 0, 1) := by decide +kernel
theorem d15_13 : decode jdk_38_method_25_code 13 = .ok (.getfield 9, 3) := by decide +kernel
theorem d15_16 : decode jdk_38_method_25_code 16 = .ok (.aload_n 0, 1) := by decide +kernel
theorem d15_17 : decode jdk_38_method_25_code 17 = .ok (.getfield 48, 3) := by decide +kernel
theorem d15_20 : decode jdk_38_method_25_code 20 = .ok (.invokevirtual 131, 3) := by decide +kernel
theorem d15_23 : decode jdk_38_method_25_code 23 = .ok (.iconst 1, 1) := by decide +kernel
theorem d15_24 : decode jdk_38_method_25_code 24 = .ok (.ireturn, 1) := by decide +kernel
theorem pn_15 : plainName "java/util/ArrayList" = true := by first | (simp [plainName, overriddenIn]; done) | decide +kernel
theorem ef_15_0 (m : MethodId) (x0 : Addr) (x1 : Addr) (y_DEFAULTCAPACITY_EMPTY_ELEMENTDATA : Addr) (f0_modCount : Int32) (ka_y_DEFAULTCAPACITY_EMPTY_ELEMENTDATA : ClassId)  : entryFrame m #[(.ref x0), (.ref x1)] 2 = mkF m 0 #[.val (.ref x0), .val (.ref x1)] [] := by first | (simp [entryFrame, mkF, argsToLocals, Value.category]; done) | rfl
theorem pd_12 : parseMethodDescriptor "(Ljava/lang/Object;[Ljava/lang/Object;I)V" = some ⟨[(.object "java/lang/Object"), (.array (.object "java/lang/Object")), .int], none⟩ := by decide +kernel
def Q15_0 (Z : State) (x0 : Addr) (x1 : Addr) (y_DEFAULTCAPACITY_EMPTY_ELEMENTDATA : Addr) (f0_modCount : Int32) (ka_y_DEFAULTCAPACITY_EMPTY_ELEMENTDATA : ClassId) (h0 : Heap) (n0 : Nat) (v : Option Value) (h : Heap) (L : List Loc) : Prop := Fr n0 L ∧ Keep h0 h [x0] ∧ ((∃ (r_0 : Addr) (k_0 : ClassId), v = some (.int (1 : Int32)) ∧ n0 ≤ r_0 ∧ h0.size ≤ r_0 ∧ Exa Z h x0 "java/util/ArrayList" ∧ Fld Z h x0 "java/util/AbstractList" "modCount" "I" (.int (f0_modCount + (1 : Int32))) ∧ Fld Z h x0 "java/util/ArrayList" "elementData" "[Ljava/lang/Object;" (.ref r_0) ∧ Fld Z h x0 "java/util/ArrayList" "size" "I" (.int (1 : Int32)) ∧ Arv Z h r_0 k_0 (.object "java/lang/Object") (10 : Int32) [(.ref x1), .null, .null, .null, .null, .null, .null, .null, .null, .null] .null ∧ Ovr Z k_0 "java/lang/Object"))
set_option maxRecDepth 65536 in
set_option maxHeartbeats 40000000 in
theorem rm15_0 (l : Launch) (Z : State) (a0 : Array Value) (hw : ∀ d ∈ tables_1, d.before a0 Z = true) (ws : List Jvm.Cond) (x0 : Addr) (x1 : Addr) (y_DEFAULTCAPACITY_EMPTY_ELEMENTDATA : Addr) (f0_modCount : Int32) (ka_y_DEFAULTCAPACITY_EMPTY_ELEMENTDATA : ClassId) (h0 : Heap) (n0 : Nat) (Z0 : n0 ≤ h0.size) (S_DEFAULTCAPACITY_EMPTY_ELEMENTDATA : Sta Z Z.heap "java/util/ArrayList" "DEFAULTCAPACITY_EMPTY_ELEMENTDATA" "[Ljava/lang/Object;" (.ref y_DEFAULTCAPACITY_EMPTY_ELEMENTDATA)) (X00 : Old Z n0 h0) (F0_modCount : Fld Z h0 x0 "java/util/AbstractList" "modCount" "I" (.int f0_modCount)) (F0_elementData : Fld Z h0 x0 "java/util/ArrayList" "elementData" "[Ljava/lang/Object;" (.ref y_DEFAULTCAPACITY_EMPTY_ELEMENTDATA)) (F0_size : Fld Z h0 x0 "java/util/ArrayList" "size" "I" (.int (0 : Int32))) (E_x0 : Exa Z h0 x0 "java/util/ArrayList") (E_x1 : Exa Z h0 x1 "java/util/ArrayList") (V_y_DEFAULTCAPACITY_EMPTY_ELEMENTDATA : Arx Z h0 y_DEFAULTCAPACITY_EMPTY_ELEMENTDATA ka_y_DEFAULTCAPACITY_EMPTY_ELEMENTDATA (.object "java/lang/Object") (0 : Int32)) (g_x0 : n0 ≤ x0) (ne_y_DEFAULTCAPACITY_EMPTY_ELEMENTDATA_x0 : y_DEFAULTCAPACITY_EMPTY_ELEMENTDATA ≠ x0) :
    MetFree l (⟨"java/util/ArrayList", "add", "(Ljava/lang/Object;)Z"⟩ : MethodName) (head1 (Jvm.Cond.code (⟨"java/util/ArrayList", "add", "(Ljava/lang/Object;)Z"⟩ : MethodName) jdk_38_method_25_code 2 (some .boolean) :: ws) ({ frames := 4, cells := 1, slots := 10, locals := 56 } : Room)) (fun a U => a = #[(.ref x0), (.ref x1)] ∧ Z.Warmed39 U.vm ∧ U.heap = h0) (fun _ _ _ _ _ => True) (fun _ U o U' => ∃ v L, o = .returned v ∧ Q15_0 Z x0 x1 y_DEFAULTCAPACITY_EMPTY_ELEMENTDATA f0_modCount ka_y_DEFAULTCAPACITY_EMPTY_ELEMENTDATA h0 n0 v U'.heap L ∧ FrameEnd U o U' L ({ frames := 4, cells := 1, slots := 10, locals := 56 } : Room).cells ({ frames := 4, cells := 1, slots := 10, locals := 56 } : Room).slots) := by
  refine MetFree.of_bodySF (plainFor_of_name pn_15) hisR ?_
  intro p e s m args below meth c s₁ Bd hml0 hP hK
  obtain ⟨rfl, hZ, hh⟩ := hP
  have w_20 := hw _ (List.mem_of_getElem? (i := 20) rfl)
  have w_21 := hw _ (List.mem_of_getElem? (i := 21) rfl)
  have w_39 := hw _ (List.mem_of_getElem? (i := 39) rfl)
  have w_41 := hw _ (List.mem_of_getElem? (i := 41) rfl)
  have w_42 := hw _ (List.mem_of_getElem? (i := 42) rfl)
  have w_87 := hw _ (List.mem_of_getElem? (i := 87) rfl)
  have w_88 := hw _ (List.mem_of_getElem? (i := 88) rfl)
  have w_123 := hw _ (List.mem_of_getElem? (i := 123) rfl)
  have w_124 := hw _ (List.mem_of_getElem? (i := 124) rfl)
  have w_125 := hw _ (List.mem_of_getElem? (i := 125) rfl)
  have w_126 := hw _ (List.mem_of_getElem? (i := 126) rfl)
  have w_127 := hw _ (List.mem_of_getElem? (i := 127) rfl)
  have w_128 := hw _ (List.mem_of_getElem? (i := 128) rfl)
  have w_129 := hw _ (List.mem_of_getElem? (i := 129) rfl)
  have hx := Bd.exec
  have hby := Bd.bytes
  have hml : c.maxLocals = 2 := hml0
  have hown : s.vm.findClass "java/util/ArrayList" = some m.cls := findClass_of_methodNamed Bd.named
  have hnm := (name_of_methodNamed Bd.named Bd.method).1
  have X0 : Stand p l e ({ frames := 4, cells := 1, slots := 10, locals := 56 } : Room) s m #[(.ref x0), (.ref x1)] below meth c s₁ [] 0 0 := Stand.of_body Bd
  have e0 : s₁.heap = h0 := by rw [← hh, Bd.state]; rfl
  have N0 := Fr.nil n0
  have K0 : Keep h0 h0 [x0] := Keep.refl h0 _
  refine (?_ : Goes p e below s ({ frames := 4, cells := 1, slots := 10, locals := 56 } : Room).cells ({ frames := 4, cells := 1, slots := 10, locals := 56 } : Room).slots (fun v h L => Q15_0 Z x0 x1 y_DEFAULTCAPACITY_EMPTY_ELEMENTDATA f0_modCount ka_y_DEFAULTCAPACITY_EMPTY_ELEMENTDATA h0 n0 v h L) (s₁.setTop (entryFrame m #[(.ref x0), (.ref x1)] 2)))
  rw [ef_15_0 m x0 x1 y_DEFAULTCAPACITY_EMPTY_ELEMENTDATA f0_modCount ka_y_DEFAULTCAPACITY_EMPTY_ELEMENTDATA ]
  show Goes _ _ _ _ _ _ _ (s₁.setTop (mkF m 0 #[.val (.ref x0), .val (.ref x1)] []))
  refine Goes.step (fun _ k => XS.aloadN X0.here hx rfl (hb hby d15_0) rfl rfl k) ?_
  refine Goes.step (fun _ k => XS.dup X0.here hx rfl (hb hby d15_1) rfl rfl k) ?_
  obtain ⟨T1, X1, e1, st1⟩ := getF X0 hx hZ hown (host := "") (Or.inl w_123) (Via.of w_124) e0 F0_modCount (g := (mkF m 2 #[.val (.ref x0), .val (.ref x1)] [(.ref x0), (.ref x0)])) rfl rfl (hb hby d15_2)
  refine Goes.step st1 ?_
  show Goes _ _ _ _ _ _ _ (T1.setTop (mkF m 5 _ [(.int f0_modCount), (.ref x0)]))
  refine Goes.step (fun _ k => XS.iconst X1.here hx rfl (hb hby d15_5) k) ?_
  refine Goes.step (fun _ k => XS.iadd X1.here hx rfl (hb hby d15_6) rfl k) ?_
  show Goes _ _ _ _ _ _ _ (T1.setTop (mkF m 7 _ [(.int (f0_modCount + (1 : Int32))), (.ref x0)]))
  obtain ⟨T2, h2, X2, e2, W2, st2⟩ := putF X1 hx hZ hown (host := "") (Or.inl w_123) (Via.of w_124) e1 F0_modCount E_x0 (Or.inl w_39) w_20 (ty := .int) (by decide) rfl rfl (g := (mkF m 7 #[.val (.ref x0), .val (.ref x1)] [(.int (f0_modCount + (1 : Int32))), (.ref x0)])) rfl rfl (hb hby d15_7)
  refine Goes.step st2 ?_
  have XO3 : Old Z n0 h2 := X00.wr W2 g_x0
  have f4 := F0_modCount.same W2
  have f5 := F0_elementData.other W2 (Or.inr (slot_ne (Or.inl w_42) (Or.inl w_39) (by decide) (t := (.array (.object "java/lang/Object"))) (t' := .int) (by decide) (by decide)))
  have f6 := F0_size.other W2 (Or.inr (slot_ne (Or.inl w_88) (Or.inl w_39) (by decide) (t := .int) (t' := .int) (by decide) (by decide)))
  have f7 := E_x0.wr W2
  have f8 := E_x1.wr W2
  have f9 := V_y_DEFAULTCAPACITY_EMPTY_ELEMENTDATA.other W2 ne_y_DEFAULTCAPACITY_EMPTY_ELEMENTDATA_x0
  have K10 : Keep h0 h2 [x0] := K0.wr W2 (Or.inl (List.mem_of_getElem? (i := 0) rfl))
  have Z10 : n0 ≤ h2.size := by rw [Wr.size W2]; exact Z0
  have N10 := Fr.snoc X2 N0 g_x0
  show Goes _ _ _ _ _ _ _ (T2.setTop (mkF m 10 _ []))
  refine Goes.step (fun _ k => XS.aloadN X2.here hx rfl (hb hby d15_10) rfl rfl k) ?_
  refine Goes.step (fun _ k => XS.aloadN X2.here hx rfl (hb hby d15_11) rfl rfl k) ?_
  refine Goes.step (fun _ k => XS.aloadN X2.here hx rfl (hb hby d15_12) rfl rfl k) ?_
  obtain ⟨T11, X11, e11, st11⟩ := getF X2 hx hZ hown (host := "") (Or.inl w_41) Via.refl e2 f5 (g := (mkF m 13 #[.val (.ref x0), .val (.ref x1)] [(.ref x0), (.ref x1), (.ref x0)])) rfl rfl (hb hby d15_13)
  refine Goes.step st11 ?_
  show Goes _ _ _ _ _ _ _ (T11.setTop (mkF m 16 _ [(.ref y_DEFAULTCAPACITY_EMPTY_ELEMENTDATA), (.ref x1), (.ref x0)]))
  refine Goes.step (fun _ k => XS.aloadN X11.here hx rfl (hb hby d15_16) rfl rfl k) ?_
  obtain ⟨T12, X12, e12, st12⟩ := getF X11 hx hZ hown (host := "") (Or.inl w_87) Via.refl e11 f6 (g := (mkF m 17 #[.val (.ref x0), .val (.ref x1)] [(.ref x0), (.ref y_DEFAULTCAPACITY_EMPTY_ELEMENTDATA), (.ref x1), (.ref x0)])) rfl rfl (hb hby d15_17)
  refine Goes.step st12 ?_
  show Goes _ _ _ _ _ _ _ (T12.setTop (mkF m 20 _ [(.int (0 : Int32)), (.ref y_DEFAULTCAPACITY_EMPTY_ELEMENTDATA), (.ref x1), (.ref x0)]))
  obtain ⟨cq13, q13, q13'⟩ := f7.cell
  obtain ⟨_, _, ⟨T13, L13, k13, n13⟩, -, X13, ⟨Lc13, hQ13, l13, y13, z13⟩, st13⟩ := X12.privateBack hx (y := (⟨"java/util/ArrayList", "add", "(Ljava/lang/Object;[Ljava/lang/Object;I)V"⟩ : MethodName)) hown (mvT hZ w_125) (mvT hZ w_126) (mvT hZ w_128) (Cond.privateMethod_at (mvP hZ w_127 (args := #[]))) (mvT hZ w_129) (by decide) (backOf (W := 0) (rm16_0 l Z a0 hw [] x0 x1 y_DEFAULTCAPACITY_EMPTY_ELEMENTDATA (f0_modCount + (1 : Int32)) ka_y_DEFAULTCAPACITY_EMPTY_ELEMENTDATA h2 n0 Z10 S_DEFAULTCAPACITY_EMPTY_ELEMENTDATA XO3 f4 f5 f6 f7 f8 f9 g_x0 ne_y_DEFAULTCAPACITY_EMPTY_ELEMENTDATA_x0) hZ w_129 w_21 (by decide) (by decide)) (g := (mkF m 20 #[.val (.ref x0), .val (.ref x1)] [(.int (0 : Int32)), (.ref y_DEFAULTCAPACITY_EMPTY_ELEMENTDATA), (.ref x1), (.ref x0)])) rfl (by rw [hml]; rfl) (Steps.refl _) (a := x0) (by rw [e12]; exact q13) q13' (argsL := [(.ref x1), (.ref y_DEFAULTCAPACITY_EMPTY_ELEMENTDATA), (.int (0 : Int32))]) (rest := []) (lenOf pd_12 rfl) rfl (by show 2 * 0 + _ ≤ _; exact Nat.le_of_eq rfl) (hb hby d15_20) (fun _ _ => ⟨rfl, e12, (by decide : 0 + 1 ≤ _), (by decide : 0 + 10 ≤ _)⟩)
  dsimp only [Pt.U, Pt.locs, Pt.cells, Pt.slots] at X13 l13 y13 z13 st13 hQ13
  rw [l13, y13, z13] at X13
  obtain ⟨N13, KK13, hR13⟩ := hQ13
  have NA13 := Fr.app N10 N13
  have XO14 : Old Z n0 T13.heap := XO3.keep KK13 (allS g_x0 all0)
  have f18 := f7.keep KK13
  have f19 := f8.keep KK13
  have f20 := f9.keep KK13 (ninS ne_y_DEFAULTCAPACITY_EMPTY_ELEMENTDATA_x0 nin0)
  have K21 : Keep h0 T13.heap [x0] := K10.trans KK13 (allS (Or.inl (List.mem_of_getElem? (i := 0) rfl)) all0)
  have Z21 : n0 ≤ T13.heap.size := Nat.le_trans Z10 KK13.1
  obtain ⟨r13_0_0, kk13_0_0, rfl, g_r13_0_0, le_r13_0_0, v13_0_0, v13_0_1, v13_0_2, v13_0_3, v13_0_4, oo13_0_0⟩ := hR13
  have ne22 : x0 ≠ r13_0_0 := Nat.ne_of_lt (Nat.lt_of_lt_of_le f4.lt le_r13_0_0)
  have ne23 : x1 ≠ r13_0_0 := Nat.ne_of_lt (Nat.lt_of_lt_of_le f8.lt le_r13_0_0)
  have ne24 : y_DEFAULTCAPACITY_EMPTY_ELEMENTDATA ≠ r13_0_0 := Nat.ne_of_lt (Nat.lt_of_lt_of_le f9.lt le_r13_0_0)
  have sz_r13_0_0 : h0.size ≤ r13_0_0 := Nat.le_trans K10.1 le_r13_0_0
  refine Goes.back st13 ?_
  show Goes _ _ _ _ _ _ _ (T13.setTop (mkF m 23 _ []))
  refine Goes.step (fun _ k => XS.iconst X13.here hx rfl (hb hby d15_23) k) ?_
  exact Goes.ret X13 hx (BodyLoose.notSynchronized Bd) Bd.returns rfl (Or.inl ⟨rfl, by simp, _, rfl⟩) (hb hby d15_24) (by show Q15_0 Z x0 x1 y_DEFAULTCAPACITY_EMPTY_ELEMENTDATA f0_modCount ka_y_DEFAULTCAPACITY_EMPTY_ELEMENTDATA h0 n0 (some (.int (1 : Int32))) T13.heap _; exact ⟨NA13, K21, ⟨r13_0_0, kk13_0_0, rfl, g_r13_0_0, sz_r13_0_0, v13_0_0, v13_0_1, v13_0_2, v13_0_3, v13_0_4, oo13_0_0⟩⟩) (by decide) (by decide)
theorem ef_16_1 (m : MethodId) (x0 : Addr) (x1 : Addr) (x2 : Addr) (f0_modCount : Int32) (ka_x2 : ClassId)  : entryFrame m #[(.ref x0), (.ref x1), (.ref x2), (.int (1 : Int32))] 4 = mkF m 0 #[.val (.ref x0), .val (.ref x1), .val (.ref x2), .val (.int (1 : Int32))] [] := by first | (simp [entryFrame, mkF, argsToLocals, Value.category]; done) | rfl
def Q16_1 (Z : State) (x0 : Addr) (x1 : Addr) (x2 : Addr) (f0_modCount : Int32) (ka_x2 : ClassId) (h0 : Heap) (n0 : Nat) (v : Option Value) (h : Heap) (L : List Loc) : Prop := Fr n0 L ∧ Keep h0 h [x0, x2] ∧ ((v = none ∧ Fld Z h x0 "java/util/AbstractList" "modCount" "I" (.int f0_modCount) ∧ Fld Z h x0 "java/util/ArrayList" "elementData" "[Ljava/lang/Object;" (.ref x2) ∧ Fld Z h x0 "java/util/ArrayList" "size" "I" (.int (2 : Int32)) ∧ Exa Z h x0 "java/util/ArrayList" ∧ Arx Z h x2 ka_x2 (.object "java/lang/Object") (10 : Int32)))
set_option maxRecDepth 65536 in
set_option maxHeartbeats 40000000 in
theorem rm16_1 (l : Launch) (Z : State) (a0 : Array Value) (hw : ∀ d ∈ tables_1, d.before a0 Z = true) (ws : List Jvm.Cond) (x0 : Addr) (x1 : Addr) (x2 : Addr) (f0_modCount : Int32) (ka_x2 : ClassId) (h0 : Heap) (n0 : Nat) (Z0 : n0 ≤ h0.size) (F0_modCount : Fld Z h0 x0 "java/util/AbstractList" "modCount" "I" (.int f0_modCount)) (F0_elementData : Fld Z h0 x0 "java/util/ArrayList" "elementData" "[Ljava/lang/Object;" (.ref x2)) (F0_size : Fld Z h0 x0 "java/util/ArrayList" "size" "I" (.int (1 : Int32))) (E_x0 : Exa Z h0 x0 "java/util/ArrayList") (E_x1 : Exa Z h0 x1 "java/util/ArrayList") (V_x2 : Arx Z h0 x2 ka_x2 (.object "java/lang/Object") (10 : Int32)) (O_x2 : Ovr Z ka_x2 "java/lang/Object") (g_x0 : n0 ≤ x0) (g_x2 : n0 ≤ x2) (ne_x2_x0 : x2 ≠ x0) :
    MetFree l (⟨"java/util/ArrayList", "add", "(Ljava/lang/Object;[Ljava/lang/Object;I)V"⟩ : MethodName) (head1 (Jvm.Cond.code (⟨"java/util/ArrayList", "add", "(Ljava/lang/Object;[Ljava/lang/Object;I)V"⟩ : MethodName) jdk_38_method_24_code 4 none :: ws) ({ frames := 0, cells := 0, slots := 0, locals := 0 } : Room)) (fun a U => a = #[(.ref x0), (.ref x1), (.ref x2), (.int (1 : Int32))] ∧ Z.Warmed39 U.vm ∧ U.heap = h0) (fun _ _ _ _ _ => True) (fun _ U o U' => ∃ v L, o = .returned v ∧ Q16_1 Z x0 x1 x2 f0_modCount ka_x2 h0 n0 v U'.heap L ∧ FrameEnd U o U' L ({ frames := 0, cells := 0, slots := 0, locals := 0 } : Room).cells ({ frames := 0, cells := 0, slots := 0, locals := 0 } : Room).slots) := by
  refine MetFree.of_bodySF (plainFor_of_name pn_16) hisR ?_
  intro p e s m args below meth c s₁ Bd hml0 hP hK
  obtain ⟨rfl, hZ, hh⟩ := hP
  have w_20 := hw _ (List.mem_of_getElem? (i := 20) rfl)
  have w_39 := hw _ (List.mem_of_getElem? (i := 39) rfl)
  have w_42 := hw _ (List.mem_of_getElem? (i := 42) rfl)
  have w_87 := hw _ (List.mem_of_getElem? (i := 87) rfl)
  have w_88 := hw _ (List.mem_of_getElem? (i := 88) rfl)
  have w_144 := hw _ (List.mem_of_getElem? (i := 144) rfl)
  have hx := Bd.exec
  have hby := Bd.bytes
  have hml : c.maxLocals = 4 := hml0
  have hown : s.vm.findClass "java/util/ArrayList" = some m.cls := findClass_of_methodNamed Bd.named
  have hnm := (name_of_methodNamed Bd.named Bd.method).1
  have X0 : Stand p l e ({ frames := 0, cells := 0, slots := 0, locals := 0 } : Room) s m #[(.ref x0), (.ref x1), (.ref x2), (.int (1 : Int32))] below meth c s₁ [] 0 0 := Stand.of_body Bd
  have e0 : s₁.heap = h0 := by rw [← hh, Bd.state]; rfl
  have N0 := Fr.nil n0
  have K0 : Keep h0 h0 [x0, x2] := Keep.refl h0 _
  refine (?_ : Goes p e below s ({ frames := 0, cells := 0, slots := 0, locals := 0 } : Room).cells ({ frames := 0, cells := 0, slots := 0, locals := 0 } : Room).slots (fun v h L => Q16_1 Z x0 x1 x2 f0_modCount ka_x2 h0 n0 v h L) (s₁.setTop (entryFrame m #[(.ref x0), (.ref x1), (.ref x2), (.int (1 : Int32))] 4)))
  rw [ef_16_1 m x0 x1 x2 f0_modCount ka_x2 ]
  show Goes _ _ _ _ _ _ _ (s₁.setTop (mkF m 0 #[.val (.ref x0), .val (.ref x1), .val (.ref x2), .val (.int (1 : Int32))] []))
  refine Goes.step (fun _ k => XS.iloadN X0.here hx rfl (hb hby d16_0) rfl  k) ?_
  refine Goes.step (fun _ k => XS.aloadN X0.here hx rfl (hb hby d16_1) rfl rfl k) ?_
  obtain ⟨cl1, Ar1, q1, S1, P1, G1⟩ := id V_x2
  refine Goes.step (fun _ k => X0.arraylength hx (by rw [e0]; exact Ar1.1) (State.isArrayOf_alike hZ.alike Ar1.2.1) (g := (mkF m 2 #[.val (.ref x0), .val (.ref x1), .val (.ref x2), .val (.int (1 : Int32))] [(.ref x2), (.int (1 : Int32))])) rfl rfl (hb hby d16_2) _ k) ?_
  rw [len_of S1 P1]
  show Goes _ _ _ _ _ _ _ (s₁.setTop (mkF m 3 _ [(.int (10 : Int32)), (.int (1 : Int32))]))
  refine Goes.step (fun _ k => XS.icmpYes X0.here hx rfl (pc0 := 3) (pc' := 11) rfl (hb hby d16_3) rfl (feq (by decide : ¬ ((1 : Int32) = (10 : Int32)))).2 (by decide) (by decide) k) ?_
  show Goes _ _ _ _ _ _ _ (s₁.setTop (mkF m 11 _ []))
  refine Goes.step (fun _ k => XS.aloadN X0.here hx rfl (hb hby d16_11) rfl rfl k) ?_
  refine Goes.step (fun _ k => XS.iloadN X0.here hx rfl (hb hby d16_12) rfl  k) ?_
  refine Goes.step (fun _ k => XS.aloadN X0.here hx rfl (hb hby d16_13) rfl rfl k) ?_
  obtain ⟨cl2, Ar2, q2, S2, P2, G2⟩ := id V_x2
  have hin2 : ¬ ((1 : Int32) < 0 ∨ cl2.slots.size ≤ ((1 : Int32)).toNatClampNeg) := inb_of S2 ⟨by decide, by decide⟩
  obtain ⟨T3, h3, X3, e3, W3, st3⟩ := stR X0 hx hZ e0 Ar2 (j := (1 : Int32)) hin2 rfl (Sto.ofV Ar2 q2 O_x2 (Ins.of_exa E_x1 w_144)) (g := (mkF m 14 #[.val (.ref x0), .val (.ref x1), .val (.ref x2), .val (.int (1 : Int32))] [(.ref x1), (.int (1 : Int32)), (.ref x2)])) rfl rfl (hb hby d16_14)
  refine Goes.step st3 ?_
  have V3 := Arx.set Ar2 q2 S2 P2 G2 rfl W3
  have f4 := F0_modCount.other W3 (Or.inl (Ne.symm ne_x2_x0))
  have f5 := F0_elementData.other W3 (Or.inl (Ne.symm ne_x2_x0))
  have f6 := F0_size.other W3 (Or.inl (Ne.symm ne_x2_x0))
  have f7 := E_x0.wr W3
  have f8 := E_x1.wr W3
  have f9 := V3
  have K10 : Keep h0 h3 [x0, x2] := K0.wr W3 (Or.inl (List.mem_of_getElem? (i := 1) rfl))
  have Z10 : n0 ≤ h3.size := by rw [Wr.size W3]; exact Z0
  have N10 := Fr.snoc X3 N0 g_x2
  show Goes _ _ _ _ _ _ _ (T3.setTop (mkF m 15 _ []))
  refine Goes.step (fun _ k => XS.aloadN X3.here hx rfl (hb hby d16_15) rfl rfl k) ?_
  refine Goes.step (fun _ k => XS.iloadN X3.here hx rfl (hb hby d16_16) rfl  k) ?_
  refine Goes.step (fun _ k => XS.iconst X3.here hx rfl (hb hby d16_17) k) ?_
  refine Goes.step (fun _ k => XS.iadd X3.here hx rfl (hb hby d16_18) rfl k) ?_
  show Goes _ _ _ _ _ _ _ (T3.setTop (mkF m 19 _ [(.int (2 : Int32)), (.ref x0)]))
  obtain ⟨T11, h11, X11, e11, W11, st11⟩ := putF X3 hx hZ hown (host := "") (Or.inl w_87) Via.refl e3 f6 f7 (Or.inl w_88) w_20 (ty := .int) (by decide) rfl rfl (g := (mkF m 19 #[.val (.ref x0), .val (.ref x1), .val (.ref x2), .val (.int (1 : Int32))] [(.int (2 : Int32)), (.ref x0)])) rfl rfl (hb hby d16_19)
  refine Goes.step st11 ?_
  have f12 := f4.other W11 (Or.inr (slot_ne (Or.inl w_39) (Or.inl w_88) (by decide) (t := .int) (t' := .int) (by decide) (by decide)))
  have f13 := f5.other W11 (Or.inr (slot_ne (Or.inl w_42) (Or.inl w_88) (by decide) (t := (.array (.object "java/lang/Object"))) (t' := .int) (by decide) (by decide)))
  have f14 := f6.same W11
  have f15 := f7.wr W11
  have f16 := f8.wr W11
  have f17 := f9.other W11 ne_x2_x0
  have K18 : Keep h0 h11 [x0, x2] := K10.wr W11 (Or.inl (List.mem_of_getElem? (i := 0) rfl))
  have Z18 : n0 ≤ h11.size := by rw [Wr.size W11]; exact Z10
  have N18 := Fr.snoc X11 N10 g_x0
  show Goes _ _ _ _ _ _ _ (T11.setTop (mkF m 22 _ []))
  exact Goes.retV X11 hx (BodyLoose.notSynchronized Bd) Bd.returns (hb hby d16_22) (by show Q16_1 Z x0 x1 x2 f0_modCount ka_x2 h0 n0 none T11.heap _; rw [e11]; exact ⟨N18, K18, ⟨rfl, f12, f13, f14, f15, f17⟩⟩) (by decide) (by decide)
theorem ef_15_1 (m : MethodId) (x0 : Addr) (x1 : Addr) (f0_modCount : Int32) (f0_elementData : Addr) (ka_f0_elementData : ClassId)  : entryFrame m #[(.ref x0), (.ref x1)] 2 = mkF m 0 #[.val (.ref x0), .val (.ref x1)] [] := by first | (simp [entryFrame, mkF, argsToLocals, Value.category]; done) | rfl
def Q15_1 (Z : State) (x0 : Addr) (x1 : Addr) (f0_modCount : Int32) (f0_elementData : Addr) (ka_f0_elementData : ClassId) (h0 : Heap) (n0 : Nat) (v : Option Value) (h : Heap) (L : List Loc) : Prop := Fr n0 L ∧ Keep h0 h [x0, f0_elementData] ∧ ((v = some (.int (1 : Int32)) ∧ Exa Z h x0 "java/util/ArrayList" ∧ Fld Z h x0 "java/util/AbstractList" "modCount" "I" (.int (f0_modCount + (1 : Int32))) ∧ Fld Z h x0 "java/util/ArrayList" "elementData" "[Ljava/lang/Object;" (.ref f0_elementData) ∧ Fld Z h x0 "java/util/ArrayList" "size" "I" (.int (2 : Int32)) ∧ Arx Z h f0_elementData ka_f0_elementData (.object "java/lang/Object") (10 : Int32)))
set_option maxRecDepth 65536 in
set_option maxHeartbeats 40000000 in
theorem rm15_1 (l : Launch) (Z : State) (a0 : Array Value) (hw : ∀ d ∈ tables_1, d.before a0 Z = true) (ws : List Jvm.Cond) (x0 : Addr) (x1 : Addr) (f0_modCount : Int32) (f0_elementData : Addr) (ka_f0_elementData : ClassId) (h0 : Heap) (n0 : Nat) (Z0 : n0 ≤ h0.size) (F0_modCount : Fld Z h0 x0 "java/util/AbstractList" "modCount" "I" (.int f0_modCount)) (F0_elementData : Fld Z h0 x0 "java/util/ArrayList" "elementData" "[Ljava/lang/Object;" (.ref f0_elementData)) (F0_size : Fld Z h0 x0 "java/util/ArrayList" "size" "I" (.int (1 : Int32))) (E_x0 : Exa Z h0 x0 "java/util/ArrayList") (E_x1 : Exa Z h0 x1 "java/util/ArrayList") (V_f0_elementData : Arx Z h0 f0_elementData ka_f0_elementData (.object "java/lang/Object") (10 : Int32)) (O_f0_elementData : Ovr Z ka_f0_elementData "java/lang/Object") (g_x0 : n0 ≤ x0) (g_f0_elementData : n0 ≤ f0_elementData) (ne_f0_elementData_x0 : f0_elementData ≠ x0) :
    MetFree l (⟨"java/util/ArrayList", "add", "(Ljava/lang/Object;)Z"⟩ : MethodName) (head1 (Jvm.Cond.code (⟨"java/util/ArrayList", "add", "(Ljava/lang/Object;)Z"⟩ : MethodName) jdk_38_method_25_code 2 (some .boolean) :: ws) ({ frames := 1, cells := 0, slots := 0, locals := 15 } : Room)) (fun a U => a = #[(.ref x0), (.ref x1)] ∧ Z.Warmed39 U.vm ∧ U.heap = h0) (fun _ _ _ _ _ => True) (fun _ U o U' => ∃ v L, o = .returned v ∧ Q15_1 Z x0 x1 f0_modCount f0_elementData ka_f0_elementData h0 n0 v U'.heap L ∧ FrameEnd U o U' L ({ frames := 1, cells := 0, slots := 0, locals := 15 } : Room).cells ({ frames := 1, cells := 0, slots := 0, locals := 15 } : Room).slots) := by
  refine MetFree.of_bodySF (plainFor_of_name pn_15) hisR ?_
  intro p e s m args below meth c s₁ Bd hml0 hP hK
  obtain ⟨rfl, hZ, hh⟩ := hP
  have w_20 := hw _ (List.mem_of_getElem? (i := 20) rfl)
  have w_21 := hw _ (List.mem_of_getElem? (i := 21) rfl)
  have w_39 := hw _ (List.mem_of_getElem? (i := 39) rfl)
  have w_41 := hw _ (List.mem_of_getElem? (i := 41) rfl)
  have w_42 := hw _ (List.mem_of_getElem? (i := 42) rfl)
  have w_87 := hw _ (List.mem_of_getElem? (i := 87) rfl)
  have w_88 := hw _ (List.mem_of_getElem? (i := 88) rfl)
  have w_123 := hw _ (List.mem_of_getElem? (i := 123) rfl)
  have w_124 := hw _ (List.mem_of_getElem? (i := 124) rfl)
  have w_125 := hw _ (List.mem_of_getElem? (i := 125) rfl)
  have w_126 := hw _ (List.mem_of_getElem? (i := 126) rfl)
  have w_127 := hw _ (List.mem_of_getElem? (i := 127) rfl)
  have w_128 := hw _ (List.mem_of_getElem? (i := 128) rfl)
  have w_129 := hw _ (List.mem_of_getElem? (i := 129) rfl)
  have hx := Bd.exec
  have hby := Bd.bytes
  have hml : c.maxLocals = 2 := hml0
  have hown : s.vm.findClass "java/util/ArrayList" = some m.cls := findClass_of_methodNamed Bd.named
  have hnm := (name_of_methodNamed Bd.named Bd.method).1
  have X0 : Stand p l e ({ frames := 1, cells := 0, slots := 0, locals := 15 } : Room) s m #[(.ref x0), (.ref x1)] below meth c s₁ [] 0 0 := Stand.of_body Bd
  have e0 : s₁.heap = h0 := by rw [← hh, Bd.state]; rfl
  have N0 := Fr.nil n0
  have K0 : Keep h0 h0 [x0, f0_elementData] := Keep.refl h0 _
  refine (?_ : Goes p e below s ({ frames := 1, cells := 0, slots := 0, locals := 15 } : Room).cells ({ frames := 1, cells := 0, slots := 0, locals := 15 } : Room).slots (fun v h L => Q15_1 Z x0 x1 f0_modCount f0_elementData ka_f0_elementData h0 n0 v h L) (s₁.setTop (entryFrame m #[(.ref x0), (.ref x1)] 2)))
  rw [ef_15_1 m x0 x1 f0_modCount f0_elementData ka_f0_elementData ]
  show Goes _ _ _ _ _ _ _ (s₁.setTop (mkF m 0 #[.val (.ref x0), .val (.ref x1)] []))
  refine Goes.step (fun _ k => XS.aloadN X0.here hx rfl (hb hby d15_0) rfl rfl k) ?_
  refine Goes.step (fun _ k => XS.dup X0.here hx rfl (hb hby d15_1) rfl rfl k) ?_
  obtain ⟨T1, X1, e1, st1⟩ := getF X0 hx hZ hown (host := "") (Or.inl w_123) (Via.of w_124) e0 F0_modCount (g := (mkF m 2 #[.val (.ref x0), .val (.ref x1)] [(.ref x0), (.ref x0)])) rfl rfl (hb hby d15_2)
  refine Goes.step st1 ?_
  show Goes _ _ _ _ _ _ _ (T1.setTop (mkF m 5 _ [(.int f0_modCount), (.ref x0)]))
  refine Goes.step (fun _ k => XS.iconst X1.here hx rfl (hb hby d15_5) k) ?_
  refine Goes.step (fun _ k => XS.iadd X1.here hx rfl (hb hby d15_6) rfl k) ?_
  show Goes _ _ _ _ _ _ _ (T1.setTop (mkF m 7 _ [(.int (f0_modCount + (1 : Int32))), (.ref x0)]))
  obtain ⟨T2, h2, X2, e2, W2, st2⟩ := putF X1 hx hZ hown (host := "") (Or.inl w_123) (Via.of w_124) e1 F0_modCount E_x0 (Or.inl w_39) w_20 (ty := .int) (by decide) rfl rfl (g := (mkF m 7 #[.val (.ref x0), .val (.ref x1)] [(.int (f0_modCount + (1 : Int32))), (.ref x0)])) rfl rfl (hb hby d15_7)
  refine Goes.step st2 ?_
  have f3 := F0_modCount.same W2
  have f4 := F0_elementData.other W2 (Or.inr (slot_ne (Or.inl w_42) (Or.inl w_39) (by decide) (t := (.array (.object "java/lang/Object"))) (t' := .int) (by decide) (by decide)))
  have f5 := F0_size.other W2 (Or.inr (slot_ne (Or.inl w_88) (Or.inl w_39) (by decide) (t := .int) (t' := .int) (by decide) (by decide)))
  have f6 := E_x0.wr W2
  have f7 := E_x1.wr W2
  have f8 := V_f0_elementData.other W2 ne_f0_elementData_x0
  have K9 : Keep h0 h2 [x0, f0_elementData] := K0.wr W2 (Or.inl (List.mem_of_getElem? (i := 0) rfl))
  have Z9 : n0 ≤ h2.size := by rw [Wr.size W2]; exact Z0
  have N9 := Fr.snoc X2 N0 g_x0
  show Goes _ _ _ _ _ _ _ (T2.setTop (mkF m 10 _ []))
  refine Goes.step (fun _ k => XS.aloadN X2.here hx rfl (hb hby d15_10) rfl rfl k) ?_
  refine Goes.step (fun _ k => XS.aloadN X2.here hx rfl (hb hby d15_11) rfl rfl k) ?_
  refine Goes.step (fun _ k => XS.aloadN X2.here hx rfl (hb hby d15_12) rfl rfl k) ?_
  obtain ⟨T10, X10, e10, st10⟩ := getF X2 hx hZ hown (host := "") (Or.inl w_41) Via.refl e2 f4 (g := (mkF m 13 #[.val (.ref x0), .val (.ref x1)] [(.ref x0), (.ref x1), (.ref x0)])) rfl rfl (hb hby d15_13)
  refine Goes.step st10 ?_
  show Goes _ _ _ _ _ _ _ (T10.setTop (mkF m 16 _ [(.ref f0_elementData), (.ref x1), (.ref x0)]))
  refine Goes.step (fun _ k => XS.aloadN X10.here hx rfl (hb hby d15_16) rfl rfl k) ?_
  obtain ⟨T11, X11, e11, st11⟩ := getF X10 hx hZ hown (host := "") (Or.inl w_87) Via.refl e10 f5 (g := (mkF m 17 #[.val (.ref x0), .val (.ref x1)] [(.ref x0), (.ref f0_elementData), (.ref x1), (.ref x0)])) rfl rfl (hb hby d15_17)
  refine Goes.step st11 ?_
  show Goes _ _ _ _ _ _ _ (T11.setTop (mkF m 20 _ [(.int (1 : Int32)), (.ref f0_elementData), (.ref x1), (.ref x0)]))
  obtain ⟨cq12, q12, q12'⟩ := f6.cell
  obtain ⟨_, _, ⟨T12, L12, k12, n12⟩, -, X12, ⟨Lc12, hQ12, l12, y12, z12⟩, st12⟩ := X11.privateBack hx (y := (⟨"java/util/ArrayList", "add", "(Ljava/lang/Object;[Ljava/lang/Object;I)V"⟩ : MethodName)) hown (mvT hZ w_125) (mvT hZ w_126) (mvT hZ w_128) (Cond.privateMethod_at (mvP hZ w_127 (args := #[]))) (mvT hZ w_129) (by decide) (backOf (W := 0) (rm16_1 l Z a0 hw [] x0 x1 f0_elementData (f0_modCount + (1 : Int32)) ka_f0_elementData h2 n0 Z9 f3 f4 f5 f6 f7 f8 O_f0_elementData g_x0 g_f0_elementData ne_f0_elementData_x0) hZ w_129 w_21 (by decide) (by decide)) (g := (mkF m 20 #[.val (.ref x0), .val (.ref x1)] [(.int (1 : Int32)), (.ref f0_elementData), (.ref x1), (.ref x0)])) rfl (by rw [hml]; rfl) (Steps.refl _) (a := x0) (by rw [e11]; exact q12) q12' (argsL := [(.ref x1), (.ref f0_elementData), (.int (1 : Int32))]) (rest := []) (lenOf pd_12 rfl) rfl (by show 2 * 0 + _ ≤ _; exact Nat.le_of_eq rfl) (hb hby d15_20) (fun _ _ => ⟨rfl, e11, (by decide : 0 + 0 ≤ _), (by decide : 0 + 0 ≤ _)⟩)
  dsimp only [Pt.U, Pt.locs, Pt.cells, Pt.slots] at X12 l12 y12 z12 st12 hQ12
  rw [l12, y12, z12] at X12
  obtain ⟨N12, KK12, hR12⟩ := hQ12
  have NA12 := Fr.app N9 N12
  have f16 := f6.keep KK12
  have f17 := f7.keep KK12
  have K19 : Keep h0 T12.heap [x0, f0_elementData] := K9.trans KK12 (allS (Or.inl (List.mem_of_getElem? (i := 0) rfl)) (allS (Or.inl (List.mem_of_getElem? (i := 1) rfl)) all0))
  have Z19 : n0 ≤ T12.heap.size := Nat.le_trans Z9 KK12.1
  obtain ⟨rfl, v12_0_0, v12_0_1, v12_0_2, v12_0_3, v12_0_4⟩ := hR12
  refine Goes.back st12 ?_
  show Goes _ _ _ _ _ _ _ (T12.setTop (mkF m 23 _ []))
  refine Goes.step (fun _ k => XS.iconst X12.here hx rfl (hb hby d15_23) k) ?_
  exact Goes.ret X12 hx (BodyLoose.notSynchronized Bd) Bd.returns rfl (Or.inl ⟨rfl, by simp, _, rfl⟩) (hb hby d15_24) (by show Q15_1 Z x0 x1 f0_modCount f0_elementData ka_f0_elementData h0 n0 (some (.int (1 : Int32))) T12.heap _; exact ⟨NA12, K19, ⟨rfl, v12_0_3, v12_0_0, v12_0_1, v12_0_2, v12_0_4⟩⟩) (by decide) (by decide)
theorem ef_16_2 (m : MethodId) (x0 : Addr) (x1 : Addr) (x2 : Addr) (f0_modCount : Int32) (ka_x2 : ClassId)  : entryFrame m #[(.ref x0), (.ref x1), (.ref x2), (.int (2 : Int32))] 4 = mkF m 0 #[.val (.ref x0), .val (.ref x1), .val (.ref x2), .val (.int (2 : Int32))] [] := by first | (simp [entryFrame, mkF, argsToLocals, Value.category]; done) | rfl
def Q16_2 (Z : State) (x0 : Addr) (x1 : Addr) (x2 : Addr) (f0_modCount : Int32) (ka_x2 : ClassId) (h0 : Heap) (n0 : Nat) (v : Option Value) (h : Heap) (L : List Loc) : Prop := Fr n0 L ∧ Keep h0 h [x0, x2] ∧ ((v = none ∧ Fld Z h x0 "java/util/AbstractList" "modCount" "I" (.int f0_modCount) ∧ Fld Z h x0 "java/util/ArrayList" "elementData" "[Ljava/lang/Object;" (.ref x2) ∧ Fld Z h x0 "java/util/ArrayList" "size" "I" (.int (3 : Int32)) ∧ Exa Z h x0 "java/util/ArrayList" ∧ Arx Z h x2 ka_x2 (.object "java/lang/Object") (10 : Int32)))
set_option maxRecDepth 65536 in
set_option maxHeartbeats 40000000 in
theorem rm16_2 (l : Launch) (Z : State) (a0 : Array Value) (hw : ∀ d ∈ tables_1, d.before a0 Z = true) (ws : List Jvm.Cond) (x0 : Addr) (x1 : Addr) (x2 : Addr) (f0_modCount : Int32) (ka_x2 : ClassId) (h0 : Heap) (n0 : Nat) (Z0 : n0 ≤ h0.size) (F0_modCount : Fld Z h0 x0 "java/util/AbstractList" "modCount" "I" (.int f0_modCount)) (F0_elementData : Fld Z h0 x0 "java/util/ArrayList" "elementData" "[Ljava/lang/Object;" (.ref x2)) (F0_size : Fld Z h0 x0 "java/util/ArrayList" "size" "I" (.int (2 : Int32))) (E_x0 : Exa Z h0 x0 "java/util/ArrayList") (E_x1 : Exa Z h0 x1 "java/util/ArrayList") (V_x2 : Arx Z h0 x2 ka_x2 (.object "java/lang/Object") (10 : Int32)) (O_x2 : Ovr Z ka_x2 "java/lang/Object") (g_x0 : n0 ≤ x0) (g_x2 : n0 ≤ x2) (ne_x2_x0 : x2 ≠ x0) :
    MetFree l (⟨"java/util/ArrayList", "add", "(Ljava/lang/Object;[Ljava/lang/Object;I)V"⟩ : MethodName) (head1 (Jvm.Cond.code (⟨"java/util/ArrayList", "add", "(Ljava/lang/Object;[Ljava/lang/Object;I)V"⟩ : MethodName) jdk_38_method_24_code 4 none :: ws) ({ frames := 0, cells := 0, slots := 0, locals := 0 } : Room)) (fun a U => a = #[(.ref x0), (.ref x1), (.ref x2), (.int (2 : Int32))] ∧ Z.Warmed39 U.vm ∧ U.heap = h0) (fun _ _ _ _ _ => True) (fun _ U o U' => ∃ v L, o = .returned v ∧ Q16_2 Z x0 x1 x2 f0_modCount ka_x2 h0 n0 v U'.heap L ∧ FrameEnd U o U' L ({ frames := 0, cells := 0, slots := 0, locals := 0 } : Room).cells ({ frames := 0, cells := 0, slots := 0, locals := 0 } : Room).slots) := by
  refine MetFree.of_bodySF (plainFor_of_name pn_16) hisR ?_
  intro p e s m args below meth c s₁ Bd hml0 hP hK
  obtain ⟨rfl, hZ, hh⟩ := hP
  have w_20 := hw _ (List.mem_of_getElem? (i := 20) rfl)
  have w_39 := hw _ (List.mem_of_getElem? (i := 39) rfl)
  have w_42 := hw _ (List.mem_of_getElem? (i := 42) rfl)
  have w_87 := hw _ (List.mem_of_getElem? (i := 87) rfl)
  have w_88 := hw _ (List.mem_of_getElem? (i := 88) rfl)
  have w_144 := hw _ (List.mem_of_getElem? (i := 144) rfl)
  have hx := Bd.exec
  have hby := Bd.bytes
  have hml : c.maxLocals = 4 := hml0
  have hown : s.vm.findClass "java/util/ArrayList" = some m.cls := findClass_of_methodNamed Bd.named
  have hnm := (name_of_methodNamed Bd.named Bd.method).1
  have X0 : Stand p l e ({ frames := 0, cells := 0, slots := 0, locals := 0 } : Room) s m #[(.ref x0), (.ref x1), (.ref x2), (.int (2 : Int32))] below meth c s₁ [] 0 0 := Stand.of_body Bd
  have e0 : s₁.heap = h0 := by rw [← hh, Bd.state]; rfl
  have N0 := Fr.nil n0
  have K0 : Keep h0 h0 [x0, x2] := Keep.refl h0 _
  refine (?_ : Goes p e below s ({ frames := 0, cells := 0, slots := 0, locals := 0 } : Room).cells ({ frames := 0, cells := 0, slots := 0, locals := 0 } : Room).slots (fun v h L => Q16_2 Z x0 x1 x2 f0_modCount ka_x2 h0 n0 v h L) (s₁.setTop (entryFrame m #[(.ref x0), (.ref x1), (.ref x2), (.int (2 : Int32))] 4)))
  rw [ef_16_2 m x0 x1 x2 f0_modCount ka_x2 ]
  show Goes _ _ _ _ _ _ _ (s₁.setTop (mkF m 0 #[.val (.ref x0), .val (.ref x1), .val (.ref x2), .val (.int (2 : Int32))] []))
  refine Goes.step (fun _ k => XS.iloadN X0.here hx rfl (hb hby d16_0) rfl  k) ?_
  refine Goes.step (fun _ k => XS.aloadN X0.here hx rfl (hb hby d16_1) rfl rfl k) ?_
  obtain ⟨cl1, Ar1, q1, S1, P1, G1⟩ := id V_x2
  refine Goes.step (fun _ k => X0.arraylength hx (by rw [e0]; exact Ar1.1) (State.isArrayOf_alike hZ.alike Ar1.2.1) (g := (mkF m 2 #[.val (.ref x0), .val (.ref x1), .val (.ref x2), .val (.int (2 : Int32))] [(.ref x2), (.int (2 : Int32))])) rfl rfl (hb hby d16_2) _ k) ?_
  rw [len_of S1 P1]
  show Goes _ _ _ _ _ _ _ (s₁.setTop (mkF m 3 _ [(.int (10 : Int32)), (.int (2 : Int32))]))
  refine Goes.step (fun _ k => XS.icmpYes X0.here hx rfl (pc0 := 3) (pc' := 11) rfl (hb hby d16_3) rfl (feq (by decide : ¬ ((2 : Int32) = (10 : Int32)))).2 (by decide) (by decide) k) ?_
  show Goes _ _ _ _ _ _ _ (s₁.setTop (mkF m 11 _ []))
  refine Goes.step (fun _ k => XS.aloadN X0.here hx rfl (hb hby d16_11) rfl rfl k) ?_
  refine Goes.step (fun _ k => XS.iloadN X0.here hx rfl (hb hby d16_12) rfl  k) ?_
  refine Goes.step (fun _ k => XS.aloadN X0.here hx rfl (hb hby d16_13) rfl rfl k) ?_
  obtain ⟨cl2, Ar2, q2, S2, P2, G2⟩ := id V_x2
  have hin2 : ¬ ((2 : Int32) < 0 ∨ cl2.slots.size ≤ ((2 : Int32)).toNatClampNeg) := inb_of S2 ⟨by decide, by decide⟩
  obtain ⟨T3, h3, X3, e3, W3, st3⟩ := stR X0 hx hZ e0 Ar2 (j := (2 : Int32)) hin2 rfl (Sto.ofV Ar2 q2 O_x2 (Ins.of_exa E_x1 w_144)) (g := (mkF m 14 #[.val (.ref x0), .val (.ref x1), .val (.ref x2), .val (.int (2 : Int32))] [(.ref x1), (.int (2 : Int32)), (.ref x2)])) rfl rfl (hb hby d16_14)
  refine Goes.step st3 ?_
  have V3 := Arx.set Ar2 q2 S2 P2 G2 rfl W3
  have f4 := F0_modCount.other W3 (Or.inl (Ne.symm ne_x2_x0))
  have f5 := F0_elementData.other W3 (Or.inl (Ne.symm ne_x2_x0))
  have f6 := F0_size.other W3 (Or.inl (Ne.symm ne_x2_x0))
  have f7 := E_x0.wr W3
  have f8 := E_x1.wr W3
  have f9 := V3
  have K10 : Keep h0 h3 [x0, x2] := K0.wr W3 (Or.inl (List.mem_of_getElem? (i := 1) rfl))
  have Z10 : n0 ≤ h3.size := by rw [Wr.size W3]; exact Z0
  have N10 := Fr.snoc X3 N0 g_x2
  show Goes _ _ _ _ _ _ _ (T3.setTop (mkF m 15 _ []))
  refine Goes.step (fun _ k => XS.aloadN X3.here hx rfl (hb hby d16_15) rfl rfl k) ?_
  refine Goes.step (fun _ k => XS.iloadN X3.here hx rfl (hb hby d16_16) rfl  k) ?_
  refine Goes.step (fun _ k => XS.iconst X3.here hx rfl (hb hby d16_17) k) ?_
  refine Goes.step (fun _ k => XS.iadd X3.here hx rfl (hb hby d16_18) rfl k) ?_
  show Goes _ _ _ _ _ _ _ (T3.setTop (mkF m 19 _ [(.int (3 : Int32)), (.ref x0)]))
  obtain ⟨T11, h11, X11, e11, W11, st11⟩ := putF X3 hx hZ hown (host := "") (Or.inl w_87) Via.refl e3 f6 f7 (Or.inl w_88) w_20 (ty := .int) (by decide) rfl rfl (g := (mkF m 19 #[.val (.ref x0), .val (.ref x1), .val (.ref x2), .val (.int (2 : Int32))] [(.int (3 : Int32)), (.ref x0)])) rfl rfl (hb hby d16_19)
  refine Goes.step st11 ?_
  have f12 := f4.other W11 (Or.inr (slot_ne (Or.inl w_39) (Or.inl w_88) (by decide) (t := .int) (t' := .int) (by decide) (by decide)))
  have f13 := f5.other W11 (Or.inr (slot_ne (Or.inl w_42) (Or.inl w_88) (by decide) (t := (.array (.object "java/lang/Object"))) (t' := .int) (by decide) (by decide)))
  have f14 := f6.same W11
  have f15 := f7.wr W11
  have f16 := f8.wr W11
  have f17 := f9.other W11 ne_x2_x0
  have K18 : Keep h0 h11 [x0, x2] := K10.wr W11 (Or.inl (List.mem_of_getElem? (i := 0) rfl))
  have Z18 : n0 ≤ h11.size := by rw [Wr.size W11]; exact Z10
  have N18 := Fr.snoc X11 N10 g_x0
  show Goes _ _ _ _ _ _ _ (T11.setTop (mkF m 22 _ []))
  exact Goes.retV X11 hx (BodyLoose.notSynchronized Bd) Bd.returns (hb hby d16_22) (by show Q16_2 Z x0 x1 x2 f0_modCount ka_x2 h0 n0 none T11.heap _; rw [e11]; exact ⟨N18, K18, ⟨rfl, f12, f13, f14, f15, f17⟩⟩) (by decide) (by decide)
theorem ef_15_2 (m : MethodId) (x0 : Addr) (x1 : Addr) (f0_modCount : Int32) (f0_elementData : Addr) (ka_f0_elementData : ClassId)  : entryFrame m #[(.ref x0), (.ref x1)] 2 = mkF m 0 #[.val (.ref x0), .val (.ref x1)] [] := by first | (simp [entryFrame, mkF, argsToLocals, Value.category]; done) | rfl
def Q15_2 (Z : State) (x0 : Addr) (x1 : Addr) (f0_modCount : Int32) (f0_elementData : Addr) (ka_f0_elementData : ClassId) (h0 : Heap) (n0 : Nat) (v : Option Value) (h : Heap) (L : List Loc) : Prop := Fr n0 L ∧ Keep h0 h [x0, f0_elementData] ∧ ((v = some (.int (1 : Int32)) ∧ Exa Z h x0 "java/util/ArrayList" ∧ Fld Z h x0 "java/util/AbstractList" "modCount" "I" (.int (f0_modCount + (1 : Int32))) ∧ Fld Z h x0 "java/util/ArrayList" "elementData" "[Ljava/lang/Object;" (.ref f0_elementData) ∧ Fld Z h x0 "java/util/ArrayList" "size" "I" (.int (3 : Int32)) ∧ Arx Z h f0_elementData ka_f0_elementData (.object "java/lang/Object") (10 : Int32)))
set_option maxRecDepth 65536 in
set_option maxHeartbeats 40000000 in
theorem rm15_2 (l : Launch) (Z : State) (a0 : Array Value) (hw : ∀ d ∈ tables_1, d.before a0 Z = true) (ws : List Jvm.Cond) (x0 : Addr) (x1 : Addr) (f0_modCount : Int32) (f0_elementData : Addr) (ka_f0_elementData : ClassId) (h0 : Heap) (n0 : Nat) (Z0 : n0 ≤ h0.size) (F0_modCount : Fld Z h0 x0 "java/util/AbstractList" "modCount" "I" (.int f0_modCount)) (F0_elementData : Fld Z h0 x0 "java/util/ArrayList" "elementData" "[Ljava/lang/Object;" (.ref f0_elementData)) (F0_size : Fld Z h0 x0 "java/util/ArrayList" "size" "I" (.int (2 : Int32))) (E_x0 : Exa Z h0 x0 "java/util/ArrayList") (E_x1 : Exa Z h0 x1 "java/util/ArrayList") (V_f0_elementData : Arx Z h0 f0_elementData ka_f0_elementData (.object "java/lang/Object") (10 : Int32)) (O_f0_elementData : Ovr Z ka_f0_elementData "java/lang/Object") (g_x0 : n0 ≤ x0) (g_f0_elementData : n0 ≤ f0_elementData) (ne_f0_elementData_x0 : f0_elementData ≠ x0) :
    MetFree l (⟨"java/util/ArrayList", "add", "(Ljava/lang/Object;)Z"⟩ : MethodName) (head1 (Jvm.Cond.code (⟨"java/util/ArrayList", "add", "(Ljava/lang/Object;)Z"⟩ : MethodName) jdk_38_method_25_code 2 (some .boolean) :: ws) ({ frames := 1, cells := 0, slots := 0, locals := 15 } : Room)) (fun a U => a = #[(.ref x0), (.ref x1)] ∧ Z.Warmed39 U.vm ∧ U.heap = h0) (fun _ _ _ _ _ => True) (fun _ U o U' => ∃ v L, o = .returned v ∧ Q15_2 Z x0 x1 f0_modCount f0_elementData ka_f0_elementData h0 n0 v U'.heap L ∧ FrameEnd U o U' L ({ frames := 1, cells := 0, slots := 0, locals := 15 } : Room).cells ({ frames := 1, cells := 0, slots := 0, locals := 15 } : Room).slots) := by
  refine MetFree.of_bodySF (plainFor_of_name pn_15) hisR ?_
  intro p e s m args below meth c s₁ Bd hml0 hP hK
  obtain ⟨rfl, hZ, hh⟩ := hP
  have w_20 := hw _ (List.mem_of_getElem? (i := 20) rfl)
  have w_21 := hw _ (List.mem_of_getElem? (i := 21) rfl)
  have w_39 := hw _ (List.mem_of_getElem? (i := 39) rfl)
  have w_41 := hw _ (List.mem_of_getElem? (i := 41) rfl)
  have w_42 := hw _ (List.mem_of_getElem? (i := 42) rfl)
  have w_87 := hw _ (List.mem_of_getElem? (i := 87) rfl)
  have w_88 := hw _ (List.mem_of_getElem? (i := 88) rfl)
  have w_123 := hw _ (List.mem_of_getElem? (i := 123) rfl)
  have w_124 := hw _ (List.mem_of_getElem? (i := 124) rfl)
  have w_125 := hw _ (List.mem_of_getElem? (i := 125) rfl)
  have w_126 := hw _ (List.mem_of_getElem? (i := 126) rfl)
  have w_127 := hw _ (List.mem_of_getElem? (i := 127) rfl)
  have w_128 := hw _ (List.mem_of_getElem? (i := 128) rfl)
  have w_129 := hw _ (List.mem_of_getElem? (i := 129) rfl)
  have hx := Bd.exec
  have hby := Bd.bytes
  have hml : c.maxLocals = 2 := hml0
  have hown : s.vm.findClass "java/util/ArrayList" = some m.cls := findClass_of_methodNamed Bd.named
  have hnm := (name_of_methodNamed Bd.named Bd.method).1
  have X0 : Stand p l e ({ frames := 1, cells := 0, slots := 0, locals := 15 } : Room) s m #[(.ref x0), (.ref x1)] below meth c s₁ [] 0 0 := Stand.of_body Bd
  have e0 : s₁.heap = h0 := by rw [← hh, Bd.state]; rfl
  have N0 := Fr.nil n0
  have K0 : Keep h0 h0 [x0, f0_elementData] := Keep.refl h0 _
  refine (?_ : Goes p e below s ({ frames := 1, cells := 0, slots := 0, locals := 15 } : Room).cells ({ frames := 1, cells := 0, slots := 0, locals := 15 } : Room).slots (fun v h L => Q15_2 Z x0 x1 f0_modCount f0_elementData ka_f0_elementData h0 n0 v h L) (s₁.setTop (entryFrame m #[(.ref x0), (.ref x1)] 2)))
  rw [ef_15_2 m x0 x1 f0_modCount f0_elementData ka_f0_elementData ]
  show Goes _ _ _ _ _ _ _ (s₁.setTop (mkF m 0 #[.val (.ref x0), .val (.ref x1)] []))
  refine Goes.step (fun _ k => XS.aloadN X0.here hx rfl (hb hby d15_0) rfl rfl k) ?_
  refine Goes.step (fun _ k => XS.dup X0.here hx rfl (hb hby d15_1) rfl rfl k) ?_
  obtain ⟨T1, X1, e1, st1⟩ := getF X0 hx hZ hown (host := "") (Or.inl w_123) (Via.of w_124) e0 F0_modCount (g := (mkF m 2 #[.val (.ref x0), .val (.ref x1)] [(.ref x0), (.ref x0)])) rfl rfl (hb hby d15_2)
  refine Goes.step st1 ?_
  show Goes _ _ _ _ _ _ _ (T1.setTop (mkF m 5 _ [(.int f0_modCount), (.ref x0)]))
  refine Goes.step (fun _ k => XS.iconst X1.here hx rfl (hb hby d15_5) k) ?_
  refine Goes.step (fun _ k => XS.iadd X1.here hx rfl (hb hby d15_6) rfl k) ?_
  show Goes _ _ _ _ _ _ _ (T1.setTop (mkF m 7 _ [(.int (f0_modCount + (1 : Int32))), (.ref x0)]))
  obtain ⟨T2, h2, X2, e2, W2, st2⟩ := putF X1 hx hZ hown (host := "") (Or.inl w_123) (Via.of w_124) e1 F0_modCount E_x0 (Or.inl w_39) w_20 (ty := .int) (by decide) rfl rfl (g := (mkF m 7 #[.val (.ref x0), .val (.ref x1)] [(.int (f0_modCount + (1 : Int32))), (.ref x0)])) rfl rfl (hb hby d15_7)
  refine Goes.step st2 ?_
  have f3 := F0_modCount.same W2
  have f4 := F0_elementData.other W2 (Or.inr (slot_ne (Or.inl w_42) (Or.inl w_39) (by decide) (t := (.array (.object "java/lang/Object"))) (t' := .int) (by decide) (by decide)))
  have f5 := F0_size.other W2 (Or.inr (slot_ne (Or.inl w_88) (Or.inl w_39) (by decide) (t := .int) (t' := .int) (by decide) (by decide)))
  have f6 := E_x0.wr W2
  have f7 := E_x1.wr W2
  have f8 := V_f0_elementData.other W2 ne_f0_elementData_x0
  have K9 : Keep h0 h2 [x0, f0_elementData] := K0.wr W2 (Or.inl (List.mem_of_getElem? (i := 0) rfl))
  have Z9 : n0 ≤ h2.size := by rw [Wr.size W2]; exact Z0
  have N9 := Fr.snoc X2 N0 g_x0
  show Goes _ _ _ _ _ _ _ (T2.setTop (mkF m 10 _ []))
  refine Goes.step (fun _ k => XS.aloadN X2.here hx rfl (hb hby d15_10) rfl rfl k) ?_
  refine Goes.step (fun _ k => XS.aloadN X2.here hx rfl (hb hby d15_11) rfl rfl k) ?_
  refine Goes.step (fun _ k => XS.aloadN X2.here hx rfl (hb hby d15_12) rfl rfl k) ?_
  obtain ⟨T10, X10, e10, st10⟩ := getF X2 hx hZ hown (host := "") (Or.inl w_41) Via.refl e2 f4 (g := (mkF m 13 #[.val (.ref x0), .val (.ref x1)] [(.ref x0), (.ref x1), (.ref x0)])) rfl rfl (hb hby d15_13)
  refine Goes.step st10 ?_
  show Goes _ _ _ _ _ _ _ (T10.setTop (mkF m 16 _ [(.ref f0_elementData), (.ref x1), (.ref x0)]))
  refine Goes.step (fun _ k => XS.aloadN X10.here hx rfl (hb hby d15_16) rfl rfl k) ?_
  obtain ⟨T11, X11, e11, st11⟩ := getF X10 hx hZ hown (host := "") (Or.inl w_87) Via.refl e10 f5 (g := (mkF m 17 #[.val (.ref x0), .val (.ref x1)] [(.ref x0), (.ref f0_elementData), (.ref x1), (.ref x0)])) rfl rfl (hb hby d15_17)
  refine Goes.step st11 ?_
  show Goes _ _ _ _ _ _ _ (T11.setTop (mkF m 20 _ [(.int (2 : Int32)), (.ref f0_elementData), (.ref x1), (.ref x0)]))
  obtain ⟨cq12, q12, q12'⟩ := f6.cell
  obtain ⟨_, _, ⟨T12, L12, k12, n12⟩, -, X12, ⟨Lc12, hQ12, l12, y12, z12⟩, st12⟩ := X11.privateBack hx (y := (⟨"java/util/ArrayList", "add", "(Ljava/lang/Object;[Ljava/lang/Object;I)V"⟩ : MethodName)) hown (mvT hZ w_125) (mvT hZ w_126) (mvT hZ w_128) (Cond.privateMethod_at (mvP hZ w_127 (args := #[]))) (mvT hZ w_129) (by decide) (backOf (W := 0) (rm16_2 l Z a0 hw [] x0 x1 f0_elementData (f0_modCount + (1 : Int32)) ka_f0_elementData h2 n0 Z9 f3 f4 f5 f6 f7 f8 O_f0_elementData g_x0 g_f0_elementData ne_f0_elementData_x0) hZ w_129 w_21 (by decide) (by decide)) (g := (mkF m 20 #[.val (.ref x0), .val (.ref x1)] [(.int (2 : Int32)), (.ref f0_elementData), (.ref x1), (.ref x0)])) rfl (by rw [hml]; rfl) (Steps.refl _) (a := x0) (by rw [e11]; exact q12) q12' (argsL := [(.ref x1), (.ref f0_elementData), (.int (2 : Int32))]) (rest := []) (lenOf pd_12 rfl) rfl (by show 2 * 0 + _ ≤ _; exact Nat.le_of_eq rfl) (hb hby d15_20) (fun _ _ => ⟨rfl, e11, (by decide : 0 + 0 ≤ _), (by decide : 0 + 0 ≤ _)⟩)
  dsimp only [Pt.U, Pt.locs, Pt.cells, Pt.slots] at X12 l12 y12 z12 st12 hQ12
  rw [l12, y12, z12] at X12
  obtain ⟨N12, KK12, hR12⟩ := hQ12
  have NA12 := Fr.app N9 N12
  have f16 := f6.keep KK12
  have f17 := f7.keep KK12
  have K19 : Keep h0 T12.heap [x0, f0_elementData] := K9.trans KK12 (allS (Or.inl (List.mem_of_getElem? (i := 0) rfl)) (allS (Or.inl (List.mem_of_getElem? (i := 1) rfl)) all0))
  have Z19 : n0 ≤ T12.heap.size := Nat.le_trans Z9 KK12.1
  obtain ⟨rfl, v12_0_0, v12_0_1, v12_0_2, v12_0_3, v12_0_4⟩ := hR12
  refine Goes.back st12 ?_
  show Goes _ _ _ _ _ _ _ (T12.setTop (mkF m 23 _ []))
  refine Goes.step (fun _ k => XS.iconst X12.here hx rfl (hb hby d15_23) k) ?_
  exact Goes.ret X12 hx (BodyLoose.notSynchronized Bd) Bd.returns rfl (Or.inl ⟨rfl, by simp, _, rfl⟩) (hb hby d15_24) (by show Q15_2 Z x0 x1 f0_modCount f0_elementData ka_f0_elementData h0 n0 (some (.int (1 : Int32))) T12.heap _; exact ⟨NA12, K19, ⟨rfl, v12_0_3, v12_0_0, v12_0_1, v12_0_2, v12_0_4⟩⟩) (by decide) (by decide)
theorem ef_16_3 (m : MethodId) (x0 : Addr) (x1 : Addr) (x2 : Addr) (f0_modCount : Int32) (ka_x2 : ClassId)  : entryFrame m #[(.ref x0), (.ref x1), (.ref x2), (.int (3 : Int32))] 4 = mkF m 0 #[.val (.ref x0), .val (.ref x1), .val (.ref x2), .val (.int (3 : Int32))] [] := by first | (simp [entryFrame, mkF, argsToLocals, Value.category]; done) | rfl
def Q16_3 (Z : State) (x0 : Addr) (x1 : Addr) (x2 : Addr) (f0_modCount : Int32) (ka_x2 : ClassId) (h0 : Heap) (n0 : Nat) (v : Option Value) (h : Heap) (L : List Loc) : Prop := Fr n0 L ∧ Keep h0 h [x0, x2] ∧ ((v = none ∧ Fld Z h x0 "java/util/AbstractList" "modCount" "I" (.int f0_modCount) ∧ Fld Z h x0 "java/util/ArrayList" "elementData" "[Ljava/lang/Object;" (.ref x2) ∧ Fld Z h x0 "java/util/ArrayList" "size" "I" (.int (4 : Int32)) ∧ Exa Z h x0 "java/util/ArrayList" ∧ Arx Z h x2 ka_x2 (.object "java/lang/Object") (10 : Int32)))
set_option maxRecDepth 65536 in
set_option maxHeartbeats 40000000 in
theorem rm16_3 (l : Launch) (Z : State) (a0 : Array Value) (hw : ∀ d ∈ tables_1, d.before a0 Z = true) (ws : List Jvm.Cond) (x0 : Addr) (x1 : Addr) (x2 : Addr) (f0_modCount : Int32) (ka_x2 : ClassId) (h0 : Heap) (n0 : Nat) (Z0 : n0 ≤ h0.size) (F0_modCount : Fld Z h0 x0 "java/util/AbstractList" "modCount" "I" (.int f0_modCount)) (F0_elementData : Fld Z h0 x0 "java/util/ArrayList" "elementData" "[Ljava/lang/Object;" (.ref x2)) (F0_size : Fld Z h0 x0 "java/util/ArrayList" "size" "I" (.int (3 : Int32))) (E_x0 : Exa Z h0 x0 "java/util/ArrayList") (E_x1 : Exa Z h0 x1 "java/util/ArrayList") (V_x2 : Arx Z h0 x2 ka_x2 (.object "java/lang/Object") (10 : Int32)) (O_x2 : Ovr Z ka_x2 "java/lang/Object") (g_x0 : n0 ≤ x0) (g_x2 : n0 ≤ x2) (ne_x2_x0 : x2 ≠ x0) :
    MetFree l (⟨"java/util/ArrayList", "add", "(Ljava/lang/Object;[Ljava/lang/Object;I)V"⟩ : MethodName) (head1 (Jvm.Cond.code (⟨"java/util/ArrayList", "add", "(Ljava/lang/Object;[Ljava/lang/Object;I)V"⟩ : MethodName) jdk_38_method_24_code 4 none :: ws) ({ frames := 0, cells := 0, slots := 0, locals := 0 } : Room)) (fun a U => a = #[(.ref x0), (.ref x1), (.ref x2), (.int (3 : Int32))] ∧ Z.Warmed39 U.vm ∧ U.heap = h0) (fun _ _ _ _ _ => True) (fun _ U o U' => ∃ v L, o = .returned v ∧ Q16_3 Z x0 x1 x2 f0_modCount ka_x2 h0 n0 v U'.heap L ∧ FrameEnd U o U' L ({ frames := 0, cells := 0, slots := 0, locals := 0 } : Room).cells ({ frames := 0, cells := 0, slots := 0, locals := 0 } : Room).slots) := by
  refine MetFree.of_bodySF (plainFor_of_name pn_16) hisR ?_
  intro p e s m args below meth c s₁ Bd hml0 hP hK
  obtain ⟨rfl, hZ, hh⟩ := hP
  have w_20 := hw _ (List.mem_of_getElem? (i := 20) rfl)
  have w_39 := hw _ (List.mem_of_getElem? (i := 39) rfl)
  have w_42 := hw _ (List.mem_of_getElem? (i := 42) rfl)
  have w_87 := hw _ (List.mem_of_getElem? (i := 87) rfl)
  have w_88 := hw _ (List.mem_of_getElem? (i := 88) rfl)
  have w_144 := hw _ (List.mem_of_getElem? (i := 144) rfl)
  have hx := Bd.exec
  have hby := Bd.bytes
  have hml : c.maxLocals = 4 := hml0
  have hown : s.vm.findClass "java/util/ArrayList" = some m.cls := findClass_of_methodNamed Bd.named
  have hnm := (name_of_methodNamed Bd.named Bd.method).1
  have X0 : Stand p l e ({ frames := 0, cells := 0, slots := 0, locals := 0 } : Room) s m #[(.ref x0), (.ref x1), (.ref x2), (.int (3 : Int32))] below meth c s₁ [] 0 0 := Stand.of_body Bd
  have e0 : s₁.heap = h0 := by rw [← hh, Bd.state]; rfl
  have N0 := Fr.nil n0
  have K0 : Keep h0 h0 [x0, x2] := Keep.refl h0 _
  refine (?_ : Goes p e below s ({ frames := 0, cells := 0, slots := 0, locals := 0 } : Room).cells ({ frames := 0, cells := 0, slots := 0, locals := 0 } : Room).slots (fun v h L => Q16_3 Z x0 x1 x2 f0_modCount ka_x2 h0 n0 v h L) (s₁.setTop (entryFrame m #[(.ref x0), (.ref x1), (.ref x2), (.int (3 : Int32))] 4)))
  rw [ef_16_3 m x0 x1 x2 f0_modCount ka_x2 ]
  show Goes _ _ _ _ _ _ _ (s₁.setTop (mkF m 0 #[.val (.ref x0), .val (.ref x1), .val (.ref x2), .val (.int (3 : Int32))] []))
  refine Goes.step (fun _ k => XS.iloadN X0.here hx rfl (hb hby d16_0) rfl  k) ?_
  refine Goes.step (fun _ k => XS.aloadN X0.here hx rfl (hb hby d16_1) rfl rfl k) ?_
  obtain ⟨cl1, Ar1, q1, S1, P1, G1⟩ := id V_x2
  refine Goes.step (fun _ k => X0.arraylength hx (by rw [e0]; exact Ar1.1) (State.isArrayOf_alike hZ.alike Ar1.2.1) (g := (mkF m 2 #[.val (.ref x0), .val (.ref x1), .val (.ref x2), .val (.int (3 : Int32))] [(.ref x2), (.int (3 : Int32))])) rfl rfl (hb hby d16_2) _ k) ?_
  rw [len_of S1 P1]
  show Goes _ _ _ _ _ _ _ (s₁.setTop (mkF m 3 _ [(.int (10 : Int32)), (.int (3 : Int32))]))
  refine Goes.step (fun _ k => XS.icmpYes X0.here hx rfl (pc0 := 3) (pc' := 11) rfl (hb hby d16_3) rfl (feq (by decide : ¬ ((3 : Int32) = (10 : Int32)))).2 (by decide) (by decide) k) ?_
  show Goes _ _ _ _ _ _ _ (s₁.setTop (mkF m 11 _ []))
  refine Goes.step (fun _ k => XS.aloadN X0.here hx rfl (hb hby d16_11) rfl rfl k) ?_
  refine Goes.step (fun _ k => XS.iloadN X0.here hx rfl (hb hby d16_12) rfl  k) ?_
  refine Goes.step (fun _ k => XS.aloadN X0.here hx rfl (hb hby d16_13) rfl rfl k) ?_
  obtain ⟨cl2, Ar2, q2, S2, P2, G2⟩ := id V_x2
  have hin2 : ¬ ((3 : Int32) < 0 ∨ cl2.slots.size ≤ ((3 : Int32)).toNatClampNeg) := inb_of S2 ⟨by decide, by decide⟩
  obtain ⟨T3, h3, X3, e3, W3, st3⟩ := stR X0 hx hZ e0 Ar2 (j := (3 : Int32)) hin2 rfl (Sto.ofV Ar2 q2 O_x2 (Ins.of_exa E_x1 w_144)) (g := (mkF m 14 #[.val (.ref x0), .val (.ref x1), .val (.ref x2), .val (.int (3 : Int32))] [(.ref x1), (.int (3 : Int32)), (.ref x2)])) rfl rfl (hb hby d16_14)
  refine Goes.step st3 ?_
  have V3 := Arx.set Ar2 q2 S2 P2 G2 rfl W3
  have f4 := F0_modCount.other W3 (Or.inl (Ne.symm ne_x2_x0))
  have f5 := F0_elementData.other W3 (Or.inl (Ne.symm ne_x2_x0))
  have f6 := F0_size.other W3 (Or.inl (Ne.symm ne_x2_x0))
  have f7 := E_x0.wr W3
  have f8 := E_x1.wr W3
  have f9 := V3
  have K10 : Keep h0 h3 [x0, x2] := K0.wr W3 (Or.inl (List.mem_of_getElem? (i := 1) rfl))
  have Z10 : n0 ≤ h3.size := by rw [Wr.size W3]; exact Z0
  have N10 := Fr.snoc X3 N0 g_x2
  show Goes _ _ _ _ _ _ _ (T3.setTop (mkF m 15 _ []))
  refine Goes.step (fun _ k => XS.aloadN X3.here hx rfl (hb hby d16_15) rfl rfl k) ?_
  refine Goes.step (fun _ k => XS.iloadN X3.here hx rfl (hb hby d16_16) rfl  k) ?_
  refine Goes.step (fun _ k => XS.iconst X3.here hx rfl (hb hby d16_17) k) ?_
  refine Goes.step (fun _ k => XS.iadd X3.here hx rfl (hb hby d16_18) rfl k) ?_
  show Goes _ _ _ _ _ _ _ (T3.setTop (mkF m 19 _ [(.int (4 : Int32)), (.ref x0)]))
  obtain ⟨T11, h11, X11, e11, W11, st11⟩ := putF X3 hx hZ hown (host := "") (Or.inl w_87) Via.refl e3 f6 f7 (Or.inl w_88) w_20 (ty := .int) (by decide) rfl rfl (g := (mkF m 19 #[.val (.ref x0), .val (.ref x1), .val (.ref x2), .val (.int (3 : Int32))] [(.int (4 : Int32)), (.ref x0)])) rfl rfl (hb hby d16_19)
  refine Goes.step st11 ?_
  have f12 := f4.other W11 (Or.inr (slot_ne (Or.inl w_39) (Or.inl w_88) (by decide) (t := .int) (t' := .int) (by decide) (by decide)))
  have f13 := f5.other W11 (Or.inr (slot_ne (Or.inl w_42) (Or.inl w_88) (by decide) (t := (.array (.object "java/lang/Object"))) (t' := .int) (by decide) (by decide)))
  have f14 := f6.same W11
  have f15 := f7.wr W11
  have f16 := f8.wr W11
  have f17 := f9.other W11 ne_x2_x0
  have K18 : Keep h0 h11 [x0, x2] := K10.wr W11 (Or.inl (List.mem_of_getElem? (i := 0) rfl))
  have Z18 : n0 ≤ h11.size := by rw [Wr.size W11]; exact Z10
  have N18 := Fr.snoc X11 N10 g_x0
  show Goes _ _ _ _ _ _ _ (T11.setTop (mkF m 22 _ []))
  exact Goes.retV X11 hx (BodyLoose.notSynchronized Bd) Bd.returns (hb hby d16_22) (by show Q16_3 Z x0 x1 x2 f0_modCount ka_x2 h0 n0 none T11.heap _; rw [e11]; exact ⟨N18, K18, ⟨rfl, f12, f13, f14, f15, f17⟩⟩) (by decide) (by decide)
theorem ef_15_3 (m : MethodId) (x0 : Addr) (x1 : Addr) (f0_modCount : Int32) (f0_elementData : Addr) (ka_f0_elementData : ClassId)  : entryFrame m #[(.ref x0), (.ref x1)] 2 = mkF m 0 #[.val (.ref x0), .val (.ref x1)] [] := by first | (simp [entryFrame, mkF, argsToLocals, Value.category]; done) | rfl
def Q15_3 (Z : State) (x0 : Addr) (x1 : Addr) (f0_modCount : Int32) (f0_elementData : Addr) (ka_f0_elementData : ClassId) (h0 : Heap) (n0 : Nat) (v : Option Value) (h : Heap) (L : List Loc) : Prop := Fr n0 L ∧ Keep h0 h [x0, f0_elementData] ∧ ((v = some (.int (1 : Int32)) ∧ Exa Z h x0 "java/util/ArrayList" ∧ Fld Z h x0 "java/util/AbstractList" "modCount" "I" (.int (f0_modCount + (1 : Int32))) ∧ Fld Z h x0 "java/util/ArrayList" "elementData" "[Ljava/lang/Object;" (.ref f0_elementData) ∧ Fld Z h x0 "java/util/ArrayList" "size" "I" (.int (4 : Int32)) ∧ Arx Z h f0_elementData ka_f0_elementData (.object "java/lang/Object") (10 : Int32)))
set_option maxRecDepth 65536 in
set_option maxHeartbeats 40000000 in
theorem rm15_3 (l : Launch) (Z : State) (a0 : Array Value) (hw : ∀ d ∈ tables_1, d.before a0 Z = true) (ws : List Jvm.Cond) (x0 : Addr) (x1 : Addr) (f0_modCount : Int32) (f0_elementData : Addr) (ka_f0_elementData : ClassId) (h0 : Heap) (n0 : Nat) (Z0 : n0 ≤ h0.size) (F0_modCount : Fld Z h0 x0 "java/util/AbstractList" "modCount" "I" (.int f0_modCount)) (F0_elementData : Fld Z h0 x0 "java/util/ArrayList" "elementData" "[Ljava/lang/Object;" (.ref f0_elementData)) (F0_size : Fld Z h0 x0 "java/util/ArrayList" "size" "I" (.int (3 : Int32))) (E_x0 : Exa Z h0 x0 "java/util/ArrayList") (E_x1 : Exa Z h0 x1 "java/util/ArrayList") (V_f0_elementData : Arx Z h0 f0_elementData ka_f0_elementData (.object "java/lang/Object") (10 : Int32)) (O_f0_elementData : Ovr Z ka_f0_elementData "java/lang/Object") (g_x0 : n0 ≤ x0) (g_f0_elementData : n0 ≤ f0_elementData) (ne_f0_elementData_x0 : f0_elementData ≠ x0) :
    MetFree l (⟨"java/util/ArrayList", "add", "(Ljava/lang/Object;)Z"⟩ : MethodName) (head1 (Jvm.Cond.code (⟨"java/util/ArrayList", "add", "(Ljava/lang/Object;)Z"⟩ : MethodName) jdk_38_method_25_code 2 (some .boolean) :: ws) ({ frames := 1, cells := 0, slots := 0, locals := 15 } : Room)) (fun a U => a = #[(.ref x0), (.ref x1)] ∧ Z.Warmed39 U.vm ∧ U.heap = h0) (fun _ _ _ _ _ => True) (fun _ U o U' => ∃ v L, o = .returned v ∧ Q15_3 Z x0 x1 f0_modCount f0_elementData ka_f0_elementData h0 n0 v U'.heap L ∧ FrameEnd U o U' L ({ frames := 1, cells := 0, slots := 0, locals := 15 } : Room).cells ({ frames := 1, cells := 0, slots := 0, locals := 15 } : Room).slots) := by
  refine MetFree.of_bodySF (plainFor_of_name pn_15) hisR ?_
  intro p e s m args below meth c s₁ Bd hml0 hP hK
  obtain ⟨rfl, hZ, hh⟩ := hP
  have w_20 := hw _ (List.mem_of_getElem? (i := 20) rfl)
  have w_21 := hw _ (List.mem_of_getElem? (i := 21) rfl)
  have w_39 := hw _ (List.mem_of_getElem? (i := 39) rfl)
  have w_41 := hw _ (List.mem_of_getElem? (i := 41) rfl)
  have w_42 := hw _ (List.mem_of_getElem? (i := 42) rfl)
  have w_87 := hw _ (List.mem_of_getElem? (i := 87) rfl)
  have w_88 := hw _ (List.mem_of_getElem? (i := 88) rfl)
  have w_123 := hw _ (List.mem_of_getElem? (i := 123) rfl)
  have w_124 := hw _ (List.mem_of_getElem? (i := 124) rfl)
  have w_125 := hw _ (List.mem_of_getElem? (i := 125) rfl)
  have w_126 := hw _ (List.mem_of_getElem? (i := 126) rfl)
  have w_127 := hw _ (List.mem_of_getElem? (i := 127) rfl)
  have w_128 := hw _ (List.mem_of_getElem? (i := 128) rfl)
  have w_129 := hw _ (List.mem_of_getElem? (i := 129) rfl)
  have hx := Bd.exec
  have hby := Bd.bytes
  have hml : c.maxLocals = 2 := hml0
  have hown : s.vm.findClass "java/util/ArrayList" = some m.cls := findClass_of_methodNamed Bd.named
  have hnm := (name_of_methodNamed Bd.named Bd.method).1
  have X0 : Stand p l e ({ frames := 1, cells := 0, slots := 0, locals := 15 } : Room) s m #[(.ref x0), (.ref x1)] below meth c s₁ [] 0 0 := Stand.of_body Bd
  have e0 : s₁.heap = h0 := by rw [← hh, Bd.state]; rfl
  have N0 := Fr.nil n0
  have K0 : Keep h0 h0 [x0, f0_elementData] := Keep.refl h0 _
  refine (?_ : Goes p e below s ({ frames := 1, cells := 0, slots := 0, locals := 15 } : Room).cells ({ frames := 1, cells := 0, slots := 0, locals := 15 } : Room).slots (fun v h L => Q15_3 Z x0 x1 f0_modCount f0_elementData ka_f0_elementData h0 n0 v h L) (s₁.setTop (entryFrame m #[(.ref x0), (.ref x1)] 2)))
  rw [ef_15_3 m x0 x1 f0_modCount f0_elementData ka_f0_elementData ]
  show Goes _ _ _ _ _ _ _ (s₁.setTop (mkF m 0 #[.val (.ref x0), .val (.ref x1)] []))
  refine Goes.step (fun _ k => XS.aloadN X0.here hx rfl (hb hby d15_0) rfl rfl k) ?_
  refine Goes.step (fun _ k => XS.dup X0.here hx rfl (hb hby d15_1) rfl rfl k) ?_
  obtain ⟨T1, X1, e1, st1⟩ := getF X0 hx hZ hown (host := "") (Or.inl w_123) (Via.of w_124) e0 F0_modCount (g := (mkF m 2 #[.val (.ref x0), .val (.ref x1)] [(.ref x0), (.ref x0)])) rfl rfl (hb hby d15_2)
  refine Goes.step st1 ?_
  show Goes _ _ _ _ _ _ _ (T1.setTop (mkF m 5 _ [(.int f0_modCount), (.ref x0)]))
  refine Goes.step (fun _ k => XS.iconst X1.here hx rfl (hb hby d15_5) k) ?_
  refine Goes.step (fun _ k => XS.iadd X1.here hx rfl (hb hby d15_6) rfl k) ?_
  show Goes _ _ _ _ _ _ _ (T1.setTop (mkF m 7 _ [(.int (f0_modCount + (1 : Int32))), (.ref x0)]))
  obtain ⟨T2, h2, X2, e2, W2, st2⟩ := putF X1 hx hZ hown (host := "") (Or.inl w_123) (Via.of w_124) e1 F0_modCount E_x0 (Or.inl w_39) w_20 (ty := .int) (by decide) rfl rfl (g := (mkF m 7 #[.val (.ref x0), .val (.ref x1)] [(.int (f0_modCount + (1 : Int32))), (.ref x0)])) rfl rfl (hb hby d15_7)
  refine Goes.step st2 ?_
  have f3 := F0_modCount.same W2
  have f4 := F0_elementData.other W2 (Or.inr (slot_ne (Or.inl w_42) (Or.inl w_39) (by decide) (t := (.array (.object "java/lang/Object"))) (t' := .int) (by decide) (by decide)))
  have f5 := F0_size.other W2 (Or.inr (slot_ne (Or.inl w_88) (Or.inl w_39) (by decide) (t := .int) (t' := .int) (by decide) (by decide)))
  have f6 := E_x0.wr W2
  have f7 := E_x1.wr W2
  have f8 := V_f0_elementData.other W2 ne_f0_elementData_x0
  have K9 : Keep h0 h2 [x0, f0_elementData] := K0.wr W2 (Or.inl (List.mem_of_getElem? (i := 0) rfl))
  have Z9 : n0 ≤ h2.size := by rw [Wr.size W2]; exact Z0
  have N9 := Fr.snoc X2 N0 g_x0
  show Goes _ _ _ _ _ _ _ (T2.setTop (mkF m 10 _ []))
  refine Goes.step (fun _ k => XS.aloadN X2.here hx rfl (hb hby d15_10) rfl rfl k) ?_
  refine Goes.step (fun _ k => XS.aloadN X2.here hx rfl (hb hby d15_11) rfl rfl k) ?_
  refine Goes.step (fun _ k => XS.aloadN X2.here hx rfl (hb hby d15_12) rfl rfl k) ?_
  obtain ⟨T10, X10, e10, st10⟩ := getF X2 hx hZ hown (host := "") (Or.inl w_41) Via.refl e2 f4 (g := (mkF m 13 #[.val (.ref x0), .val (.ref x1)] [(.ref x0), (.ref x1), (.ref x0)])) rfl rfl (hb hby d15_13)
  refine Goes.step st10 ?_
  show Goes _ _ _ _ _ _ _ (T10.setTop (mkF m 16 _ [(.ref f0_elementData), (.ref x1), (.ref x0)]))
  refine Goes.step (fun _ k => XS.aloadN X10.here hx rfl (hb hby d15_16) rfl rfl k) ?_
  obtain ⟨T11, X11, e11, st11⟩ := getF X10 hx hZ hown (host := "") (Or.inl w_87) Via.refl e10 f5 (g := (mkF m 17 #[.val (.ref x0), .val (.ref x1)] [(.ref x0), (.ref f0_elementData), (.ref x1), (.ref x0)])) rfl rfl (hb hby d15_17)
  refine Goes.step st11 ?_
  show Goes _ _ _ _ _ _ _ (T11.setTop (mkF m 20 _ [(.int (3 : Int32)), (.ref f0_elementData), (.ref x1), (.ref x0)]))
  obtain ⟨cq12, q12, q12'⟩ := f6.cell
  obtain ⟨_, _, ⟨T12, L12, k12, n12⟩, -, X12, ⟨Lc12, hQ12, l12, y12, z12⟩, st12⟩ := X11.privateBack hx (y := (⟨"java/util/ArrayList", "add", "(Ljava/lang/Object;[Ljava/lang/Object;I)V"⟩ : MethodName)) hown (mvT hZ w_125) (mvT hZ w_126) (mvT hZ w_128) (Cond.privateMethod_at (mvP hZ w_127 (args := #[]))) (mvT hZ w_129) (by decide) (backOf (W := 0) (rm16_3 l Z a0 hw [] x0 x1 f0_elementData (f0_modCount + (1 : Int32)) ka_f0_elementData h2 n0 Z9 f3 f4 f5 f6 f7 f8 O_f0_elementData g_x0 g_f0_elementData ne_f0_elementData_x0) hZ w_129 w_21 (by decide) (by decide)) (g := (mkF m 20 #[.val (.ref x0), .val (.ref x1)] [(.int (3 : Int32)), (.ref f0_elementData), (.ref x1), (.ref x0)])) rfl (by rw [hml]; rfl) (Steps.refl _) (a := x0) (by rw [e11]; exact q12) q12' (argsL := [(.ref x1), (.ref f0_elementData), (.int (3 : Int32))]) (rest := []) (lenOf pd_12 rfl) rfl (by show 2 * 0 + _ ≤ _; exact Nat.le_of_eq rfl) (hb hby d15_20) (fun _ _ => ⟨rfl, e11, (by decide : 0 + 0 ≤ _), (by decide : 0 + 0 ≤ _)⟩)
  dsimp only [Pt.U, Pt.locs, Pt.cells, Pt.slots] at X12 l12 y12 z12 st12 hQ12
  rw [l12, y12, z12] at X12
  obtain ⟨N12, KK12, hR12⟩ := hQ12
  have NA12 := Fr.app N9 N12
  have f16 := f6.keep KK12
  have f17 := f7.keep KK12
  have K19 : Keep h0 T12.heap [x0, f0_elementData] := K9.trans KK12 (allS (Or.inl (List.mem_of_getElem? (i := 0) rfl)) (allS (Or.inl (List.mem_of_getElem? (i := 1) rfl)) all0))
  have Z19 : n0 ≤ T12.heap.size := Nat.le_trans Z9 KK12.1
  obtain ⟨rfl, v12_0_0, v12_0_1, v12_0_2, v12_0_3, v12_0_4⟩ := hR12
  refine Goes.back st12 ?_
  show Goes _ _ _ _ _ _ _ (T12.setTop (mkF m 23 _ []))
  refine Goes.step (fun _ k => XS.iconst X12.here hx rfl (hb hby d15_23) k) ?_
  exact Goes.ret X12 hx (BodyLoose.notSynchronized Bd) Bd.returns rfl (Or.inl ⟨rfl, by simp, _, rfl⟩) (hb hby d15_24) (by show Q15_3 Z x0 x1 f0_modCount f0_elementData ka_f0_elementData h0 n0 (some (.int (1 : Int32))) T12.heap _; exact ⟨NA12, K19, ⟨rfl, v12_0_3, v12_0_0, v12_0_1, v12_0_2, v12_0_4⟩⟩) (by decide) (by decide)
theorem d9_0 : decode prog_49_method_12_code 0 = .ok (.aload_n 0, 1) := by decide +kernel
theorem d9_1 : decode prog_49_method_12_code 1 = .ok (.getfield 24, 3) := by decide +kernel
theorem d9_4 : decode prog_49_method_12_code 4 = .ok (.aload_n 0, 1) := by decide +kernel
theorem d9_5 : decode prog_49_method_12_code 5 = .ok (.getfield 11, 3) := by decide +kernel
theorem d9_8 : decode prog_49_method_12_code 8 = .ok (.arraylength, 1) := by decide +kernel
theorem d9_9 : decode prog_49_method_12_code 9 = .ok (.if_icmp .ne 23, 3) := by decide +kernel
theorem d9_32 : decode prog_49_method_12_code 32 = .ok (.aload_n 0, 1) := by decide +kernel
theorem d9_33 : decode prog_49_method_12_code 33 = .ok (.getfield 11, 3) := by decide +kernel
theorem d9_36 : decode prog_49_method_12_code 36 = .ok (.aload_n 0, 1) := by decide +kernel
theorem d9_37 : decode prog_49_method_12_code 37 = .ok (.getfield 24, 3) := by decide +kernel
theorem d9_40 : decode prog_49_method_12_code 40 = .ok (.aload_n 1, 1) := by decide +kernel
theorem d9_41 : decode prog_49_method_12_code 41 = .ok (.aastore, 1) := by decide +kernel
theorem d9_42 : decode prog_49_method_12_code 42 = .ok (.aload_n 0, 1) := by decide +kernel
theorem d9_43 : decode prog_49_method_12_code 43 = .ok (.dup, 1) := by decide +kernel
theorem d9_44 : decode prog_49_method_12_code 44 = .ok (.getfield 24, 3) := by decide +kernel
theorem d9_47 : decode prog_49_method_12_code 47 = .ok (.iconst 1, 1) := by decide +kernel
theorem d9_48 : decode prog_49_method_12_code 48 = .ok (.iadd, 1) := by decide +kernel
theorem d9_49 : decode prog_49_method_12_code 49 = .ok (.putfield 24, 3) := by decide +kernel
theorem d9_52 : decode prog_49_method_12_code 52 = .ok (.aload_n 0, 1) := by decide +kernel
theorem d9_53 : decode prog_49_method_12_code 53 = .ok (.getfield 20, 3) := by decide +kernel
theorem d9_56 : decode prog_49_method_12_code 56 = .ok (.new 17, 3) := by decide +kernel
theorem d9_59 : decode prog_49_method_12_code 59 = .ok (.dup, 1) := by decide +kernel
theorem d9_60 : decode prog_49_method_12_code 60 = .ok (.aload_n 2, 1) := by decide +kernel
theorem d9_61 : decode prog_49_method_12_code 61 = .ok (.invokespecial 127, 3) := by decide +kernel
theorem d9_64 : decode prog_49_method_12_code 64 = .ok (.invokeinterface 91 2, 5) := by decide +kernel
theorem d9_69 : decode prog_49_method_12_code 69 = .ok (.pop, 1) := by decide +kernel
theorem d9_70 : decode prog_49_method_12_code 70 = .ok (.return_, 1) := by decide +kernel
theorem pn_9 : plainName "com/example/orbitloom/orbitloom/core/Timeline" = true := by first | (simp [plainName, overriddenIn]; done) | decide +kernel
theorem ef_9_0 (m : MethodId) (x0 : Addr) (x1 : Addr) (x2 : Addr) (y_DEFAULTCAPACITY_EMPTY_ELEMENTDATA : Addr) (y_EMPTY_ELEMENTDATA : Addr) (f0_entries : Addr) (f0_members : Addr) (f_f0_members_modCount : Int32) (ka_y_DEFAULTCAPACITY_EMPTY_ELEMENTDATA : ClassId) (ke : ClassId) (mr : Addr)  : entryFrame m #[(.ref x0), (.ref x1), (.ref x2)] 3 = mkF m 0 #[.val (.ref x0), .val (.ref x1), .val (.ref x2)] [] := by first | (simp [entryFrame, mkF, argsToLocals, Value.category]; done) | rfl
theorem pd_4 : parseMethodDescriptor "(Ljava/util/Collection;)V" = some ⟨[(.object "java/util/Collection")], none⟩ := by decide +kernel
theorem pd_11 : parseMethodDescriptor "(Ljava/lang/Object;)Z" = some ⟨[(.object "java/lang/Object")], some .boolean⟩ := by decide +kernel
def Q9_0 (Z : State) (x0 : Addr) (x1 : Addr) (x2 : Addr) (y_DEFAULTCAPACITY_EMPTY_ELEMENTDATA : Addr) (y_EMPTY_ELEMENTDATA : Addr) (f0_entries : Addr) (f0_members : Addr) (f_f0_members_modCount : Int32) (ka_y_DEFAULTCAPACITY_EMPTY_ELEMENTDATA : ClassId) (ke : ClassId) (mr : Addr) (h0 : Heap) (n0 : Nat) (v : Option Value) (h : Heap) (L : List Loc) : Prop := Fr n0 L ∧ Keep h0 h [x0, f0_entries, f0_members] ∧ ((∃ (r_0 : Addr) (r_1 : Addr) (k_0 : ClassId), v = none ∧ n0 ≤ r_0 ∧ h0.size ≤ r_0 ∧ n0 ≤ r_1 ∧ h0.size ≤ r_1 ∧ r_1 ≠ r_0 ∧ Fld Z h x0 "com/example/orbitloom/orbitloom/core/Timeline" "entries" "[Lcom/example/orbitloom/orbitloom/core/Timeline$Entry;" (.ref f0_entries) ∧ Fld Z h x0 "com/example/orbitloom/orbitloom/core/Timeline" "size" "I" (.int (1 : Int32)) ∧ Fld Z h x0 "com/example/orbitloom/orbitloom/core/Timeline" "members" "Ljava/util/List;" (.ref f0_members) ∧ Exa Z h x0 "com/example/orbitloom/orbitloom/core/Timeline" ∧ Exa Z h f0_members "java/util/ArrayList" ∧ Arv Z h f0_entries ke (.object "com/example/orbitloom/orbitloom/core/Timeline$Entry") (8 : Int32) [(.ref x1), .null, .null, .null, .null, .null, .null, .null] .null ∧ Exa Z h r_1 "java/util/ArrayList" ∧ Fld Z h r_1 "java/util/AbstractList" "modCount" "I" (.int (0 : Int32)) ∧ Fld Z h r_1 "java/util/ArrayList" "elementData" "[Ljava/lang/Object;" (.ref y_EMPTY_ELEMENTDATA) ∧ Fld Z h r_1 "java/util/ArrayList" "size" "I" (.int (0 : Int32)) ∧ Fld Z h f0_members "java/util/AbstractList" "modCount" "I" (.int (f_f0_members_modCount + (1 : Int32))) ∧ Fld Z h f0_members "java/util/ArrayList" "elementData" "[Ljava/lang/Object;" (.ref r_0) ∧ Fld Z h f0_members "java/util/ArrayList" "size" "I" (.int (1 : Int32)) ∧ Arv Z h r_0 k_0 (.object "java/lang/Object") (10 : Int32) [(.ref r_1), .null, .null, .null, .null, .null, .null, .null, .null, .null] .null ∧ Ovr Z k_0 "java/lang/Object"))
set_option maxRecDepth 65536 in
set_option maxHeartbeats 40000000 in
theorem rm9_0 (l : Launch) (Z : State) (a0 : Array Value) (hw : ∀ d ∈ tables_1, d.before a0 Z = true) (ws : List Jvm.Cond) (x0 : Addr) (x1 : Addr) (x2 : Addr) (y_DEFAULTCAPACITY_EMPTY_ELEMENTDATA : Addr) (y_EMPTY_ELEMENTDATA : Addr) (f0_entries : Addr) (f0_members : Addr) (f_f0_members_modCount : Int32) (ka_y_DEFAULTCAPACITY_EMPTY_ELEMENTDATA : ClassId) (ke : ClassId) (mr : Addr) (h0 : Heap) (n0 : Nat) (Z0 : n0 ≤ h0.size) (S_DEFAULTCAPACITY_EMPTY_ELEMENTDATA : Sta Z Z.heap "java/util/ArrayList" "DEFAULTCAPACITY_EMPTY_ELEMENTDATA" "[Ljava/lang/Object;" (.ref y_DEFAULTCAPACITY_EMPTY_ELEMENTDATA)) (S_EMPTY_ELEMENTDATA : Sta Z Z.heap "java/util/ArrayList" "EMPTY_ELEMENTDATA" "[Ljava/lang/Object;" (.ref y_EMPTY_ELEMENTDATA)) (X00 : Old Z n0 h0) (F0_entries : Fld Z h0 x0 "com/example/orbitloom/orbitloom/core/Timeline" "entries" "[Lcom/example/orbitloom/orbitloom/core/Timeline$Entry;" (.ref f0_entries)) (F0_size : Fld Z h0 x0 "com/example/orbitloom/orbitloom/core/Timeline" "size" "I" (.int (0 : Int32))) (F0_members : Fld Z h0 x0 "com/example/orbitloom/orbitloom/core/Timeline" "members" "Ljava/util/List;" (.ref f0_members)) (F_f0_members_modCount : Fld Z h0 f0_members "java/util/AbstractList" "modCount" "I" (.int f_f0_members_modCount)) (F_f0_members_elementData : Fld Z h0 f0_members "java/util/ArrayList" "elementData" "[Ljava/lang/Object;" (.ref y_DEFAULTCAPACITY_EMPTY_ELEMENTDATA)) (F_f0_members_size : Fld Z h0 f0_members "java/util/ArrayList" "size" "I" (.int (0 : Int32))) (F2_elementData : Fld Z h0 x2 "java/util/ArrayList" "elementData" "[Ljava/lang/Object;" (.ref y_DEFAULTCAPACITY_EMPTY_ELEMENTDATA)) (F2_size : Fld Z h0 x2 "java/util/ArrayList" "size" "I" (.int (0 : Int32))) (E_x0 : Exa Z h0 x0 "com/example/orbitloom/orbitloom/core/Timeline") (E_f0_members : Exa Z h0 f0_members "java/util/ArrayList") (E_x1 : Exa Z h0 x1 "com/example/orbitloom/orbitloom/core/Timeline$Entry") (E_x2 : Exa Z h0 x2 "java/util/ArrayList") (E_y_DEFAULTCAPACITY_EMPTY_ELEMENTDATA : Exa Z h0 y_DEFAULTCAPACITY_EMPTY_ELEMENTDATA "[Ljava/lang/Object;") (V_y_DEFAULTCAPACITY_EMPTY_ELEMENTDATA : Arx Z h0 y_DEFAULTCAPACITY_EMPTY_ELEMENTDATA ka_y_DEFAULTCAPACITY_EMPTY_ELEMENTDATA (.object "java/lang/Object") (0 : Int32)) (V_en : Arv Z h0 f0_entries ke (.object "com/example/orbitloom/orbitloom/core/Timeline$Entry") (8 : Int32) [.null, .null, .null, .null, .null, .null, .null, .null] .null) (O_en : Ovr Z ke "com/example/orbitloom/orbitloom/core/Timeline$Entry") (MR : MirO Z "[Ljava/lang/Object;" mr) (g_x0 : n0 ≤ x0) (g_f0_entries : n0 ≤ f0_entries) (g_f0_members : n0 ≤ f0_members) (ne_x0_f0_entries : x0 ≠ f0_entries) (ne_x0_f0_members : x0 ≠ f0_members) (ne_f0_members_f0_entries : f0_members ≠ f0_entries) (ne_x2_x0 : x2 ≠ x0) (ne_x2_f0_members : x2 ≠ f0_members) (ne_x2_f0_entries : x2 ≠ f0_entries) (ne_y_DEFAULTCAPACITY_EMPTY_ELEMENTDATA_x0 : y_DEFAULTCAPACITY_EMPTY_ELEMENTDATA ≠ x0) (ne_y_DEFAULTCAPACITY_EMPTY_ELEMENTDATA_f0_members : y_DEFAULTCAPACITY_EMPTY_ELEMENTDATA ≠ f0_members) (ne_y_DEFAULTCAPACITY_EMPTY_ELEMENTDATA_f0_entries : y_DEFAULTCAPACITY_EMPTY_ELEMENTDATA ≠ f0_entries) (ne_x1_x0 : x1 ≠ x0) (ne_x1_f0_members : x1 ≠ f0_members) (ne_x1_f0_entries : x1 ≠ f0_entries) :
    MetFree l (⟨"com/example/orbitloom/orbitloom/core/Timeline", "append", "(Lcom/example/orbitloom/orbitloom/core/Timeline$Entry;Ljava/util/List;)V"⟩ : MethodName) (head1 (Jvm.Cond.code (⟨"com/example/orbitloom/orbitloom/core/Timeline", "append", "(Lcom/example/orbitloom/orbitloom/core/Timeline$Entry;Ljava/util/List;)V"⟩ : MethodName) prog_49_method_12_code 3 none :: ws) ({ frames := 5, cells := 3, slots := 13, locals := 74 } : Room)) (fun a U => a = #[(.ref x0), (.ref x1), (.ref x2)] ∧ Z.Warmed39 U.vm ∧ U.heap = h0) (fun _ _ _ _ _ => True) (fun _ U o U' => ∃ v L, o = .returned v ∧ Q9_0 Z x0 x1 x2 y_DEFAULTCAPACITY_EMPTY_ELEMENTDATA y_EMPTY_ELEMENTDATA f0_entries f0_members f_f0_members_modCount ka_y_DEFAULTCAPACITY_EMPTY_ELEMENTDATA ke mr h0 n0 v U'.heap L ∧ FrameEnd U o U' L ({ frames := 5, cells := 3, slots := 13, locals := 74 } : Room).cells ({ frames := 5, cells := 3, slots := 13, locals := 74 } : Room).slots) := by
  refine MetFree.of_bodySF (plainFor_of_name pn_9) hisR ?_
  intro p e s m args below meth c s₁ Bd hml0 hP hK
  obtain ⟨rfl, hZ, hh⟩ := hP
  have w_7 := hw _ (List.mem_of_getElem? (i := 7) rfl)
  have w_17 := hw _ (List.mem_of_getElem? (i := 17) rfl)
  have w_18 := hw _ (List.mem_of_getElem? (i := 18) rfl)
  have w_19 := hw _ (List.mem_of_getElem? (i := 19) rfl)
  have w_20 := hw _ (List.mem_of_getElem? (i := 20) rfl)
  have w_21 := hw _ (List.mem_of_getElem? (i := 21) rfl)
  have w_39 := hw _ (List.mem_of_getElem? (i := 39) rfl)
  have w_42 := hw _ (List.mem_of_getElem? (i := 42) rfl)
  have w_43 := hw _ (List.mem_of_getElem? (i := 43) rfl)
  have w_44 := hw _ (List.mem_of_getElem? (i := 44) rfl)
  have w_72 := hw _ (List.mem_of_getElem? (i := 72) rfl)
  have w_73 := hw _ (List.mem_of_getElem? (i := 73) rfl)
  have w_75 := hw _ (List.mem_of_getElem? (i := 75) rfl)
  have w_76 := hw _ (List.mem_of_getElem? (i := 76) rfl)
  have w_77 := hw _ (List.mem_of_getElem? (i := 77) rfl)
  have w_88 := hw _ (List.mem_of_getElem? (i := 88) rfl)
  have w_114 := hw _ (List.mem_of_getElem? (i := 114) rfl)
  have w_115 := hw _ (List.mem_of_getElem? (i := 115) rfl)
  have w_116 := hw _ (List.mem_of_getElem? (i := 116) rfl)
  have w_117 := hw _ (List.mem_of_getElem? (i := 117) rfl)
  have w_118 := hw _ (List.mem_of_getElem? (i := 118) rfl)
  have w_119 := hw _ (List.mem_of_getElem? (i := 119) rfl)
  have w_120 := hw _ (List.mem_of_getElem? (i := 120) rfl)
  have w_121 := hw _ (List.mem_of_getElem? (i := 121) rfl)
  have w_122 := hw _ (List.mem_of_getElem? (i := 122) rfl)
  have hx := Bd.exec
  have hby := Bd.bytes
  have hml : c.maxLocals = 3 := hml0
  have hown : s.vm.findClass "com/example/orbitloom/orbitloom/core/Timeline" = some m.cls := findClass_of_methodNamed Bd.named
  have hnm := (name_of_methodNamed Bd.named Bd.method).1
  have X0 : Stand p l e ({ frames := 5, cells := 3, slots := 13, locals := 74 } : Room) s m #[(.ref x0), (.ref x1), (.ref x2)] below meth c s₁ [] 0 0 := Stand.of_body Bd
  have e0 : s₁.heap = h0 := by rw [← hh, Bd.state]; rfl
  have N0 := Fr.nil n0
  have K0 : Keep h0 h0 [x0, f0_entries, f0_members] := Keep.refl h0 _
  refine (?_ : Goes p e below s ({ frames := 5, cells := 3, slots := 13, locals := 74 } : Room).cells ({ frames := 5, cells := 3, slots := 13, locals := 74 } : Room).slots (fun v h L => Q9_0 Z x0 x1 x2 y_DEFAULTCAPACITY_EMPTY_ELEMENTDATA y_EMPTY_ELEMENTDATA f0_entries f0_members f_f0_members_modCount ka_y_DEFAULTCAPACITY_EMPTY_ELEMENTDATA ke mr h0 n0 v h L) (s₁.setTop (entryFrame m #[(.ref x0), (.ref x1), (.ref x2)] 3)))
  rw [ef_9_0 m x0 x1 x2 y_DEFAULTCAPACITY_EMPTY_ELEMENTDATA y_EMPTY_ELEMENTDATA f0_entries f0_members f_f0_members_modCount ka_y_DEFAULTCAPACITY_EMPTY_ELEMENTDATA ke mr ]
  show Goes _ _ _ _ _ _ _ (s₁.setTop (mkF m 0 #[.val (.ref x0), .val (.ref x1), .val (.ref x2)] []))
  refine Goes.step (fun _ k => XS.aloadN X0.here hx rfl (hb hby d9_0) rfl rfl k) ?_
  obtain ⟨T1, X1, e1, st1⟩ := getF X0 hx hZ hown (host := "") (Or.inl w_72) Via.refl e0 F0_size (g := (mkF m 1 #[.val (.ref x0), .val (.ref x1), .val (.ref x2)] [(.ref x0)])) rfl rfl (hb hby d9_1)
  refine Goes.step st1 ?_
  show Goes _ _ _ _ _ _ _ (T1.setTop (mkF m 4 _ [(.int (0 : Int32))]))
  refine Goes.step (fun _ k => XS.aloadN X1.here hx rfl (hb hby d9_4) rfl rfl k) ?_
  obtain ⟨T2, X2, e2, st2⟩ := getF X1 hx hZ hown (host := "") (Or.inl w_17) Via.refl e1 F0_entries (g := (mkF m 5 #[.val (.ref x0), .val (.ref x1), .val (.ref x2)] [(.ref x0), (.int (0 : Int32))])) rfl rfl (hb hby d9_5)
  refine Goes.step st2 ?_
  show Goes _ _ _ _ _ _ _ (T2.setTop (mkF m 8 _ [(.ref f0_entries), (.int (0 : Int32))]))
  obtain ⟨cl3, Ar3, q3, S3, P3, H3, G3⟩ := id V_en
  refine Goes.step (fun _ k => X2.arraylength hx (by rw [e2]; exact Ar3.1) (State.isArrayOf_alike hZ.alike Ar3.2.1) (g := (mkF m 8 #[.val (.ref x0), .val (.ref x1), .val (.ref x2)] [(.ref f0_entries), (.int (0 : Int32))])) rfl rfl (hb hby d9_8) _ k) ?_
  rw [len_of S3 P3]
  show Goes _ _ _ _ _ _ _ (T2.setTop (mkF m 9 _ [(.int (8 : Int32)), (.int (0 : Int32))]))
  refine Goes.step (fun _ k => XS.icmpYes X2.here hx rfl (pc0 := 9) (pc' := 32) rfl (hb hby d9_9) rfl (feq (by decide : ¬ ((0 : Int32) = (8 : Int32)))).2 (by decide) (by decide) k) ?_
  show Goes _ _ _ _ _ _ _ (T2.setTop (mkF m 32 _ []))
  refine Goes.step (fun _ k => XS.aloadN X2.here hx rfl (hb hby d9_32) rfl rfl k) ?_
  obtain ⟨T4, X4, e4, st4⟩ := getF X2 hx hZ hown (host := "") (Or.inl w_17) Via.refl e2 F0_entries (g := (mkF m 33 #[.val (.ref x0), .val (.ref x1), .val (.ref x2)] [(.ref x0)])) rfl rfl (hb hby d9_33)
  refine Goes.step st4 ?_
  show Goes _ _ _ _ _ _ _ (T4.setTop (mkF m 36 _ [(.ref f0_entries)]))
  refine Goes.step (fun _ k => XS.aloadN X4.here hx rfl (hb hby d9_36) rfl rfl k) ?_
  obtain ⟨T5, X5, e5, st5⟩ := getF X4 hx hZ hown (host := "") (Or.inl w_72) Via.refl e4 F0_size (g := (mkF m 37 #[.val (.ref x0), .val (.ref x1), .val (.ref x2)] [(.ref x0), (.ref f0_entries)])) rfl rfl (hb hby d9_37)
  refine Goes.step st5 ?_
  show Goes _ _ _ _ _ _ _ (T5.setTop (mkF m 40 _ [(.int (0 : Int32)), (.ref f0_entries)]))
  refine Goes.step (fun _ k => XS.aloadN X5.here hx rfl (hb hby d9_40) rfl rfl k) ?_
  obtain ⟨cl6, Ar6, q6, S6, P6, H6, G6⟩ := id V_en
  have hin6 : ¬ ((0 : Int32) < 0 ∨ cl6.slots.size ≤ ((0 : Int32)).toNatClampNeg) := inb_of S6 ⟨by decide, by decide⟩
  obtain ⟨T7, h7, X7, e7, W7, st7⟩ := stR X5 hx hZ e5 Ar6 (j := (0 : Int32)) hin6 rfl (Sto.ofV Ar6 q6 O_en (Ins.self E_x1)) (g := (mkF m 41 #[.val (.ref x0), .val (.ref x1), .val (.ref x2)] [(.ref x1), (.int (0 : Int32)), (.ref f0_entries)])) rfl rfl (hb hby d9_41)
  refine Goes.step st7 ?_
  have V7 := Arv.set Ar6 q6 S6 P6 H6 G6 rfl W7 0 rfl (Nat.le_of_ble_eq_true rfl)
  have XO8 : Old Z n0 h7 := X00.wr W7 g_f0_entries
  have f9 := F0_entries.other W7 (Or.inl ne_x0_f0_entries)
  have f10 := F0_size.other W7 (Or.inl ne_x0_f0_entries)
  have f11 := F0_members.other W7 (Or.inl ne_x0_f0_entries)
  have f12 := F_f0_members_modCount.other W7 (Or.inl ne_f0_members_f0_entries)
  have f13 := F_f0_members_elementData.other W7 (Or.inl ne_f0_members_f0_entries)
  have f14 := F_f0_members_size.other W7 (Or.inl ne_f0_members_f0_entries)
  have f15 := F2_elementData.other W7 (Or.inl ne_x2_f0_entries)
  have f16 := F2_size.other W7 (Or.inl ne_x2_f0_entries)
  have f17 := E_x0.wr W7
  have f18 := E_f0_members.wr W7
  have f19 := E_x1.wr W7
  have f20 := E_x2.wr W7
  have f21 := E_y_DEFAULTCAPACITY_EMPTY_ELEMENTDATA.wr W7
  have f22 := V_y_DEFAULTCAPACITY_EMPTY_ELEMENTDATA.other W7 ne_y_DEFAULTCAPACITY_EMPTY_ELEMENTDATA_f0_entries
  have f23 := V7
  have K24 : Keep h0 h7 [x0, f0_entries, f0_members] := K0.wr W7 (Or.inl (List.mem_of_getElem? (i := 1) rfl))
  have Z24 : n0 ≤ h7.size := by rw [Wr.size W7]; exact Z0
  have N24 := Fr.snoc X7 N0 g_f0_entries
  show Goes _ _ _ _ _ _ _ (T7.setTop (mkF m 42 #[.val (.ref x0), .val (.ref x1), .val (.ref x2)] []))
  refine Goes.step (fun _ k => XS.aloadN X7.here hx rfl (hb hby d9_42) rfl rfl k) ?_
  refine Goes.step (fun _ k => XS.dup X7.here hx rfl (hb hby d9_43) rfl rfl k) ?_
  obtain ⟨T25, X25, e25, st25⟩ := getF X7 hx hZ hown (host := "") (Or.inl w_72) Via.refl e7 f10 (g := (mkF m 44 #[.val (.ref x0), .val (.ref x1), .val (.ref x2)] [(.ref x0), (.ref x0)])) rfl rfl (hb hby d9_44)
  refine Goes.step st25 ?_
  show Goes _ _ _ _ _ _ _ (T25.setTop (mkF m 47 _ [(.int (0 : Int32)), (.ref x0)]))
  refine Goes.step (fun _ k => XS.iconst X25.here hx rfl (hb hby d9_47) k) ?_
  refine Goes.step (fun _ k => XS.iadd X25.here hx rfl (hb hby d9_48) rfl k) ?_
  show Goes _ _ _ _ _ _ _ (T25.setTop (mkF m 49 _ [(.int (1 : Int32)), (.ref x0)]))
  obtain ⟨T26, h26, X26, e26, W26, st26⟩ := putF X25 hx hZ hown (host := "") (Or.inl w_72) Via.refl e25 f10 f17 (Or.inl w_73) w_7 (ty := .int) (by decide) rfl rfl (g := (mkF m 49 #[.val (.ref x0), .val (.ref x1), .val (.ref x2)] [(.int (1 : Int32)), (.ref x0)])) rfl rfl (hb hby d9_49)
  refine Goes.step st26 ?_
  have XO27 : Old Z n0 h26 := XO8.wr W26 g_x0
  have f28 := f9.other W26 (Or.inr (slot_ne (Or.inl w_18) (Or.inl w_73) (by decide) (t := (.array (.object "com/example/orbitloom/orbitloom/core/Timeline$Entry"))) (t' := .int) (by decide) (by decide)))
  have f29 := f10.same W26
  have f30 := f11.other W26 (Or.inr (slot_ne (Or.inr w_44) (Or.inl w_73) (by decide) (t := (.object "java/util/List")) (t' := .int) (by decide) (by decide)))
  have f31 := f12.other W26 (Or.inl (Ne.symm ne_x0_f0_members))
  have f32 := f13.other W26 (Or.inl (Ne.symm ne_x0_f0_members))
  have f33 := f14.other W26 (Or.inl (Ne.symm ne_x0_f0_members))
  have f34 := f15.other W26 (Or.inl ne_x2_x0)
  have f35 := f16.other W26 (Or.inl ne_x2_x0)
  have f36 := f17.wr W26
  have f37 := f18.wr W26
  have f38 := f19.wr W26
  have f39 := f20.wr W26
  have f40 := f21.wr W26
  have f41 := f22.other W26 ne_y_DEFAULTCAPACITY_EMPTY_ELEMENTDATA_x0
  have f42 := f23.other W26 (Ne.symm ne_x0_f0_entries)
  have K43 : Keep h0 h26 [x0, f0_entries, f0_members] := K24.wr W26 (Or.inl (List.mem_of_getElem? (i := 0) rfl))
  have Z43 : n0 ≤ h26.size := by rw [Wr.size W26]; exact Z24
  have N43 := Fr.snoc X26 N24 g_x0
  show Goes _ _ _ _ _ _ _ (T26.setTop (mkF m 52 _ []))
  refine Goes.step (fun _ k => XS.aloadN X26.here hx rfl (hb hby d9_52) rfl rfl k) ?_
  obtain ⟨T44, X44, e44, st44⟩ := getF X26 hx hZ hown (host := "") (Or.inl w_43) Via.refl e26 f30 (g := (mkF m 53 #[.val (.ref x0), .val (.ref x1), .val (.ref x2)] [(.ref x0)])) rfl rfl (hb hby d9_53)
  refine Goes.step st44 ?_
  show Goes _ _ _ _ _ _ _ (T44.setTop (mkF m 56 _ [(.ref f0_members)]))
  obtain ⟨T45, h45, X45, e45, E45, A45, D45, -, st45⟩ := newO X44 hx hZ hown w_19 w_20 w_21 e44 (g := (mkF m 56 #[.val (.ref x0), .val (.ref x1), .val (.ref x2)] [(.ref f0_members)])) rfl (hb hby d9_56) (by decide) (by decide)
  obtain ⟨b45, g45⟩ : ∃ z, z = h26.size := ⟨_, rfl⟩
  rw [← g45] at A45 D45 st45
  refine Goes.step st45 ?_
  have g_b45 : n0 ≤ b45 := Nat.le_trans Z43 (Nat.le_of_eq g45.symm)
  have sz_b45 : h0.size ≤ b45 := Nat.le_trans K43.1 (Nat.le_of_eq g45.symm)
  have ne46 : x0 ≠ b45 := Nat.ne_of_lt (Nat.lt_of_lt_of_le f28.lt (Nat.le_of_eq g45.symm))
  have ne47 : f0_members ≠ b45 := Nat.ne_of_lt (Nat.lt_of_lt_of_le f31.lt (Nat.le_of_eq g45.symm))
  have ne48 : x2 ≠ b45 := Nat.ne_of_lt (Nat.lt_of_lt_of_le f34.lt (Nat.le_of_eq g45.symm))
  have ne49 : x1 ≠ b45 := Nat.ne_of_lt (Nat.lt_of_lt_of_le f38.lt (Nat.le_of_eq g45.symm))
  have ne50 : y_DEFAULTCAPACITY_EMPTY_ELEMENTDATA ≠ b45 := Nat.ne_of_lt (Nat.lt_of_lt_of_le f40.lt (Nat.le_of_eq g45.symm))
  have ne51 : f0_entries ≠ b45 := Nat.ne_of_lt (Nat.lt_of_lt_of_le f42.lt (Nat.le_of_eq g45.symm))
  have XO52 : Old Z n0 h45 := XO27.ext E45
  have f53 := f28.ext E45
  have f54 := f29.ext E45
  have f55 := f30.ext E45
  have f56 := f31.ext E45
  have f57 := f32.ext E45
  have f58 := f33.ext E45
  have f59 := f34.ext E45
  have f60 := f35.ext E45
  have f61 := f36.ext E45
  have f62 := f37.ext E45
  have f63 := f38.ext E45
  have f64 := f39.ext E45
  have f65 := f40.ext E45
  have f66 := f41.ext E45
  have f67 := f42.ext E45
  have K68 : Keep h0 h45 [x0, f0_entries, f0_members] := K43.ext E45
  have Z68 : n0 ≤ h45.size := Nat.le_trans Z43 E45.1
  have E_b45 := A45
  have F_modCount_b45 : Fld Z h45 b45 "java/util/AbstractList" "modCount" "I" (.int (0 : Int32)) := D45 (Or.inl w_39) (ty := .int) (by decide)
  have F_elementData_b45 : Fld Z h45 b45 "java/util/ArrayList" "elementData" "[Ljava/lang/Object;" .null := D45 (Or.inl w_42) (ty := (.array (.object "java/lang/Object"))) (by decide)
  have F_size_b45 : Fld Z h45 b45 "java/util/ArrayList" "size" "I" (.int (0 : Int32)) := D45 (Or.inl w_88) (ty := .int) (by decide)
  show Goes _ _ _ _ _ _ _ (T45.setTop (mkF m 59 _ [(.ref b45), (.ref f0_members)]))
  refine Goes.step (fun _ k => XS.dup X45.here hx rfl (hb hby d9_59) rfl rfl k) ?_
  refine Goes.step (fun _ k => XS.aloadN X45.here hx rfl (hb hby d9_60) rfl rfl k) ?_
  obtain ⟨_, _, ⟨T69, L69, k69, n69⟩, -, X69, ⟨Lc69, hQ69, l69, y69, z69⟩, st69⟩ := X45.specialBack hx (y := (⟨"java/util/ArrayList", "<init>", "(Ljava/util/Collection;)V"⟩ : MethodName)) rfl hown (mvT hZ w_75) (mvT hZ w_76) (mvT hZ w_77) (by decide) (backOf (W := 2) (rm10 l Z a0 hw [] b45 x2 y_DEFAULTCAPACITY_EMPTY_ELEMENTDATA y_EMPTY_ELEMENTDATA (0 : Int32) ka_y_DEFAULTCAPACITY_EMPTY_ELEMENTDATA mr h45 n0 Z68 S_DEFAULTCAPACITY_EMPTY_ELEMENTDATA S_EMPTY_ELEMENTDATA XO52 F_modCount_b45 F_elementData_b45 F_size_b45 f59 f60 E_b45 f64 f65 f66 MR g_b45 ne48 ne50) hZ w_77 w_21 (by decide) (by decide)) (g := (mkF m 61 #[.val (.ref x0), .val (.ref x1), .val (.ref x2)] [(.ref x2), (.ref b45), (.ref b45), (.ref f0_members)])) rfl (by rw [hml]; rfl) (Steps.refl _) (a := b45) (argsL := [(.ref x2)]) (rest := [(.ref b45), (.ref f0_members)]) (lenOf pd_4 rfl) rfl (by show 2 * 0 + _ ≤ _; exact Nat.le_of_eq rfl) (hb hby d9_61) (fun _ _ => ⟨rfl, e45, (by decide : 1 + 1 ≤ _), (by decide : 3 + 0 ≤ _)⟩)
  dsimp only [Pt.U, Pt.locs, Pt.cells, Pt.slots] at X69 l69 y69 z69 st69 hQ69
  rw [l69, y69, z69] at X69
  obtain ⟨N69, KK69, hR69⟩ := hQ69
  have NA69 := Fr.app N43 N69
  have XO70 : Old Z n0 T69.heap := XO52.keep KK69 (allS g_b45 all0)
  have f71 := f53.keep KK69 (ninS ne46 nin0)
  have f72 := f54.keep KK69 (ninS ne46 nin0)
  have f73 := f55.keep KK69 (ninS ne46 nin0)
  have f74 := f56.keep KK69 (ninS ne47 nin0)
  have f75 := f57.keep KK69 (ninS ne47 nin0)
  have f76 := f58.keep KK69 (ninS ne47 nin0)
  have f77 := f59.keep KK69 (ninS ne48 nin0)
  have f78 := f60.keep KK69 (ninS ne48 nin0)
  have f79 := f61.keep KK69
  have f80 := f62.keep KK69
  have f81 := f63.keep KK69
  have f82 := f64.keep KK69
  have f83 := f65.keep KK69
  have f84 := f66.keep KK69 (ninS ne50 nin0)
  have f85 := f67.keep KK69 (ninS ne51 nin0)
  have f86 := E_b45.keep KK69
  have K90 : Keep h0 T69.heap [x0, f0_entries, f0_members] := K68.trans KK69 (allS (Or.inr sz_b45) all0)
  have Z90 : n0 ≤ T69.heap.size := Nat.le_trans Z68 KK69.1
  obtain ⟨rfl, v69_0_0, v69_0_1, v69_0_2, v69_0_3⟩ := hR69
  refine Goes.back st69 ?_
  show Goes _ _ _ _ _ _ _ (T69.setTop (mkF m 64 _ [(.ref b45), (.ref f0_members)]))
  obtain ⟨cq91, kq91, q91a, q91b, q91c⟩ := isOf hZ rfl f80
  obtain ⟨_, _, ⟨T91, L91, k91, n91⟩, -, X91, ⟨Lc91, hQ91, l91, y91, z91⟩, st91⟩ := X69.interfaceBack hx (xi := (⟨"java/util/List", "add", "(Ljava/lang/Object;)Z"⟩ : MethodName)) (y := (⟨"java/util/ArrayList", "add", "(Ljava/lang/Object;)Z"⟩ : MethodName)) hown (mvT hZ w_114) (mvT hZ w_115) (mvT hZ w_116) (mvT hZ w_117) (mvT hZ w_118) (mvT hZ w_119) (mvT hZ w_120) (mvT hZ w_121) (by decide) (backOf (W := 0) (rm15_0 l Z a0 hw [] f0_members b45 y_DEFAULTCAPACITY_EMPTY_ELEMENTDATA f_f0_members_modCount ka_y_DEFAULTCAPACITY_EMPTY_ELEMENTDATA T69.heap n0 Z90 S_DEFAULTCAPACITY_EMPTY_ELEMENTDATA XO70 f74 f75 f76 f80 v69_0_0 f84 g_f0_members ne_y_DEFAULTCAPACITY_EMPTY_ELEMENTDATA_f0_members) hZ w_122 w_21 (by decide) (by decide)) q91a q91b q91c (g := (mkF m 64 #[.val (.ref x0), .val (.ref x1), .val (.ref x2)] [(.ref b45), (.ref f0_members)])) rfl (by rw [hml]; rfl) (Steps.refl _) (argsL := [(.ref b45)]) (rest := []) (lenOf pd_11 rfl) rfl (by show 2 * 0 + _ ≤ _; exact Nat.le_of_eq rfl) (hb hby d9_64) (fun _ _ => ⟨rfl, rfl, (by decide : 2 + 1 ≤ _), (by decide : 3 + 10 ≤ _)⟩)
  dsimp only [Pt.U, Pt.locs, Pt.cells, Pt.slots] at X91 l91 y91 z91 st91 hQ91
  rw [l91, y91, z91] at X91
  obtain ⟨N91, KK91, hR91⟩ := hQ91
  have NA91 := Fr.app NA69 N91
  have XO92 : Old Z n0 T91.heap := XO70.keep KK91 (allS g_f0_members all0)
  have f93 := f71.keep KK91 (ninS ne_x0_f0_members nin0)
  have f94 := f72.keep KK91 (ninS ne_x0_f0_members nin0)
  have f95 := f73.keep KK91 (ninS ne_x0_f0_members nin0)
  have f99 := f77.keep KK91 (ninS ne_x2_f0_members nin0)
  have f100 := f78.keep KK91 (ninS ne_x2_f0_members nin0)
  have f101 := f79.keep KK91
  have f102 := f80.keep KK91
  have f103 := f81.keep KK91
  have f104 := f82.keep KK91
  have f105 := f83.keep KK91
  have f106 := f84.keep KK91 (ninS ne_y_DEFAULTCAPACITY_EMPTY_ELEMENTDATA_f0_members nin0)
  have f107 := f85.keep KK91 (ninS (Ne.symm ne_f0_members_f0_entries) nin0)
  have f108 := v69_0_0.keep KK91
  have f109 := v69_0_1.keep KK91 (ninS (Ne.symm ne47) nin0)
  have f110 := v69_0_2.keep KK91 (ninS (Ne.symm ne47) nin0)
  have f111 := v69_0_3.keep KK91 (ninS (Ne.symm ne47) nin0)
  have K112 : Keep h0 T91.heap [x0, f0_entries, f0_members] := K90.trans KK91 (allS (Or.inl (List.mem_of_getElem? (i := 2) rfl)) all0)
  have Z112 : n0 ≤ T91.heap.size := Nat.le_trans Z90 KK91.1
  obtain ⟨r91_0_0, kk91_0_0, rfl, g_r91_0_0, le_r91_0_0, v91_0_0, v91_0_1, v91_0_2, v91_0_3, v91_0_4, oo91_0_0⟩ := hR91
  have ne113 : x0 ≠ r91_0_0 := Nat.ne_of_lt (Nat.lt_of_lt_of_le f71.lt le_r91_0_0)
  have ne114 : f0_members ≠ r91_0_0 := Nat.ne_of_lt (Nat.lt_of_lt_of_le f74.lt le_r91_0_0)
  have ne115 : x2 ≠ r91_0_0 := Nat.ne_of_lt (Nat.lt_of_lt_of_le f77.lt le_r91_0_0)
  have ne116 : x1 ≠ r91_0_0 := Nat.ne_of_lt (Nat.lt_of_lt_of_le f81.lt le_r91_0_0)
  have ne117 : y_DEFAULTCAPACITY_EMPTY_ELEMENTDATA ≠ r91_0_0 := Nat.ne_of_lt (Nat.lt_of_lt_of_le f83.lt le_r91_0_0)
  have ne118 : f0_entries ≠ r91_0_0 := Nat.ne_of_lt (Nat.lt_of_lt_of_le f85.lt le_r91_0_0)
  have ne119 : b45 ≠ r91_0_0 := Nat.ne_of_lt (Nat.lt_of_lt_of_le v69_0_0.lt le_r91_0_0)
  have sz_r91_0_0 : h0.size ≤ r91_0_0 := Nat.le_trans K90.1 le_r91_0_0
  refine Goes.back st91 ?_
  show Goes _ _ _ _ _ _ _ (T91.setTop (mkF m 69 #[.val (.ref x0), .val (.ref x1), .val (.ref x2)] [(.int (1 : Int32))]))
  refine Goes.step (fun _ k => XS.pop X91.here hx rfl (hb hby d9_69) rfl rfl k) ?_
  show Goes _ _ _ _ _ _ _ (T91.setTop (mkF m 70 _ []))
  exact Goes.retV X91 hx (BodyLoose.notSynchronized Bd) Bd.returns (hb hby d9_70) (by show Q9_0 Z x0 x1 x2 y_DEFAULTCAPACITY_EMPTY_ELEMENTDATA y_EMPTY_ELEMENTDATA f0_entries f0_members f_f0_members_modCount ka_y_DEFAULTCAPACITY_EMPTY_ELEMENTDATA ke mr h0 n0 none T91.heap _; exact ⟨NA91, K112, ⟨r91_0_0, b45, kk91_0_0, rfl, g_r91_0_0, sz_r91_0_0, g_b45, sz_b45, ne119, f93, f94, f95, f101, v91_0_0, f107, f108, f109, f110, f111, v91_0_1, v91_0_2, v91_0_3, v91_0_4, oo91_0_0⟩⟩) (by decide) (by decide)
theorem ef_9_1 (m : MethodId) (x0 : Addr) (x1 : Addr) (x2 : Addr) (y_DEFAULTCAPACITY_EMPTY_ELEMENTDATA : Addr) (y_EMPTY_ELEMENTDATA : Addr) (f0_entries : Addr) (f0_members : Addr) (f_f0_members_modCount : Int32) (f_f0_members_elementData : Addr) (ka_y_DEFAULTCAPACITY_EMPTY_ELEMENTDATA : ClassId) (ka_f_f0_members_elementData : ClassId) (ke : ClassId) (mr : Addr) (en0 : Addr)  : entryFrame m #[(.ref x0), (.ref x1), (.ref x2)] 3 = mkF m 0 #[.val (.ref x0), .val (.ref x1), .val (.ref x2)] [] := by first | (simp [entryFrame, mkF, argsToLocals, Value.category]; done) | rfl
def Q9_1 (Z : State) (x0 : Addr) (x1 : Addr) (x2 : Addr) (y_DEFAULTCAPACITY_EMPTY_ELEMENTDATA : Addr) (y_EMPTY_ELEMENTDATA : Addr) (f0_entries : Addr) (f0_members : Addr) (f_f0_members_modCount : Int32) (f_f0_members_elementData : Addr) (ka_y_DEFAULTCAPACITY_EMPTY_ELEMENTDATA : ClassId) (ka_f_f0_members_elementData : ClassId) (ke : ClassId) (mr : Addr) (en0 : Addr) (h0 : Heap) (n0 : Nat) (v : Option Value) (h : Heap) (L : List Loc) : Prop := Fr n0 L ∧ Keep h0 h [x0, f0_entries, f0_members, f_f0_members_elementData] ∧ ((v = none ∧ Fld Z h x0 "com/example/orbitloom/orbitloom/core/Timeline" "entries" "[Lcom/example/orbitloom/orbitloom/core/Timeline$Entry;" (.ref f0_entries) ∧ Fld Z h x0 "com/example/orbitloom/orbitloom/core/Timeline" "size" "I" (.int (2 : Int32)) ∧ Fld Z h x0 "com/example/orbitloom/orbitloom/core/Timeline" "members" "Ljava/util/List;" (.ref f0_members) ∧ Exa Z h x0 "com/example/orbitloom/orbitloom/core/Timeline" ∧ Exa Z h f0_members "java/util/ArrayList" ∧ Arv Z h f0_entries ke (.object "com/example/orbitloom/orbitloom/core/Timeline$Entry") (8 : Int32) [(.ref en0), (.ref x1), .null, .null, .null, .null, .null, .null] .null ∧ Fld Z h f0_members "java/util/AbstractList" "modCount" "I" (.int (f_f0_members_modCount + (1 : Int32))) ∧ Fld Z h f0_members "java/util/ArrayList" "elementData" "[Ljava/lang/Object;" (.ref f_f0_members_elementData) ∧ Fld Z h f0_members "java/util/ArrayList" "size" "I" (.int (2 : Int32)) ∧ Arx Z h f_f0_members_elementData ka_f_f0_members_elementData (.object "java/lang/Object") (10 : Int32)))
set_option maxRecDepth 65536 in
set_option maxHeartbeats 40000000 in
theorem rm9_1 (l : Launch) (Z : State) (a0 : Array Value) (hw : ∀ d ∈ tables_1, d.before a0 Z = true) (ws : List Jvm.Cond) (x0 : Addr) (x1 : Addr) (x2 : Addr) (y_DEFAULTCAPACITY_EMPTY_ELEMENTDATA : Addr) (y_EMPTY_ELEMENTDATA : Addr) (f0_entries : Addr) (f0_members : Addr) (f_f0_members_modCount : Int32) (f_f0_members_elementData : Addr) (ka_y_DEFAULTCAPACITY_EMPTY_ELEMENTDATA : ClassId) (ka_f_f0_members_elementData : ClassId) (ke : ClassId) (mr : Addr) (en0 : Addr) (h0 : Heap) (n0 : Nat) (Z0 : n0 ≤ h0.size) (S_DEFAULTCAPACITY_EMPTY_ELEMENTDATA : Sta Z Z.heap "java/util/ArrayList" "DEFAULTCAPACITY_EMPTY_ELEMENTDATA" "[Ljava/lang/Object;" (.ref y_DEFAULTCAPACITY_EMPTY_ELEMENTDATA)) (S_EMPTY_ELEMENTDATA : Sta Z Z.heap "java/util/ArrayList" "EMPTY_ELEMENTDATA" "[Ljava/lang/Object;" (.ref y_EMPTY_ELEMENTDATA)) (X00 : Old Z n0 h0) (F0_entries : Fld Z h0 x0 "com/example/orbitloom/orbitloom/core/Timeline" "entries" "[Lcom/example/orbitloom/orbitloom/core/Timeline$Entry;" (.ref f0_entries)) (F0_size : Fld Z h0 x0 "com/example/orbitloom/orbitloom/core/Timeline" "size" "I" (.int (1 : Int32))) (F0_members : Fld Z h0 x0 "com/example/orbitloom/orbitloom/core/Timeline" "members" "Ljava/util/List;" (.ref f0_members)) (F_f0_members_modCount : Fld Z h0 f0_members "java/util/AbstractList" "modCount" "I" (.int f_f0_members_modCount)) (F_f0_members_elementData : Fld Z h0 f0_members "java/util/ArrayList" "elementData" "[Ljava/lang/Object;" (.ref f_f0_members_elementData)) (F_f0_members_size : Fld Z h0 f0_members "java/util/ArrayList" "size" "I" (.int (1 : Int32))) (F2_elementData : Fld Z h0 x2 "java/util/ArrayList" "elementData" "[Ljava/lang/Object;" (.ref y_DEFAULTCAPACITY_EMPTY_ELEMENTDATA)) (F2_size : Fld Z h0 x2 "java/util/ArrayList" "size" "I" (.int (0 : Int32))) (E_x0 : Exa Z h0 x0 "com/example/orbitloom/orbitloom/core/Timeline") (E_f0_members : Exa Z h0 f0_members "java/util/ArrayList") (E_x1 : Exa Z h0 x1 "com/example/orbitloom/orbitloom/core/Timeline$Entry") (E_x2 : Exa Z h0 x2 "java/util/ArrayList") (E_y_DEFAULTCAPACITY_EMPTY_ELEMENTDATA : Exa Z h0 y_DEFAULTCAPACITY_EMPTY_ELEMENTDATA "[Ljava/lang/Object;") (V_y_DEFAULTCAPACITY_EMPTY_ELEMENTDATA : Arx Z h0 y_DEFAULTCAPACITY_EMPTY_ELEMENTDATA ka_y_DEFAULTCAPACITY_EMPTY_ELEMENTDATA (.object "java/lang/Object") (0 : Int32)) (V_f_f0_members_elementData : Arx Z h0 f_f0_members_elementData ka_f_f0_members_elementData (.object "java/lang/Object") (10 : Int32)) (O_f_f0_members_elementData : Ovr Z ka_f_f0_members_elementData "java/lang/Object") (V_en : Arv Z h0 f0_entries ke (.object "com/example/orbitloom/orbitloom/core/Timeline$Entry") (8 : Int32) [(.ref en0), .null, .null, .null, .null, .null, .null, .null] .null) (O_en : Ovr Z ke "com/example/orbitloom/orbitloom/core/Timeline$Entry") (MR : MirO Z "[Ljava/lang/Object;" mr) (g_x0 : n0 ≤ x0) (g_f0_entries : n0 ≤ f0_entries) (g_f0_members : n0 ≤ f0_members) (g_f_f0_members_elementData : n0 ≤ f_f0_members_elementData) (ne_x0_f0_entries : x0 ≠ f0_entries) (ne_x0_f0_members : x0 ≠ f0_members) (ne_f0_members_f0_entries : f0_members ≠ f0_entries) (ne_x2_x0 : x2 ≠ x0) (ne_x2_f0_members : x2 ≠ f0_members) (ne_x2_f0_entries : x2 ≠ f0_entries) (ne_y_DEFAULTCAPACITY_EMPTY_ELEMENTDATA_x0 : y_DEFAULTCAPACITY_EMPTY_ELEMENTDATA ≠ x0) (ne_y_DEFAULTCAPACITY_EMPTY_ELEMENTDATA_f0_members : y_DEFAULTCAPACITY_EMPTY_ELEMENTDATA ≠ f0_members) (ne_y_DEFAULTCAPACITY_EMPTY_ELEMENTDATA_f0_entries : y_DEFAULTCAPACITY_EMPTY_ELEMENTDATA ≠ f0_entries) (ne_x1_x0 : x1 ≠ x0) (ne_x1_f0_members : x1 ≠ f0_members) (ne_x1_f0_entries : x1 ≠ f0_entries) (ne_f_f0_members_elementData_x0 : f_f0_members_elementData ≠ x0) (ne_f_f0_members_elementData_f0_entries : f_f0_members_elementData ≠ f0_entries) (ne_f_f0_members_elementData_f0_members : f_f0_members_elementData ≠ f0_members) (ne_x2_f_f0_members_elementData : x2 ≠ f_f0_members_elementData) (ne_y_DEFAULTCAPACITY_EMPTY_ELEMENTDATA_f_f0_members_elementData : y_DEFAULTCAPACITY_EMPTY_ELEMENTDATA ≠ f_f0_members_elementData) (ne_x1_f_f0_members_elementData : x1 ≠ f_f0_members_elementData) :
    MetFree l (⟨"com/example/orbitloom/orbitloom/core/Timeline", "append", "(Lcom/example/orbitloom/orbitloom/core/Timeline$Entry;Ljava/util/List;)V"⟩ : MethodName) (head1 (Jvm.Cond.code (⟨"com/example/orbitloom/orbitloom/core/Timeline", "append", "(Lcom/example/orbitloom/orbitloom/core/Timeline$Entry;Ljava/util/List;)V"⟩ : MethodName) prog_49_method_12_code 3 none :: ws) ({ frames := 5, cells := 2, slots := 3, locals := 74 } : Room)) (fun a U => a = #[(.ref x0), (.ref x1), (.ref x2)] ∧ Z.Warmed39 U.vm ∧ U.heap = h0) (fun _ _ _ _ _ => True) (fun _ U o U' => ∃ v L, o = .returned v ∧ Q9_1 Z x0 x1 x2 y_DEFAULTCAPACITY_EMPTY_ELEMENTDATA y_EMPTY_ELEMENTDATA f0_entries f0_members f_f0_members_modCount f_f0_members_elementData ka_y_DEFAULTCAPACITY_EMPTY_ELEMENTDATA ka_f_f0_members_elementData ke mr en0 h0 n0 v U'.heap L ∧ FrameEnd U o U' L ({ frames := 5, cells := 2, slots := 3, locals := 74 } : Room).cells ({ frames := 5, cells := 2, slots := 3, locals := 74 } : Room).slots) := by
  refine MetFree.of_bodySF (plainFor_of_name pn_9) hisR ?_
  intro p e s m args below meth c s₁ Bd hml0 hP hK
  obtain ⟨rfl, hZ, hh⟩ := hP
  have w_7 := hw _ (List.mem_of_getElem? (i := 7) rfl)
  have w_17 := hw _ (List.mem_of_getElem? (i := 17) rfl)
  have w_18 := hw _ (List.mem_of_getElem? (i := 18) rfl)
  have w_19 := hw _ (List.mem_of_getElem? (i := 19) rfl)
  have w_20 := hw _ (List.mem_of_getElem? (i := 20) rfl)
  have w_21 := hw _ (List.mem_of_getElem? (i := 21) rfl)
  have w_39 := hw _ (List.mem_of_getElem? (i := 39) rfl)
  have w_42 := hw _ (List.mem_of_getElem? (i := 42) rfl)
  have w_43 := hw _ (List.mem_of_getElem? (i := 43) rfl)
  have w_44 := hw _ (List.mem_of_getElem? (i := 44) rfl)
  have w_72 := hw _ (List.mem_of_getElem? (i := 72) rfl)
  have w_73 := hw _ (List.mem_of_getElem? (i := 73) rfl)
  have w_75 := hw _ (List.mem_of_getElem? (i := 75) rfl)
  have w_76 := hw _ (List.mem_of_getElem? (i := 76) rfl)
  have w_77 := hw _ (List.mem_of_getElem? (i := 77) rfl)
  have w_88 := hw _ (List.mem_of_getElem? (i := 88) rfl)
  have w_114 := hw _ (List.mem_of_getElem? (i := 114) rfl)
  have w_115 := hw _ (List.mem_of_getElem? (i := 115) rfl)
  have w_116 := hw _ (List.mem_of_getElem? (i := 116) rfl)
  have w_117 := hw _ (List.mem_of_getElem? (i := 117) rfl)
  have w_118 := hw _ (List.mem_of_getElem? (i := 118) rfl)
  have w_119 := hw _ (List.mem_of_getElem? (i := 119) rfl)
  have w_120 := hw _ (List.mem_of_getElem? (i := 120) rfl)
  have w_121 := hw _ (List.mem_of_getElem? (i := 121) rfl)
  have w_122 := hw _ (List.mem_of_getElem? (i := 122) rfl)
  have hx := Bd.exec
  have hby := Bd.bytes
  have hml : c.maxLocals = 3 := hml0
  have hown : s.vm.findClass "com/example/orbitloom/orbitloom/core/Timeline" = some m.cls := findClass_of_methodNamed Bd.named
  have hnm := (name_of_methodNamed Bd.named Bd.method).1
  have X0 : Stand p l e ({ frames := 5, cells := 2, slots := 3, locals := 74 } : Room) s m #[(.ref x0), (.ref x1), (.ref x2)] below meth c s₁ [] 0 0 := Stand.of_body Bd
  have e0 : s₁.heap = h0 := by rw [← hh, Bd.state]; rfl
  have N0 := Fr.nil n0
  have K0 : Keep h0 h0 [x0, f0_entries, f0_members, f_f0_members_elementData] := Keep.refl h0 _
  refine (?_ : Goes p e below s ({ frames := 5, cells := 2, slots := 3, locals := 74 } : Room).cells ({ frames := 5, cells := 2, slots := 3, locals := 74 } : Room).slots (fun v h L => Q9_1 Z x0 x1 x2 y_DEFAULTCAPACITY_EMPTY_ELEMENTDATA y_EMPTY_ELEMENTDATA f0_entries f0_members f_f0_members_modCount f_f0_members_elementData ka_y_DEFAULTCAPACITY_EMPTY_ELEMENTDATA ka_f_f0_members_elementData ke mr en0 h0 n0 v h L) (s₁.setTop (entryFrame m #[(.ref x0), (.ref x1), (.ref x2)] 3)))
  rw [ef_9_1 m x0 x1 x2 y_DEFAULTCAPACITY_EMPTY_ELEMENTDATA y_EMPTY_ELEMENTDATA f0_entries f0_members f_f0_members_modCount f_f0_members_elementData ka_y_DEFAULTCAPACITY_EMPTY_ELEMENTDATA ka_f_f0_members_elementData ke mr en0 ]
  show Goes _ _ _ _ _ _ _ (s₁.setTop (mkF m 0 #[.val (.ref x0), .val (.ref x1), .val (.ref x2)] []))
  refine Goes.step (fun _ k => XS.aloadN X0.here hx rfl (hb hby d9_0) rfl rfl k) ?_
  obtain ⟨T1, X1, e1, st1⟩ := getF X0 hx hZ hown (host := "") (Or.inl w_72) Via.refl e0 F0_size (g := (mkF m 1 #[.val (.ref x0), .val (.ref x1), .val (.ref x2)] [(.ref x0)])) rfl rfl (hb hby d9_1)
  refine Goes.step st1 ?_
  show Goes _ _ _ _ _ _ _ (T1.setTop (mkF m 4 _ [(.int (1 : Int32))]))
  refine Goes.step (fun _ k => XS.aloadN X1.here hx rfl (hb hby d9_4) rfl rfl k) ?_
  obtain ⟨T2, X2, e2, st2⟩ := getF X1 hx hZ hown (host := "") (Or.inl w_17) Via.refl e1 F0_entries (g := (mkF m 5 #[.val (.ref x0), .val (.ref x1), .val (.ref x2)] [(.ref x0), (.int (1 : Int32))])) rfl rfl (hb hby d9_5)
  refine Goes.step st2 ?_
  show Goes _ _ _ _ _ _ _ (T2.setTop (mkF m 8 _ [(.ref f0_entries), (.int (1 : Int32))]))
  obtain ⟨cl3, Ar3, q3, S3, P3, H3, G3⟩ := id V_en
  refine Goes.step (fun _ k => X2.arraylength hx (by rw [e2]; exact Ar3.1) (State.isArrayOf_alike hZ.alike Ar3.2.1) (g := (mkF m 8 #[.val (.ref x0), .val (.ref x1), .val (.ref x2)] [(.ref f0_entries), (.int (1 : Int32))])) rfl rfl (hb hby d9_8) _ k) ?_
  rw [len_of S3 P3]
  show Goes _ _ _ _ _ _ _ (T2.setTop (mkF m 9 _ [(.int (8 : Int32)), (.int (1 : Int32))]))
  refine Goes.step (fun _ k => XS.icmpYes X2.here hx rfl (pc0 := 9) (pc' := 32) rfl (hb hby d9_9) rfl (feq (by decide : ¬ ((1 : Int32) = (8 : Int32)))).2 (by decide) (by decide) k) ?_
  show Goes _ _ _ _ _ _ _ (T2.setTop (mkF m 32 _ []))
  refine Goes.step (fun _ k => XS.aloadN X2.here hx rfl (hb hby d9_32) rfl rfl k) ?_
  obtain ⟨T4, X4, e4, st4⟩ := getF X2 hx hZ hown (host := "") (Or.inl w_17) Via.refl e2 F0_entries (g := (mkF m 33 #[.val (.ref x0), .val (.ref x1), .val (.ref x2)] [(.ref x0)])) rfl rfl (hb hby d9_33)
  refine Goes.step st4 ?_
  show Goes _ _ _ _ _ _ _ (T4.setTop (mkF m 36 _ [(.ref f0_entries)]))
  refine Goes.step (fun _ k => XS.aloadN X4.here hx rfl (hb hby d9_36) rfl rfl k) ?_
  obtain ⟨T5, X5, e5, st5⟩ := getF X4 hx hZ hown (host := "") (Or.inl w_72) Via.refl e4 F0_size (g := (mkF m 37 #[.val (.ref x0), .val (.ref x1), .val (.ref x2)] [(.ref x0), (.ref f0_entries)])) rfl rfl (hb hby d9_37)
  refine Goes.step st5 ?_
  show Goes _ _ _ _ _ _ _ (T5.setTop (mkF m 40 _ [(.int (1 : Int32)), (.ref f0_entries)]))
  refine Goes.step (fun _ k => XS.aloadN X5.here hx rfl (hb hby d9_40) rfl rfl k) ?_
  obtain ⟨cl6, Ar6, q6, S6, P6, H6, G6⟩ := id V_en
  have hin6 : ¬ ((1 : Int32) < 0 ∨ cl6.slots.size ≤ ((1 : Int32)).toNatClampNeg) := inb_of S6 ⟨by decide, by decide⟩
  obtain ⟨T7, h7, X7, e7, W7, st7⟩ := stR X5 hx hZ e5 Ar6 (j := (1 : Int32)) hin6 rfl (Sto.ofV Ar6 q6 O_en (Ins.self E_x1)) (g := (mkF m 41 #[.val (.ref x0), .val (.ref x1), .val (.ref x2)] [(.ref x1), (.int (1 : Int32)), (.ref f0_entries)])) rfl rfl (hb hby d9_41)
  refine Goes.step st7 ?_
  have V7 := Arv.set Ar6 q6 S6 P6 H6 G6 rfl W7 1 rfl (Nat.le_of_ble_eq_true rfl)
  have XO8 : Old Z n0 h7 := X00.wr W7 g_f0_entries
  have f9 := F0_entries.other W7 (Or.inl ne_x0_f0_entries)
  have f10 := F0_size.other W7 (Or.inl ne_x0_f0_entries)
  have f11 := F0_members.other W7 (Or.inl ne_x0_f0_entries)
  have f12 := F_f0_members_modCount.other W7 (Or.inl ne_f0_members_f0_entries)
  have f13 := F_f0_members_elementData.other W7 (Or.inl ne_f0_members_f0_entries)
  have f14 := F_f0_members_size.other W7 (Or.inl ne_f0_members_f0_entries)
  have f15 := F2_elementData.other W7 (Or.inl ne_x2_f0_entries)
  have f16 := F2_size.other W7 (Or.inl ne_x2_f0_entries)
  have f17 := E_x0.wr W7
  have f18 := E_f0_members.wr W7
  have f19 := E_x1.wr W7
  have f20 := E_x2.wr W7
  have f21 := E_y_DEFAULTCAPACITY_EMPTY_ELEMENTDATA.wr W7
  have f22 := V_y_DEFAULTCAPACITY_EMPTY_ELEMENTDATA.other W7 ne_y_DEFAULTCAPACITY_EMPTY_ELEMENTDATA_f0_entries
  have f23 := V_f_f0_members_elementData.other W7 ne_f_f0_members_elementData_f0_entries
  have f24 := V7
  have K25 : Keep h0 h7 [x0, f0_entries, f0_members, f_f0_members_elementData] := K0.wr W7 (Or.inl (List.mem_of_getElem? (i := 1) rfl))
  have Z25 : n0 ≤ h7.size := by rw [Wr.size W7]; exact Z0
  have N25 := Fr.snoc X7 N0 g_f0_entries
  show Goes _ _ _ _ _ _ _ (T7.setTop (mkF m 42 #[.val (.ref x0), .val (.ref x1), .val (.ref x2)] []))
  refine Goes.step (fun _ k => XS.aloadN X7.here hx rfl (hb hby d9_42) rfl rfl k) ?_
  refine Goes.step (fun _ k => XS.dup X7.here hx rfl (hb hby d9_43) rfl rfl k) ?_
  obtain ⟨T26, X26, e26, st26⟩ := getF X7 hx hZ hown (host := "") (Or.inl w_72) Via.refl e7 f10 (g := (mkF m 44 #[.val (.ref x0), .val (.ref x1), .val (.ref x2)] [(.ref x0), (.ref x0)])) rfl rfl (hb hby d9_44)
  refine Goes.step st26 ?_
  show Goes _ _ _ _ _ _ _ (T26.setTop (mkF m 47 _ [(.int (1 : Int32)), (.ref x0)]))
  refine Goes.step (fun _ k => XS.iconst X26.here hx rfl (hb hby d9_47) k) ?_
  refine Goes.step (fun _ k => XS.iadd X26.here hx rfl (hb hby d9_48) rfl k) ?_
  show Goes _ _ _ _ _ _ _ (T26.setTop (mkF m 49 _ [(.int (2 : Int32)), (.ref x0)]))
  obtain ⟨T27, h27, X27, e27, W27, st27⟩ := putF X26 hx hZ hown (host := "") (Or.inl w_72) Via.refl e26 f10 f17 (Or.inl w_73) w_7 (ty := .int) (by decide) rfl rfl (g := (mkF m 49 #[.val (.ref x0), .val (.ref x1), .val (.ref x2)] [(.int (2 : Int32)), (.ref x0)])) rfl rfl (hb hby d9_49)
  refine Goes.step st27 ?_
  have XO28 : Old Z n0 h27 := XO8.wr W27 g_x0
  have f29 := f9.other W27 (Or.inr (slot_ne (Or.inl w_18) (Or.inl w_73) (by decide) (t := (.array (.object "com/example/orbitloom/orbitloom/core/Timeline$Entry"))) (t' := .int) (by decide) (by decide)))
  have f30 := f10.same W27
  have f31 := f11.other W27 (Or.inr (slot_ne (Or.inr w_44) (Or.inl w_73) (by decide) (t := (.object "java/util/List")) (t' := .int) (by decide) (by decide)))
  have f32 := f12.other W27 (Or.inl (Ne.symm ne_x0_f0_members))
  have f33 := f13.other W27 (Or.inl (Ne.symm ne_x0_f0_members))
  have f34 := f14.other W27 (Or.inl (Ne.symm ne_x0_f0_members))
  have f35 := f15.other W27 (Or.inl ne_x2_x0)
  have f36 := f16.other W27 (Or.inl ne_x2_x0)
  have f37 := f17.wr W27
  have f38 := f18.wr W27
  have f39 := f19.wr W27
  have f40 := f20.wr W27
  have f41 := f21.wr W27
  have f42 := f22.other W27 ne_y_DEFAULTCAPACITY_EMPTY_ELEMENTDATA_x0
  have f43 := f23.other W27 ne_f_f0_members_elementData_x0
  have f44 := f24.other W27 (Ne.symm ne_x0_f0_entries)
  have K45 : Keep h0 h27 [x0, f0_entries, f0_members, f_f0_members_elementData] := K25.wr W27 (Or.inl (List.mem_of_getElem? (i := 0) rfl))
  have Z45 : n0 ≤ h27.size := by rw [Wr.size W27]; exact Z25
  have N45 := Fr.snoc X27 N25 g_x0
  show Goes _ _ _ _ _ _ _ (T27.setTop (mkF m 52 _ []))
  refine Goes.step (fun _ k => XS.aloadN X27.here hx rfl (hb hby d9_52) rfl rfl k) ?_
  obtain ⟨T46, X46, e46, st46⟩ := getF X27 hx hZ hown (host := "") (Or.inl w_43) Via.refl e27 f31 (g := (mkF m 53 #[.val (.ref x0), .val (.ref x1), .val (.ref x2)] [(.ref x0)])) rfl rfl (hb hby d9_53)
  refine Goes.step st46 ?_
  show Goes _ _ _ _ _ _ _ (T46.setTop (mkF m 56 _ [(.ref f0_members)]))
  obtain ⟨T47, h47, X47, e47, E47, A47, D47, -, st47⟩ := newO X46 hx hZ hown w_19 w_20 w_21 e46 (g := (mkF m 56 #[.val (.ref x0), .val (.ref x1), .val (.ref x2)] [(.ref f0_members)])) rfl (hb hby d9_56) (by decide) (by decide)
  obtain ⟨b47, g47⟩ : ∃ z, z = h27.size := ⟨_, rfl⟩
  rw [← g47] at A47 D47 st47
  refine Goes.step st47 ?_
  have g_b47 : n0 ≤ b47 := Nat.le_trans Z45 (Nat.le_of_eq g47.symm)
  have sz_b47 : h0.size ≤ b47 := Nat.le_trans K45.1 (Nat.le_of_eq g47.symm)
  have ne48 : x0 ≠ b47 := Nat.ne_of_lt (Nat.lt_of_lt_of_le f29.lt (Nat.le_of_eq g47.symm))
  have ne49 : f0_members ≠ b47 := Nat.ne_of_lt (Nat.lt_of_lt_of_le f32.lt (Nat.le_of_eq g47.symm))
  have ne50 : x2 ≠ b47 := Nat.ne_of_lt (Nat.lt_of_lt_of_le f35.lt (Nat.le_of_eq g47.symm))
  have ne51 : x1 ≠ b47 := Nat.ne_of_lt (Nat.lt_of_lt_of_le f39.lt (Nat.le_of_eq g47.symm))
  have ne52 : y_DEFAULTCAPACITY_EMPTY_ELEMENTDATA ≠ b47 := Nat.ne_of_lt (Nat.lt_of_lt_of_le f41.lt (Nat.le_of_eq g47.symm))
  have ne53 : f_f0_members_elementData ≠ b47 := Nat.ne_of_lt (Nat.lt_of_lt_of_le f43.lt (Nat.le_of_eq g47.symm))
  have ne54 : f0_entries ≠ b47 := Nat.ne_of_lt (Nat.lt_of_lt_of_le f44.lt (Nat.le_of_eq g47.symm))
  have XO55 : Old Z n0 h47 := XO28.ext E47
  have f56 := f29.ext E47
  have f57 := f30.ext E47
  have f58 := f31.ext E47
  have f59 := f32.ext E47
  have f60 := f33.ext E47
  have f61 := f34.ext E47
  have f62 := f35.ext E47
  have f63 := f36.ext E47
  have f64 := f37.ext E47
  have f65 := f38.ext E47
  have f66 := f39.ext E47
  have f67 := f40.ext E47
  have f68 := f41.ext E47
  have f69 := f42.ext E47
  have f70 := f43.ext E47
  have f71 := f44.ext E47
  have K72 : Keep h0 h47 [x0, f0_entries, f0_members, f_f0_members_elementData] := K45.ext E47
  have Z72 : n0 ≤ h47.size := Nat.le_trans Z45 E47.1
  have E_b47 := A47
  have F_modCount_b47 : Fld Z h47 b47 "java/util/AbstractList" "modCount" "I" (.int (0 : Int32)) := D47 (Or.inl w_39) (ty := .int) (by decide)
  have F_elementData_b47 : Fld Z h47 b47 "java/util/ArrayList" "elementData" "[Ljava/lang/Object;" .null := D47 (Or.inl w_42) (ty := (.array (.object "java/lang/Object"))) (by decide)
  have F_size_b47 : Fld Z h47 b47 "java/util/ArrayList" "size" "I" (.int (0 : Int32)) := D47 (Or.inl w_88) (ty := .int) (by decide)
  show Goes _ _ _ _ _ _ _ (T47.setTop (mkF m 59 _ [(.ref b47), (.ref f0_members)]))
  refine Goes.step (fun _ k => XS.dup X47.here hx rfl (hb hby d9_59) rfl rfl k) ?_
  refine Goes.step (fun _ k => XS.aloadN X47.here hx rfl (hb hby d9_60) rfl rfl k) ?_
  obtain ⟨_, _, ⟨T73, L73, k73, n73⟩, -, X73, ⟨Lc73, hQ73, l73, y73, z73⟩, st73⟩ := X47.specialBack hx (y := (⟨"java/util/ArrayList", "<init>", "(Ljava/util/Collection;)V"⟩ : MethodName)) rfl hown (mvT hZ w_75) (mvT hZ w_76) (mvT hZ w_77) (by decide) (backOf (W := 2) (rm10 l Z a0 hw [] b47 x2 y_DEFAULTCAPACITY_EMPTY_ELEMENTDATA y_EMPTY_ELEMENTDATA (0 : Int32) ka_y_DEFAULTCAPACITY_EMPTY_ELEMENTDATA mr h47 n0 Z72 S_DEFAULTCAPACITY_EMPTY_ELEMENTDATA S_EMPTY_ELEMENTDATA XO55 F_modCount_b47 F_elementData_b47 F_size_b47 f62 f63 E_b47 f67 f68 f69 MR g_b47 ne50 ne52) hZ w_77 w_21 (by decide) (by decide)) (g := (mkF m 61 #[.val (.ref x0), .val (.ref x1), .val (.ref x2)] [(.ref x2), (.ref b47), (.ref b47), (.ref f0_members)])) rfl (by rw [hml]; rfl) (Steps.refl _) (a := b47) (argsL := [(.ref x2)]) (rest := [(.ref b47), (.ref f0_members)]) (lenOf pd_4 rfl) rfl (by show 2 * 0 + _ ≤ _; exact Nat.le_of_eq rfl) (hb hby d9_61) (fun _ _ => ⟨rfl, e47, (by decide : 1 + 1 ≤ _), (by decide : 3 + 0 ≤ _)⟩)
  dsimp only [Pt.U, Pt.locs, Pt.cells, Pt.slots] at X73 l73 y73 z73 st73 hQ73
  rw [l73, y73, z73] at X73
  obtain ⟨N73, KK73, hR73⟩ := hQ73
  have NA73 := Fr.app N45 N73
  have XO74 : Old Z n0 T73.heap := XO55.keep KK73 (allS g_b47 all0)
  have f75 := f56.keep KK73 (ninS ne48 nin0)
  have f76 := f57.keep KK73 (ninS ne48 nin0)
  have f77 := f58.keep KK73 (ninS ne48 nin0)
  have f78 := f59.keep KK73 (ninS ne49 nin0)
  have f79 := f60.keep KK73 (ninS ne49 nin0)
  have f80 := f61.keep KK73 (ninS ne49 nin0)
  have f81 := f62.keep KK73 (ninS ne50 nin0)
  have f82 := f63.keep KK73 (ninS ne50 nin0)
  have f83 := f64.keep KK73
  have f84 := f65.keep KK73
  have f85 := f66.keep KK73
  have f86 := f67.keep KK73
  have f87 := f68.keep KK73
  have f88 := f69.keep KK73 (ninS ne52 nin0)
  have f89 := f70.keep KK73 (ninS ne53 nin0)
  have f90 := f71.keep KK73 (ninS ne54 nin0)
  have f91 := E_b47.keep KK73
  have K95 : Keep h0 T73.heap [x0, f0_entries, f0_members, f_f0_members_elementData] := K72.trans KK73 (allS (Or.inr sz_b47) all0)
  have Z95 : n0 ≤ T73.heap.size := Nat.le_trans Z72 KK73.1
  obtain ⟨rfl, v73_0_0, v73_0_1, v73_0_2, v73_0_3⟩ := hR73
  refine Goes.back st73 ?_
  show Goes _ _ _ _ _ _ _ (T73.setTop (mkF m 64 _ [(.ref b47), (.ref f0_members)]))
  obtain ⟨cq96, kq96, q96a, q96b, q96c⟩ := isOf hZ rfl f84
  obtain ⟨_, _, ⟨T96, L96, k96, n96⟩, -, X96, ⟨Lc96, hQ96, l96, y96, z96⟩, st96⟩ := X73.interfaceBack hx (xi := (⟨"java/util/List", "add", "(Ljava/lang/Object;)Z"⟩ : MethodName)) (y := (⟨"java/util/ArrayList", "add", "(Ljava/lang/Object;)Z"⟩ : MethodName)) hown (mvT hZ w_114) (mvT hZ w_115) (mvT hZ w_116) (mvT hZ w_117) (mvT hZ w_118) (mvT hZ w_119) (mvT hZ w_120) (mvT hZ w_121) (by decide) (backOf (W := 0) (rm15_1 l Z a0 hw [] f0_members b47 f_f0_members_modCount f_f0_members_elementData ka_f_f0_members_elementData T73.heap n0 Z95 f78 f79 f80 f84 v73_0_0 f89 O_f_f0_members_elementData g_f0_members g_f_f0_members_elementData ne_f_f0_members_elementData_f0_members) hZ w_122 w_21 (by decide) (by decide)) q96a q96b q96c (g := (mkF m 64 #[.val (.ref x0), .val (.ref x1), .val (.ref x2)] [(.ref b47), (.ref f0_members)])) rfl (by rw [hml]; rfl) (Steps.refl _) (argsL := [(.ref b47)]) (rest := []) (lenOf pd_11 rfl) rfl (by show 2 * 0 + _ ≤ _; exact Nat.le_of_eq rfl) (hb hby d9_64) (fun _ _ => ⟨rfl, rfl, (by decide : 2 + 0 ≤ _), (by decide : 3 + 0 ≤ _)⟩)
  dsimp only [Pt.U, Pt.locs, Pt.cells, Pt.slots] at X96 l96 y96 z96 st96 hQ96
  rw [l96, y96, z96] at X96
  obtain ⟨N96, KK96, hR96⟩ := hQ96
  have NA96 := Fr.app NA73 N96
  have XO97 : Old Z n0 T96.heap := XO74.keep KK96 (allS g_f0_members (allS g_f_f0_members_elementData all0))
  have f98 := f75.keep KK96 (ninS ne_x0_f0_members (ninS (Ne.symm ne_f_f0_members_elementData_x0) nin0))
  have f99 := f76.keep KK96 (ninS ne_x0_f0_members (ninS (Ne.symm ne_f_f0_members_elementData_x0) nin0))
  have f100 := f77.keep KK96 (ninS ne_x0_f0_members (ninS (Ne.symm ne_f_f0_members_elementData_x0) nin0))
  have f104 := f81.keep KK96 (ninS ne_x2_f0_members (ninS ne_x2_f_f0_members_elementData nin0))
  have f105 := f82.keep KK96 (ninS ne_x2_f0_members (ninS ne_x2_f_f0_members_elementData nin0))
  have f106 := f83.keep KK96
  have f107 := f84.keep KK96
  have f108 := f85.keep KK96
  have f109 := f86.keep KK96
  have f110 := f87.keep KK96
  have f111 := f88.keep KK96 (ninS ne_y_DEFAULTCAPACITY_EMPTY_ELEMENTDATA_f0_members (ninS ne_y_DEFAULTCAPACITY_EMPTY_ELEMENTDATA_f_f0_members_elementData nin0))
  have f113 := f90.keep KK96 (ninS (Ne.symm ne_f0_members_f0_entries) (ninS (Ne.symm ne_f_f0_members_elementData_f0_entries) nin0))
  have f114 := v73_0_0.keep KK96
  have f115 := v73_0_1.keep KK96 (ninS (Ne.symm ne49) (ninS (Ne.symm ne53) nin0))
  have f116 := v73_0_2.keep KK96 (ninS (Ne.symm ne49) (ninS (Ne.symm ne53) nin0))
  have f117 := v73_0_3.keep KK96 (ninS (Ne.symm ne49) (ninS (Ne.symm ne53) nin0))
  have K118 : Keep h0 T96.heap [x0, f0_entries, f0_members, f_f0_members_elementData] := K95.trans KK96 (allS (Or.inl (List.mem_of_getElem? (i := 2) rfl)) (allS (Or.inl (List.mem_of_getElem? (i := 3) rfl)) all0))
  have Z118 : n0 ≤ T96.heap.size := Nat.le_trans Z95 KK96.1
  obtain ⟨rfl, v96_0_0, v96_0_1, v96_0_2, v96_0_3, v96_0_4⟩ := hR96
  refine Goes.back st96 ?_
  show Goes _ _ _ _ _ _ _ (T96.setTop (mkF m 69 #[.val (.ref x0), .val (.ref x1), .val (.ref x2)] [(.int (1 : Int32))]))
  refine Goes.step (fun _ k => XS.pop X96.here hx rfl (hb hby d9_69) rfl rfl k) ?_
  show Goes _ _ _ _ _ _ _ (T96.setTop (mkF m 70 _ []))
  exact Goes.retV X96 hx (BodyLoose.notSynchronized Bd) Bd.returns (hb hby d9_70) (by show Q9_1 Z x0 x1 x2 y_DEFAULTCAPACITY_EMPTY_ELEMENTDATA y_EMPTY_ELEMENTDATA f0_entries f0_members f_f0_members_modCount f_f0_members_elementData ka_y_DEFAULTCAPACITY_EMPTY_ELEMENTDATA ka_f_f0_members_elementData ke mr en0 h0 n0 none T96.heap _; exact ⟨NA96, K118, ⟨rfl, f98, f99, f100, f106, v96_0_0, f113, v96_0_1, v96_0_2, v96_0_3, v96_0_4⟩⟩) (by decide) (by decide)
theorem ef_9_2 (m : MethodId) (x0 : Addr) (x1 : Addr) (x2 : Addr) (y_DEFAULTCAPACITY_EMPTY_ELEMENTDATA : Addr) (y_EMPTY_ELEMENTDATA : Addr) (f0_entries : Addr) (f0_members : Addr) (f_f0_members_modCount : Int32) (f_f0_members_elementData : Addr) (ka_y_DEFAULTCAPACITY_EMPTY_ELEMENTDATA : ClassId) (ka_f_f0_members_elementData : ClassId) (ke : ClassId) (mr : Addr) (en0 : Addr) (en1 : Addr)  : entryFrame m #[(.ref x0), (.ref x1), (.ref x2)] 3 = mkF m 0 #[.val (.ref x0), .val (.ref x1), .val (.ref x2)] [] := by first | (simp [entryFrame, mkF, argsToLocals, Value.category]; done) | rfl
def Q9_2 (Z : State) (x0 : Addr) (x1 : Addr) (x2 : Addr) (y_DEFAULTCAPACITY_EMPTY_ELEMENTDATA : Addr) (y_EMPTY_ELEMENTDATA : Addr) (f0_entries : Addr) (f0_members : Addr) (f_f0_members_modCount : Int32) (f_f0_members_elementData : Addr) (ka_y_DEFAULTCAPACITY_EMPTY_ELEMENTDATA : ClassId) (ka_f_f0_members_elementData : ClassId) (ke : ClassId) (mr : Addr) (en0 : Addr) (en1 : Addr) (h0 : Heap) (n0 : Nat) (v : Option Value) (h : Heap) (L : List Loc) : Prop := Fr n0 L ∧ Keep h0 h [x0, f0_entries, f0_members, f_f0_members_elementData] ∧ ((v = none ∧ Fld Z h x0 "com/example/orbitloom/orbitloom/core/Timeline" "entries" "[Lcom/example/orbitloom/orbitloom/core/Timeline$Entry;" (.ref f0_entries) ∧ Fld Z h x0 "com/example/orbitloom/orbitloom/core/Timeline" "size" "I" (.int (3 : Int32)) ∧ Fld Z h x0 "com/example/orbitloom/orbitloom/core/Timeline" "members" "Ljava/util/List;" (.ref f0_members) ∧ Exa Z h x0 "com/example/orbitloom/orbitloom/core/Timeline" ∧ Exa Z h f0_members "java/util/ArrayList" ∧ Arv Z h f0_entries ke (.object "com/example/orbitloom/orbitloom/core/Timeline$Entry") (8 : Int32) [(.ref en0), (.ref en1), (.ref x1), .null, .null, .null, .null, .null] .null ∧ Fld Z h f0_members "java/util/AbstractList" "modCount" "I" (.int (f_f0_members_modCount + (1 : Int32))) ∧ Fld Z h f0_members "java/util/ArrayList" "elementData" "[Ljava/lang/Object;" (.ref f_f0_members_elementData) ∧ Fld Z h f0_members "java/util/ArrayList" "size" "I" (.int (3 : Int32)) ∧ Arx Z h f_f0_members_elementData ka_f_f0_members_elementData (.object "java/lang/Object") (10 : Int32)))
set_option maxRecDepth 65536 in
set_option maxHeartbeats 40000000 in
theorem rm9_2 (l : Launch) (Z : State) (a0 : Array Value) (hw : ∀ d ∈ tables_1, d.before a0 Z = true) (ws : List Jvm.Cond) (x0 : Addr) (x1 : Addr) (x2 : Addr) (y_DEFAULTCAPACITY_EMPTY_ELEMENTDATA : Addr) (y_EMPTY_ELEMENTDATA : Addr) (f0_entries : Addr) (f0_members : Addr) (f_f0_members_modCount : Int32) (f_f0_members_elementData : Addr) (ka_y_DEFAULTCAPACITY_EMPTY_ELEMENTDATA : ClassId) (ka_f_f0_members_elementData : ClassId) (ke : ClassId) (mr : Addr) (en0 : Addr) (en1 : Addr) (h0 : Heap) (n0 : Nat) (Z0 : n0 ≤ h0.size) (S_DEFAULTCAPACITY_EMPTY_ELEMENTDATA : Sta Z Z.heap "java/util/ArrayList" "DEFAULTCAPACITY_EMPTY_ELEMENTDATA" "[Ljava/lang/Object;" (.ref y_DEFAULTCAPACITY_EMPTY_ELEMENTDATA)) (S_EMPTY_ELEMENTDATA : Sta Z Z.heap "java/util/ArrayList" "EMPTY_ELEMENTDATA" "[Ljava/lang/Object;" (.ref y_EMPTY_ELEMENTDATA)) (X00 : Old Z n0 h0) (F0_entries : Fld Z h0 x0 "com/example/orbitloom/orbitloom/core/Timeline" "entries" "[Lcom/example/orbitloom/orbitloom/core/Timeline$Entry;" (.ref f0_entries)) (F0_size : Fld Z h0 x0 "com/example/orbitloom/orbitloom/core/Timeline" "size" "I" (.int (2 : Int32))) (F0_members : Fld Z h0 x0 "com/example/orbitloom/orbitloom/core/Timeline" "members" "Ljava/util/List;" (.ref f0_members)) (F_f0_members_modCount : Fld Z h0 f0_members "java/util/AbstractList" "modCount" "I" (.int f_f0_members_modCount)) (F_f0_members_elementData : Fld Z h0 f0_members "java/util/ArrayList" "elementData" "[Ljava/lang/Object;" (.ref f_f0_members_elementData)) (F_f0_members_size : Fld Z h0 f0_members "java/util/ArrayList" "size" "I" (.int (2 : Int32))) (F2_elementData : Fld Z h0 x2 "java/util/ArrayList" "elementData" "[Ljava/lang/Object;" (.ref y_DEFAULTCAPACITY_EMPTY_ELEMENTDATA)) (F2_size : Fld Z h0 x2 "java/util/ArrayList" "size" "I" (.int (0 : Int32))) (E_x0 : Exa Z h0 x0 "com/example/orbitloom/orbitloom/core/Timeline") (E_f0_members : Exa Z h0 f0_members "java/util/ArrayList") (E_x1 : Exa Z h0 x1 "com/example/orbitloom/orbitloom/core/Timeline$Entry") (E_x2 : Exa Z h0 x2 "java/util/ArrayList") (E_y_DEFAULTCAPACITY_EMPTY_ELEMENTDATA : Exa Z h0 y_DEFAULTCAPACITY_EMPTY_ELEMENTDATA "[Ljava/lang/Object;") (V_y_DEFAULTCAPACITY_EMPTY_ELEMENTDATA : Arx Z h0 y_DEFAULTCAPACITY_EMPTY_ELEMENTDATA ka_y_DEFAULTCAPACITY_EMPTY_ELEMENTDATA (.object "java/lang/Object") (0 : Int32)) (V_f_f0_members_elementData : Arx Z h0 f_f0_members_elementData ka_f_f0_members_elementData (.object "java/lang/Object") (10 : Int32)) (O_f_f0_members_elementData : Ovr Z ka_f_f0_members_elementData "java/lang/Object") (V_en : Arv Z h0 f0_entries ke (.object "com/example/orbitloom/orbitloom/core/Timeline$Entry") (8 : Int32) [(.ref en0), (.ref en1), .null, .null, .null, .null, .null, .null] .null) (O_en : Ovr Z ke "com/example/orbitloom/orbitloom/core/Timeline$Entry") (MR : MirO Z "[Ljava/lang/Object;" mr) (g_x0 : n0 ≤ x0) (g_f0_entries : n0 ≤ f0_entries) (g_f0_members : n0 ≤ f0_members) (g_f_f0_members_elementData : n0 ≤ f_f0_members_elementData) (ne_x0_f0_entries : x0 ≠ f0_entries) (ne_x0_f0_members : x0 ≠ f0_members) (ne_f0_members_f0_entries : f0_members ≠ f0_entries) (ne_x2_x0 : x2 ≠ x0) (ne_x2_f0_members : x2 ≠ f0_members) (ne_x2_f0_entries : x2 ≠ f0_entries) (ne_y_DEFAULTCAPACITY_EMPTY_ELEMENTDATA_x0 : y_DEFAULTCAPACITY_EMPTY_ELEMENTDATA ≠ x0) (ne_y_DEFAULTCAPACITY_EMPTY_ELEMENTDATA_f0_members : y_DEFAULTCAPACITY_EMPTY_ELEMENTDATA ≠ f0_members) (ne_y_DEFAULTCAPACITY_EMPTY_ELEMENTDATA_f0_entries : y_DEFAULTCAPACITY_EMPTY_ELEMENTDATA ≠ f0_entries) (ne_x1_x0 : x1 ≠ x0) (ne_x1_f0_members : x1 ≠ f0_members) (ne_x1_f0_entries : x1 ≠ f0_entries) (ne_f_f0_members_elementData_x0 : f_f0_members_elementData ≠ x0) (ne_f_f0_members_elementData_f0_entries : f_f0_members_elementData ≠ f0_entries) (ne_f_f0_members_elementData_f0_members : f_f0_members_elementData ≠ f0_members) (ne_x2_f_f0_members_elementData : x2 ≠ f_f0_members_elementData) (ne_y_DEFAULTCAPACITY_EMPTY_ELEMENTDATA_f_f0_members_elementData : y_DEFAULTCAPACITY_EMPTY_ELEMENTDATA ≠ f_f0_members_elementData) (ne_x1_f_f0_members_elementData : x1 ≠ f_f0_members_elementData) :
    MetFree l (⟨"com/example/orbitloom/orbitloom/core/Timeline", "append", "(Lcom/example/orbitloom/orbitloom/core/Timeline$Entry;Ljava/util/List;)V"⟩ : MethodName) (head1 (Jvm.Cond.code (⟨"com/example/orbitloom/orbitloom/core/Timeline", "append", "(Lcom/example/orbitloom/orbitloom/core/Timeline$Entry;Ljava/util/List;)V"⟩ : MethodName) prog_49_method_12_code 3 none :: ws) ({ frames := 5, cells := 2, slots := 3, locals := 74 } : Room)) (fun a U => a = #[(.ref x0), (.ref x1), (.ref x2)] ∧ Z.Warmed39 U.vm ∧ U.heap = h0) (fun _ _ _ _ _ => True) (fun _ U o U' => ∃ v L, o = .returned v ∧ Q9_2 Z x0 x1 x2 y_DEFAULTCAPACITY_EMPTY_ELEMENTDATA y_EMPTY_ELEMENTDATA f0_entries f0_members f_f0_members_modCount f_f0_members_elementData ka_y_DEFAULTCAPACITY_EMPTY_ELEMENTDATA ka_f_f0_members_elementData ke mr en0 en1 h0 n0 v U'.heap L ∧ FrameEnd U o U' L ({ frames := 5, cells := 2, slots := 3, locals := 74 } : Room).cells ({ frames := 5, cells := 2, slots := 3, locals := 74 } : Room).slots) := by
  refine MetFree.of_bodySF (plainFor_of_name pn_9) hisR ?_
  intro p e s m args below meth c s₁ Bd hml0 hP hK
  obtain ⟨rfl, hZ, hh⟩ := hP
  have w_7 := hw _ (List.mem_of_getElem? (i := 7) rfl)
  have w_17 := hw _ (List.mem_of_getElem? (i := 17) rfl)
  have w_18 := hw _ (List.mem_of_getElem? (i := 18) rfl)
  have w_19 := hw _ (List.mem_of_getElem? (i := 19) rfl)
  have w_20 := hw _ (List.mem_of_getElem? (i := 20) rfl)
  have w_21 := hw _ (List.mem_of_getElem? (i := 21) rfl)
  have w_39 := hw _ (List.mem_of_getElem? (i := 39) rfl)
  have w_42 := hw _ (List.mem_of_getElem? (i := 42) rfl)
  have w_43 := hw _ (List.mem_of_getElem? (i := 43) rfl)
  have w_44 := hw _ (List.mem_of_getElem? (i := 44) rfl)
  have w_72 := hw _ (List.mem_of_getElem? (i := 72) rfl)
  have w_73 := hw _ (List.mem_of_getElem? (i := 73) rfl)
  have w_75 := hw _ (List.mem_of_getElem? (i := 75) rfl)
  have w_76 := hw _ (List.mem_of_getElem? (i := 76) rfl)
  have w_77 := hw _ (List.mem_of_getElem? (i := 77) rfl)
  have w_88 := hw _ (List.mem_of_getElem? (i := 88) rfl)
  have w_114 := hw _ (List.mem_of_getElem? (i := 114) rfl)
  have w_115 := hw _ (List.mem_of_getElem? (i := 115) rfl)
  have w_116 := hw _ (List.mem_of_getElem? (i := 116) rfl)
  have w_117 := hw _ (List.mem_of_getElem? (i := 117) rfl)
  have w_118 := hw _ (List.mem_of_getElem? (i := 118) rfl)
  have w_119 := hw _ (List.mem_of_getElem? (i := 119) rfl)
  have w_120 := hw _ (List.mem_of_getElem? (i := 120) rfl)
  have w_121 := hw _ (List.mem_of_getElem? (i := 121) rfl)
  have w_122 := hw _ (List.mem_of_getElem? (i := 122) rfl)
  have hx := Bd.exec
  have hby := Bd.bytes
  have hml : c.maxLocals = 3 := hml0
  have hown : s.vm.findClass "com/example/orbitloom/orbitloom/core/Timeline" = some m.cls := findClass_of_methodNamed Bd.named
  have hnm := (name_of_methodNamed Bd.named Bd.method).1
  have X0 : Stand p l e ({ frames := 5, cells := 2, slots := 3, locals := 74 } : Room) s m #[(.ref x0), (.ref x1), (.ref x2)] below meth c s₁ [] 0 0 := Stand.of_body Bd
  have e0 : s₁.heap = h0 := by rw [← hh, Bd.state]; rfl
  have N0 := Fr.nil n0
  have K0 : Keep h0 h0 [x0, f0_entries, f0_members, f_f0_members_elementData] := Keep.refl h0 _
  refine (?_ : Goes p e below s ({ frames := 5, cells := 2, slots := 3, locals := 74 } : Room).cells ({ frames := 5, cells := 2, slots := 3, locals := 74 } : Room).slots (fun v h L => Q9_2 Z x0 x1 x2 y_DEFAULTCAPACITY_EMPTY_ELEMENTDATA y_EMPTY_ELEMENTDATA f0_entries f0_members f_f0_members_modCount f_f0_members_elementData ka_y_DEFAULTCAPACITY_EMPTY_ELEMENTDATA ka_f_f0_members_elementData ke mr en0 en1 h0 n0 v h L) (s₁.setTop (entryFrame m #[(.ref x0), (.ref x1), (.ref x2)] 3)))
  rw [ef_9_2 m x0 x1 x2 y_DEFAULTCAPACITY_EMPTY_ELEMENTDATA y_EMPTY_ELEMENTDATA f0_entries f0_members f_f0_members_modCount f_f0_members_elementData ka_y_DEFAULTCAPACITY_EMPTY_ELEMENTDATA ka_f_f0_members_elementData ke mr en0 en1 ]
  show Goes _ _ _ _ _ _ _ (s₁.setTop (mkF m 0 #[.val (.ref x0), .val (.ref x1), .val (.ref x2)] []))
  refine Goes.step (fun _ k => XS.aloadN X0.here hx rfl (hb hby d9_0) rfl rfl k) ?_
  obtain ⟨T1, X1, e1, st1⟩ := getF X0 hx hZ hown (host := "") (Or.inl w_72) Via.refl e0 F0_size (g := (mkF m 1 #[.val (.ref x0), .val (.ref x1), .val (.ref x2)] [(.ref x0)])) rfl rfl (hb hby d9_1)
  refine Goes.step st1 ?_
  show Goes _ _ _ _ _ _ _ (T1.setTop (mkF m 4 _ [(.int (2 : Int32))]))
  refine Goes.step (fun _ k => XS.aloadN X1.here hx rfl (hb hby d9_4) rfl rfl k) ?_
  obtain ⟨T2, X2, e2, st2⟩ := getF X1 hx hZ hown (host := "") (Or.inl w_17) Via.refl e1 F0_entries (g := (mkF m 5 #[.val (.ref x0), .val (.ref x1), .val (.ref x2)] [(.ref x0), (.int (2 : Int32))])) rfl rfl (hb hby d9_5)
  refine Goes.step st2 ?_
  show Goes _ _ _ _ _ _ _ (T2.setTop (mkF m 8 _ [(.ref f0_entries), (.int (2 : Int32))]))
  obtain ⟨cl3, Ar3, q3, S3, P3, H3, G3⟩ := id V_en
  refine Goes.step (fun _ k => X2.arraylength hx (by rw [e2]; exact Ar3.1) (State.isArrayOf_alike hZ.alike Ar3.2.1) (g := (mkF m 8 #[.val (.ref x0), .val (.ref x1), .val (.ref x2)] [(.ref f0_entries), (.int (2 : Int32))])) rfl rfl (hb hby d9_8) _ k) ?_
  rw [len_of S3 P3]
  show Goes _ _ _ _ _ _ _ (T2.setTop (mkF m 9 _ [(.int (8 : Int32)), (.int (2 : Int32))]))
  refine Goes.step (fun _ k => XS.icmpYes X2.here hx rfl (pc0 := 9) (pc' := 32) rfl (hb hby d9_9) rfl (feq (by decide : ¬ ((2 : Int32) = (8 : Int32)))).2 (by decide) (by decide) k) ?_
  show Goes _ _ _ _ _ _ _ (T2.setTop (mkF m 32 _ []))
  refine Goes.step (fun _ k => XS.aloadN X2.here hx rfl (hb hby d9_32) rfl rfl k) ?_
  obtain ⟨T4, X4, e4, st4⟩ := getF X2 hx hZ hown (host := "") (Or.inl w_17) Via.refl e2 F0_entries (g := (mkF m 33 #[.val (.ref x0), .val (.ref x1), .val (.ref x2)] [(.ref x0)])) rfl rfl (hb hby d9_33)
  refine Goes.step st4 ?_
  show Goes _ _ _ _ _ _ _ (T4.setTop (mkF m 36 _ [(.ref f0_entries)]))
  refine Goes.step (fun _ k => XS.aloadN X4.here hx rfl (hb hby d9_36) rfl rfl k) ?_
  obtain ⟨T5, X5, e5, st5⟩ := getF X4 hx hZ hown (host := "") (Or.inl w_72) Via.refl e4 F0_size (g := (mkF m 37 #[.val (.ref x0), .val (.ref x1), .val (.ref x2)] [(.ref x0), (.ref f0_entries)])) rfl rfl (hb hby d9_37)
  refine Goes.step st5 ?_
  show Goes _ _ _ _ _ _ _ (T5.setTop (mkF m 40 _ [(.int (2 : Int32)), (.ref f0_entries)]))
  refine Goes.step (fun _ k => XS.aloadN X5.here hx rfl (hb hby d9_40) rfl rfl k) ?_
  obtain ⟨cl6, Ar6, q6, S6, P6, H6, G6⟩ := id V_en
  have hin6 : ¬ ((2 : Int32) < 0 ∨ cl6.slots.size ≤ ((2 : Int32)).toNatClampNeg) := inb_of S6 ⟨by decide, by decide⟩
  obtain ⟨T7, h7, X7, e7, W7, st7⟩ := stR X5 hx hZ e5 Ar6 (j := (2 : Int32)) hin6 rfl (Sto.ofV Ar6 q6 O_en (Ins.self E_x1)) (g := (mkF m 41 #[.val (.ref x0), .val (.ref x1), .val (.ref x2)] [(.ref x1), (.int (2 : Int32)), (.ref f0_entries)])) rfl rfl (hb hby d9_41)
  refine Goes.step st7 ?_
  have V7 := Arv.set Ar6 q6 S6 P6 H6 G6 rfl W7 2 rfl (Nat.le_of_ble_eq_true rfl)
  have XO8 : Old Z n0 h7 := X00.wr W7 g_f0_entries
  have f9 := F0_entries.other W7 (Or.inl ne_x0_f0_entries)
  have f10 := F0_size.other W7 (Or.inl ne_x0_f0_entries)
  have f11 := F0_members.other W7 (Or.inl ne_x0_f0_entries)
  have f12 := F_f0_members_modCount.other W7 (Or.inl ne_f0_members_f0_entries)
  have f13 := F_f0_members_elementData.other W7 (Or.inl ne_f0_members_f0_entries)
  have f14 := F_f0_members_size.other W7 (Or.inl ne_f0_members_f0_entries)
  have f15 := F2_elementData.other W7 (Or.inl ne_x2_f0_entries)
  have f16 := F2_size.other W7 (Or.inl ne_x2_f0_entries)
  have f17 := E_x0.wr W7
  have f18 := E_f0_members.wr W7
  have f19 := E_x1.wr W7
  have f20 := E_x2.wr W7
  have f21 := E_y_DEFAULTCAPACITY_EMPTY_ELEMENTDATA.wr W7
  have f22 := V_y_DEFAULTCAPACITY_EMPTY_ELEMENTDATA.other W7 ne_y_DEFAULTCAPACITY_EMPTY_ELEMENTDATA_f0_entries
  have f23 := V_f_f0_members_elementData.other W7 ne_f_f0_members_elementData_f0_entries
  have f24 := V7
  have K25 : Keep h0 h7 [x0, f0_entries, f0_members, f_f0_members_elementData] := K0.wr W7 (Or.inl (List.mem_of_getElem? (i := 1) rfl))
  have Z25 : n0 ≤ h7.size := by rw [Wr.size W7]; exact Z0
  have N25 := Fr.snoc X7 N0 g_f0_entries
  show Goes _ _ _ _ _ _ _ (T7.setTop (mkF m 42 #[.val (.ref x0), .val (.ref x1), .val (.ref x2)] []))
  refine Goes.step (fun _ k => XS.aloadN X7.here hx rfl (hb hby d9_42) rfl rfl k) ?_
  refine Goes.step (fun _ k => XS.dup X7.here hx rfl (hb hby d9_43) rfl rfl k) ?_
  obtain ⟨T26, X26, e26, st26⟩ := getF X7 hx hZ hown (host := "") (Or.inl w_72) Via.refl e7 f10 (g := (mkF m 44 #[.val (.ref x0), .val (.ref x1), .val (.ref x2)] [(.ref x0), (.ref x0)])) rfl rfl (hb hby d9_44)
  refine Goes.step st26 ?_
  show Goes _ _ _ _ _ _ _ (T26.setTop (mkF m 47 _ [(.int (2 : Int32)), (.ref x0)]))
  refine Goes.step (fun _ k => XS.iconst X26.here hx rfl (hb hby d9_47) k) ?_
  refine Goes.step (fun _ k => XS.iadd X26.here hx rfl (hb hby d9_48) rfl k) ?_
  show Goes _ _ _ _ _ _ _ (T26.setTop (mkF m 49 _ [(.int (3 : Int32)), (.ref x0)]))
  obtain ⟨T27, h27, X27, e27, W27, st27⟩ := putF X26 hx hZ hown (host := "") (Or.inl w_72) Via.refl e26 f10 f17 (Or.inl w_73) w_7 (ty := .int) (by decide) rfl rfl (g := (mkF m 49 #[.val (.ref x0), .val (.ref x1), .val (.ref x2)] [(.int (3 : Int32)), (.ref x0)])) rfl rfl (hb hby d9_49)
  refine Goes.step st27 ?_
  have XO28 : Old Z n0 h27 := XO8.wr W27 g_x0
  have f29 := f9.other W27 (Or.inr (slot_ne (Or.inl w_18) (Or.inl w_73) (by decide) (t := (.array (.object "com/example/orbitloom/orbitloom/core/Timeline$Entry"))) (t' := .int) (by decide) (by decide)))
  have f30 := f10.same W27
  have f31 := f11.other W27 (Or.inr (slot_ne (Or.inr w_44) (Or.inl w_73) (by decide) (t := (.object "java/util/List")) (t' := .int) (by decide) (by decide)))
  have f32 := f12.other W27 (Or.inl (Ne.symm ne_x0_f0_members))
  have f33 := f13.other W27 (Or.inl (Ne.symm ne_x0_f0_members))
  have f34 := f14.other W27 (Or.inl (Ne.symm ne_x0_f0_members))
  have f35 := f15.other W27 (Or.inl ne_x2_x0)
  have f36 := f16.other W27 (Or.inl ne_x2_x0)
  have f37 := f17.wr W27
  have f38 := f18.wr W27
  have f39 := f19.wr W27
  have f40 := f20.wr W27
  have f41 := f21.wr W27
  have f42 := f22.other W27 ne_y_DEFAULTCAPACITY_EMPTY_ELEMENTDATA_x0
  have f43 := f23.other W27 ne_f_f0_members_elementData_x0
  have f44 := f24.other W27 (Ne.symm ne_x0_f0_entries)
  have K45 : Keep h0 h27 [x0, f0_entries, f0_members, f_f0_members_elementData] := K25.wr W27 (Or.inl (List.mem_of_getElem? (i := 0) rfl))
  have Z45 : n0 ≤ h27.size := by rw [Wr.size W27]; exact Z25
  have N45 := Fr.snoc X27 N25 g_x0
  show Goes _ _ _ _ _ _ _ (T27.setTop (mkF m 52 _ []))
  refine Goes.step (fun _ k => XS.aloadN X27.here hx rfl (hb hby d9_52) rfl rfl k) ?_
  obtain ⟨T46, X46, e46, st46⟩ := getF X27 hx hZ hown (host := "") (Or.inl w_43) Via.refl e27 f31 (g := (mkF m 53 #[.val (.ref x0), .val (.ref x1), .val (.ref x2)] [(.ref x0)])) rfl rfl (hb hby d9_53)
  refine Goes.step st46 ?_
  show Goes _ _ _ _ _ _ _ (T46.setTop (mkF m 56 _ [(.ref f0_members)]))
  obtain ⟨T47, h47, X47, e47, E47, A47, D47, -, st47⟩ := newO X46 hx hZ hown w_19 w_20 w_21 e46 (g := (mkF m 56 #[.val (.ref x0), .val (.ref x1), .val (.ref x2)] [(.ref f0_members)])) rfl (hb hby d9_56) (by decide) (by decide)
  obtain ⟨b47, g47⟩ : ∃ z, z = h27.size := ⟨_, rfl⟩
  rw [← g47] at A47 D47 st47
  refine Goes.step st47 ?_
  have g_b47 : n0 ≤ b47 := Nat.le_trans Z45 (Nat.le_of_eq g47.symm)
  have sz_b47 : h0.size ≤ b47 := Nat.le_trans K45.1 (Nat.le_of_eq g47.symm)
  have ne48 : x0 ≠ b47 := Nat.ne_of_lt (Nat.lt_of_lt_of_le f29.lt (Nat.le_of_eq g47.symm))
  have ne49 : f0_members ≠ b47 := Nat.ne_of_lt (Nat.lt_of_lt_of_le f32.lt (Nat.le_of_eq g47.symm))
  have ne50 : x2 ≠ b47 := Nat.ne_of_lt (Nat.lt_of_lt_of_le f35.lt (Nat.le_of_eq g47.symm))
  have ne51 : x1 ≠ b47 := Nat.ne_of_lt (Nat.lt_of_lt_of_le f39.lt (Nat.le_of_eq g47.symm))
  have ne52 : y_DEFAULTCAPACITY_EMPTY_ELEMENTDATA ≠ b47 := Nat.ne_of_lt (Nat.lt_of_lt_of_le f41.lt (Nat.le_of_eq g47.symm))
  have ne53 : f_f0_members_elementData ≠ b47 := Nat.ne_of_lt (Nat.lt_of_lt_of_le f43.lt (Nat.le_of_eq g47.symm))
  have ne54 : f0_entries ≠ b47 := Nat.ne_of_lt (Nat.lt_of_lt_of_le f44.lt (Nat.le_of_eq g47.symm))
  have XO55 : Old Z n0 h47 := XO28.ext E47
  have f56 := f29.ext E47
  have f57 := f30.ext E47
  have f58 := f31.ext E47
  have f59 := f32.ext E47
  have f60 := f33.ext E47
  have f61 := f34.ext E47
  have f62 := f35.ext E47
  have f63 := f36.ext E47
  have f64 := f37.ext E47
  have f65 := f38.ext E47
  have f66 := f39.ext E47
  have f67 := f40.ext E47
  have f68 := f41.ext E47
  have f69 := f42.ext E47
  have f70 := f43.ext E47
  have f71 := f44.ext E47
  have K72 : Keep h0 h47 [x0, f0_entries, f0_members, f_f0_members_elementData] := K45.ext E47
  have Z72 : n0 ≤ h47.size := Nat.le_trans Z45 E47.1
  have E_b47 := A47
  have F_modCount_b47 : Fld Z h47 b47 "java/util/AbstractList" "modCount" "I" (.int (0 : Int32)) := D47 (Or.inl w_39) (ty := .int) (by decide)
  have F_elementData_b47 : Fld Z h47 b47 "java/util/ArrayList" "elementData" "[Ljava/lang/Object;" .null := D47 (Or.inl w_42) (ty := (.array (.object "java/lang/Object"))) (by decide)
  have F_size_b47 : Fld Z h47 b47 "java/util/ArrayList" "size" "I" (.int (0 : Int32)) := D47 (Or.inl w_88) (ty := .int) (by decide)
  show Goes _ _ _ _ _ _ _ (T47.setTop (mkF m 59 _ [(.ref b47), (.ref f0_members)]))
  refine Goes.step (fun _ k => XS.dup X47.here hx rfl (hb hby d9_59) rfl rfl k) ?_
  refine Goes.step (fun _ k => XS.aloadN X47.here hx rfl (hb hby d9_60) rfl rfl k) ?_
  obtain ⟨_, _, ⟨T73, L73, k73, n73⟩, -, X73, ⟨Lc73, hQ73, l73, y73, z73⟩, st73⟩ := X47.specialBack hx (y := (⟨"java/util/ArrayList", "<init>", "(Ljava/util/Collection;)V"⟩ : MethodName)) rfl hown (mvT hZ w_75) (mvT hZ w_76) (mvT hZ w_77) (by decide) (backOf (W := 2) (rm10 l Z a0 hw [] b47 x2 y_DEFAULTCAPACITY_EMPTY_ELEMENTDATA y_EMPTY_ELEMENTDATA (0 : Int32) ka_y_DEFAULTCAPACITY_EMPTY_ELEMENTDATA mr h47 n0 Z72 S_DEFAULTCAPACITY_EMPTY_ELEMENTDATA S_EMPTY_ELEMENTDATA XO55 F_modCount_b47 F_elementData_b47 F_size_b47 f62 f63 E_b47 f67 f68 f69 MR g_b47 ne50 ne52) hZ w_77 w_21 (by decide) (by decide)) (g := (mkF m 61 #[.val (.ref x0), .val (.ref x1), .val (.ref x2)] [(.ref x2), (.ref b47), (.ref b47), (.ref f0_members)])) rfl (by rw [hml]; rfl) (Steps.refl _) (a := b47) (argsL := [(.ref x2)]) (rest := [(.ref b47), (.ref f0_members)]) (lenOf pd_4 rfl) rfl (by show 2 * 0 + _ ≤ _; exact Nat.le_of_eq rfl) (hb hby d9_61) (fun _ _ => ⟨rfl, e47, (by decide : 1 + 1 ≤ _), (by decide : 3 + 0 ≤ _)⟩)
  dsimp only [Pt.U, Pt.locs, Pt.cells, Pt.slots] at X73 l73 y73 z73 st73 hQ73
  rw [l73, y73, z73] at X73
  obtain ⟨N73, KK73, hR73⟩ := hQ73
  have NA73 := Fr.app N45 N73
  have XO74 : Old Z n0 T73.heap := XO55.keep KK73 (allS g_b47 all0)
  have f75 := f56.keep KK73 (ninS ne48 nin0)
  have f76 := f57.keep KK73 (ninS ne48 nin0)
  have f77 := f58.keep KK73 (ninS ne48 nin0)
  have f78 := f59.keep KK73 (ninS ne49 nin0)
  have f79 := f60.keep KK73 (ninS ne49 nin0)
  have f80 := f61.keep KK73 (ninS ne49 nin0)
  have f81 := f62.keep KK73 (ninS ne50 nin0)
  have f82 := f63.keep KK73 (ninS ne50 nin0)
  have f83 := f64.keep KK73
  have f84 := f65.keep KK73
  have f85 := f66.keep KK73
  have f86 := f67.keep KK73
  have f87 := f68.keep KK73
  have f88 := f69.keep KK73 (ninS ne52 nin0)
  have f89 := f70.keep KK73 (ninS ne53 nin0)
  have f90 := f71.keep KK73 (ninS ne54 nin0)
  have f91 := E_b47.keep KK73
  have K95 : Keep h0 T73.heap [x0, f0_entries, f0_members, f_f0_members_elementData] := K72.trans KK73 (allS (Or.inr sz_b47) all0)
  have Z95 : n0 ≤ T73.heap.size := Nat.le_trans Z72 KK73.1
  obtain ⟨rfl, v73_0_0, v73_0_1, v73_0_2, v73_0_3⟩ := hR73
  refine Goes.back st73 ?_
  show Goes _ _ _ _ _ _ _ (T73.setTop (mkF m 64 _ [(.ref b47), (.ref f0_members)]))
  obtain ⟨cq96, kq96, q96a, q96b, q96c⟩ := isOf hZ rfl f84
  obtain ⟨_, _, ⟨T96, L96, k96, n96⟩, -, X96, ⟨Lc96, hQ96, l96, y96, z96⟩, st96⟩ := X73.interfaceBack hx (xi := (⟨"java/util/List", "add", "(Ljava/lang/Object;)Z"⟩ : MethodName)) (y := (⟨"java/util/ArrayList", "add", "(Ljava/lang/Object;)Z"⟩ : MethodName)) hown (mvT hZ w_114) (mvT hZ w_115) (mvT hZ w_116) (mvT hZ w_117) (mvT hZ w_118) (mvT hZ w_119) (mvT hZ w_120) (mvT hZ w_121) (by decide) (backOf (W := 0) (rm15_2 l Z a0 hw [] f0_members b47 f_f0_members_modCount f_f0_members_elementData ka_f_f0_members_elementData T73.heap n0 Z95 f78 f79 f80 f84 v73_0_0 f89 O_f_f0_members_elementData g_f0_members g_f_f0_members_elementData ne_f_f0_members_elementData_f0_members) hZ w_122 w_21 (by decide) (by decide)) q96a q96b q96c (g := (mkF m 64 #[.val (.ref x0), .val (.ref x1), .val (.ref x2)] [(.ref b47), (.ref f0_members)])) rfl (by rw [hml]; rfl) (Steps.refl _) (argsL := [(.ref b47)]) (rest := []) (lenOf pd_11 rfl) rfl (by show 2 * 0 + _ ≤ _; exact Nat.le_of_eq rfl) (hb hby d9_64) (fun _ _ => ⟨rfl, rfl, (by decide : 2 + 0 ≤ _), (by decide : 3 + 0 ≤ _)⟩)
  dsimp only [Pt.U, Pt.locs, Pt.cells, Pt.slots] at X96 l96 y96 z96 st96 hQ96
  rw [l96, y96, z96] at X96
  obtain ⟨N96, KK96, hR96⟩ := hQ96
  have NA96 := Fr.app NA73 N96
  have XO97 : Old Z n0 T96.heap := XO74.keep KK96 (allS g_f0_members (allS g_f_f0_members_elementData all0))
  have f98 := f75.keep KK96 (ninS ne_x0_f0_members (ninS (Ne.symm ne_f_f0_members_elementData_x0) nin0))
  have f99 := f76.keep KK96 (ninS ne_x0_f0_members (ninS (Ne.symm ne_f_f0_members_elementData_x0) nin0))
  have f100 := f77.keep KK96 (ninS ne_x0_f0_members (ninS (Ne.symm ne_f_f0_members_elementData_x0) nin0))
  have f104 := f81.keep KK96 (ninS ne_x2_f0_members (ninS ne_x2_f_f0_members_elementData nin0))
  have f105 := f82.keep KK96 (ninS ne_x2_f0_members (ninS ne_x2_f_f0_members_elementData nin0))
  have f106 := f83.keep KK96
  have f107 := f84.keep KK96
  have f108 := f85.keep KK96
  have f109 := f86.keep KK96
  have f110 := f87.keep KK96
  have f111 := f88.keep KK96 (ninS ne_y_DEFAULTCAPACITY_EMPTY_ELEMENTDATA_f0_members (ninS ne_y_DEFAULTCAPACITY_EMPTY_ELEMENTDATA_f_f0_members_elementData nin0))
  have f113 := f90.keep KK96 (ninS (Ne.symm ne_f0_members_f0_entries) (ninS (Ne.symm ne_f_f0_members_elementData_f0_entries) nin0))
  have f114 := v73_0_0.keep KK96
  have f115 := v73_0_1.keep KK96 (ninS (Ne.symm ne49) (ninS (Ne.symm ne53) nin0))
  have f116 := v73_0_2.keep KK96 (ninS (Ne.symm ne49) (ninS (Ne.symm ne53) nin0))
  have f117 := v73_0_3.keep KK96 (ninS (Ne.symm ne49) (ninS (Ne.symm ne53) nin0))
  have K118 : Keep h0 T96.heap [x0, f0_entries, f0_members, f_f0_members_elementData] := K95.trans KK96 (allS (Or.inl (List.mem_of_getElem? (i := 2) rfl)) (allS (Or.inl (List.mem_of_getElem? (i := 3) rfl)) all0))
  have Z118 : n0 ≤ T96.heap.size := Nat.le_trans Z95 KK96.1
  obtain ⟨rfl, v96_0_0, v96_0_1, v96_0_2, v96_0_3, v96_0_4⟩ := hR96
  refine Goes.back st96 ?_
  show Goes _ _ _ _ _ _ _ (T96.setTop (mkF m 69 #[.val (.ref x0), .val (.ref x1), .val (.ref x2)] [(.int (1 : Int32))]))
  refine Goes.step (fun _ k => XS.pop X96.here hx rfl (hb hby d9_69) rfl rfl k) ?_
  show Goes _ _ _ _ _ _ _ (T96.setTop (mkF m 70 _ []))
  exact Goes.retV X96 hx (BodyLoose.notSynchronized Bd) Bd.returns (hb hby d9_70) (by show Q9_2 Z x0 x1 x2 y_DEFAULTCAPACITY_EMPTY_ELEMENTDATA y_EMPTY_ELEMENTDATA f0_entries f0_members f_f0_members_modCount f_f0_members_elementData ka_y_DEFAULTCAPACITY_EMPTY_ELEMENTDATA ka_f_f0_members_elementData ke mr en0 en1 h0 n0 none T96.heap _; exact ⟨NA96, K118, ⟨rfl, f98, f99, f100, f106, v96_0_0, f113, v96_0_1, v96_0_2, v96_0_3, v96_0_4⟩⟩) (by decide) (by decide)
theorem ef_9_3 (m : MethodId) (x0 : Addr) (x1 : Addr) (x2 : Addr) (y_DEFAULTCAPACITY_EMPTY_ELEMENTDATA : Addr) (y_EMPTY_ELEMENTDATA : Addr) (f0_entries : Addr) (f0_members : Addr) (f_f0_members_modCount : Int32) (f_f0_members_elementData : Addr) (ka_y_DEFAULTCAPACITY_EMPTY_ELEMENTDATA : ClassId) (ka_f_f0_members_elementData : ClassId) (ke : ClassId) (mr : Addr) (en0 : Addr) (en1 : Addr) (en2 : Addr)  : entryFrame m #[(.ref x0), (.ref x1), (.ref x2)] 3 = mkF m 0 #[.val (.ref x0), .val (.ref x1), .val (.ref x2)] [] := by first | (simp [entryFrame, mkF, argsToLocals, Value.category]; done) | rfl
def Q9_3 (Z : State) (x0 : Addr) (x1 : Addr) (x2 : Addr) (y_DEFAULTCAPACITY_EMPTY_ELEMENTDATA : Addr) (y_EMPTY_ELEMENTDATA : Addr) (f0_entries : Addr) (f0_members : Addr) (f_f0_members_modCount : Int32) (f_f0_members_elementData : Addr) (ka_y_DEFAULTCAPACITY_EMPTY_ELEMENTDATA : ClassId) (ka_f_f0_members_elementData : ClassId) (ke : ClassId) (mr : Addr) (en0 : Addr) (en1 : Addr) (en2 : Addr) (h0 : Heap) (n0 : Nat) (v : Option Value) (h : Heap) (L : List Loc) : Prop := Fr n0 L ∧ Keep h0 h [x0, f0_entries, f0_members, f_f0_members_elementData] ∧ ((v = none ∧ Fld Z h x0 "com/example/orbitloom/orbitloom/core/Timeline" "entries" "[Lcom/example/orbitloom/orbitloom/core/Timeline$Entry;" (.ref f0_entries) ∧ Fld Z h x0 "com/example/orbitloom/orbitloom/core/Timeline" "size" "I" (.int (4 : Int32)) ∧ Fld Z h x0 "com/example/orbitloom/orbitloom/core/Timeline" "members" "Ljava/util/List;" (.ref f0_members) ∧ Exa Z h x0 "com/example/orbitloom/orbitloom/core/Timeline" ∧ Exa Z h f0_members "java/util/ArrayList" ∧ Arv Z h f0_entries ke (.object "com/example/orbitloom/orbitloom/core/Timeline$Entry") (8 : Int32) [(.ref en0), (.ref en1), (.ref en2), (.ref x1), .null, .null, .null, .null] .null ∧ Fld Z h f0_members "java/util/AbstractList" "modCount" "I" (.int (f_f0_members_modCount + (1 : Int32))) ∧ Fld Z h f0_members "java/util/ArrayList" "elementData" "[Ljava/lang/Object;" (.ref f_f0_members_elementData) ∧ Fld Z h f0_members "java/util/ArrayList" "size" "I" (.int (4 : Int32)) ∧ Arx Z h f_f0_members_elementData ka_f_f0_members_elementData (.object "java/lang/Object") (10 : Int32)))
set_option maxRecDepth 65536 in
set_option maxHeartbeats 40000000 in
theorem rm9_3 (l : Launch) (Z : State) (a0 : Array Value) (hw : ∀ d ∈ tables_1, d.before a0 Z = true) (ws : List Jvm.Cond) (x0 : Addr) (x1 : Addr) (x2 : Addr) (y_DEFAULTCAPACITY_EMPTY_ELEMENTDATA : Addr) (y_EMPTY_ELEMENTDATA : Addr) (f0_entries : Addr) (f0_members : Addr) (f_f0_members_modCount : Int32) (f_f0_members_elementData : Addr) (ka_y_DEFAULTCAPACITY_EMPTY_ELEMENTDATA : ClassId) (ka_f_f0_members_elementData : ClassId) (ke : ClassId) (mr : Addr) (en0 : Addr) (en1 : Addr) (en2 : Addr) (h0 : Heap) (n0 : Nat) (Z0 : n0 ≤ h0.size) (S_DEFAULTCAPACITY_EMPTY_ELEMENTDATA : Sta Z Z.heap "java/util/ArrayList" "DEFAULTCAPACITY_EMPTY_ELEMENTDATA" "[Ljava/lang/Object;" (.ref y_DEFAULTCAPACITY_EMPTY_ELEMENTDATA)) (S_EMPTY_ELEMENTDATA : Sta Z Z.heap "java/util/ArrayList" "EMPTY_ELEMENTDATA" "[Ljava/lang/Object;" (.ref y_EMPTY_ELEMENTDATA)) (X00 : Old Z n0 h0) (F0_entries : Fld Z h0 x0 "com/example/orbitloom/orbitloom/core/Timeline" "entries" "[Lcom/example/orbitloom/orbitloom/core/Timeline$Entry;" (.ref f0_entries)) (F0_size : Fld Z h0 x0 "com/example/orbitloom/orbitloom/core/Timeline" "size" "I" (.int (3 : Int32))) (F0_members : Fld Z h0 x0 "com/example/orbitloom/orbitloom/core/Timeline" "members" "Ljava/util/List;" (.ref f0_members)) (F_f0_members_modCount : Fld Z h0 f0_members "java/util/AbstractList" "modCount" "I" (.int f_f0_members_modCount)) (F_f0_members_elementData : Fld Z h0 f0_members "java/util/ArrayList" "elementData" "[Ljava/lang/Object;" (.ref f_f0_members_elementData)) (F_f0_members_size : Fld Z h0 f0_members "java/util/ArrayList" "size" "I" (.int (3 : Int32))) (F2_elementData : Fld Z h0 x2 "java/util/ArrayList" "elementData" "[Ljava/lang/Object;" (.ref y_DEFAULTCAPACITY_EMPTY_ELEMENTDATA)) (F2_size : Fld Z h0 x2 "java/util/ArrayList" "size" "I" (.int (0 : Int32))) (E_x0 : Exa Z h0 x0 "com/example/orbitloom/orbitloom/core/Timeline") (E_f0_members : Exa Z h0 f0_members "java/util/ArrayList") (E_x1 : Exa Z h0 x1 "com/example/orbitloom/orbitloom/core/Timeline$Entry") (E_x2 : Exa Z h0 x2 "java/util/ArrayList") (E_y_DEFAULTCAPACITY_EMPTY_ELEMENTDATA : Exa Z h0 y_DEFAULTCAPACITY_EMPTY_ELEMENTDATA "[Ljava/lang/Object;") (V_y_DEFAULTCAPACITY_EMPTY_ELEMENTDATA : Arx Z h0 y_DEFAULTCAPACITY_EMPTY_ELEMENTDATA ka_y_DEFAULTCAPACITY_EMPTY_ELEMENTDATA (.object "java/lang/Object") (0 : Int32)) (V_f_f0_members_elementData : Arx Z h0 f_f0_members_elementData ka_f_f0_members_elementData (.object "java/lang/Object") (10 : Int32)) (O_f_f0_members_elementData : Ovr Z ka_f_f0_members_elementData "java/lang/Object") (V_en : Arv Z h0 f0_entries ke (.object "com/example/orbitloom/orbitloom/core/Timeline$Entry") (8 : Int32) [(.ref en0), (.ref en1), (.ref en2), .null, .null, .null, .null, .null] .null) (O_en : Ovr Z ke "com/example/orbitloom/orbitloom/core/Timeline$Entry") (MR : MirO Z "[Ljava/lang/Object;" mr) (g_x0 : n0 ≤ x0) (g_f0_entries : n0 ≤ f0_entries) (g_f0_members : n0 ≤ f0_members) (g_f_f0_members_elementData : n0 ≤ f_f0_members_elementData) (ne_x0_f0_entries : x0 ≠ f0_entries) (ne_x0_f0_members : x0 ≠ f0_members) (ne_f0_members_f0_entries : f0_members ≠ f0_entries) (ne_x2_x0 : x2 ≠ x0) (ne_x2_f0_members : x2 ≠ f0_members) (ne_x2_f0_entries : x2 ≠ f0_entries) (ne_y_DEFAULTCAPACITY_EMPTY_ELEMENTDATA_x0 : y_DEFAULTCAPACITY_EMPTY_ELEMENTDATA ≠ x0) (ne_y_DEFAULTCAPACITY_EMPTY_ELEMENTDATA_f0_members : y_DEFAULTCAPACITY_EMPTY_ELEMENTDATA ≠ f0_members) (ne_y_DEFAULTCAPACITY_EMPTY_ELEMENTDATA_f0_entries : y_DEFAULTCAPACITY_EMPTY_ELEMENTDATA ≠ f0_entries) (ne_x1_x0 : x1 ≠ x0) (ne_x1_f0_members : x1 ≠ f0_members) (ne_x1_f0_entries : x1 ≠ f0_entries) (ne_f_f0_members_elementData_x0 : f_f0_members_elementData ≠ x0) (ne_f_f0_members_elementData_f0_entries : f_f0_members_elementData ≠ f0_entries) (ne_f_f0_members_elementData_f0_members : f_f0_members_elementData ≠ f0_members) (ne_x2_f_f0_members_elementData : x2 ≠ f_f0_members_elementData) (ne_y_DEFAULTCAPACITY_EMPTY_ELEMENTDATA_f_f0_members_elementData : y_DEFAULTCAPACITY_EMPTY_ELEMENTDATA ≠ f_f0_members_elementData) (ne_x1_f_f0_members_elementData : x1 ≠ f_f0_members_elementData) :
    MetFree l (⟨"com/example/orbitloom/orbitloom/core/Timeline", "append", "(Lcom/example/orbitloom/orbitloom/core/Timeline$Entry;Ljava/util/List;)V"⟩ : MethodName) (head1 (Jvm.Cond.code (⟨"com/example/orbitloom/orbitloom/core/Timeline", "append", "(Lcom/example/orbitloom/orbitloom/core/Timeline$Entry;Ljava/util/List;)V"⟩ : MethodName) prog_49_method_12_code 3 none :: ws) ({ frames := 5, cells := 2, slots := 3, locals := 74 } : Room)) (fun a U => a = #[(.ref x0), (.ref x1), (.ref x2)] ∧ Z.Warmed39 U.vm ∧ U.heap = h0) (fun _ _ _ _ _ => True) (fun _ U o U' => ∃ v L, o = .returned v ∧ Q9_3 Z x0 x1 x2 y_DEFAULTCAPACITY_EMPTY_ELEMENTDATA y_EMPTY_ELEMENTDATA f0_entries f0_members f_f0_members_modCount f_f0_members_elementData ka_y_DEFAULTCAPACITY_EMPTY_ELEMENTDATA ka_f_f0_members_elementData ke mr en0 en1 en2 h0 n0 v U'.heap L ∧ FrameEnd U o U' L ({ frames := 5, cells := 2, slots := 3, locals := 74 } : Room).cells ({ frames := 5, cells := 2, slots := 3, locals := 74 } : Room).slots) := by
  refine MetFree.of_bodySF (plainFor_of_name pn_9) hisR ?_
  intro p e s m args below meth c s₁ Bd hml0 hP hK
  obtain ⟨rfl, hZ, hh⟩ := hP
  have w_7 := hw _ (List.mem_of_getElem? (i := 7) rfl)
  have w_17 := hw _ (List.mem_of_getElem? (i := 17) rfl)
  have w_18 := hw _ (List.mem_of_getElem? (i := 18) rfl)
  have w_19 := hw _ (List.mem_of_getElem? (i := 19) rfl)
  have w_20 := hw _ (List.mem_of_getElem? (i := 20) rfl)
  have w_21 := hw _ (List.mem_of_getElem? (i := 21) rfl)
  have w_39 := hw _ (List.mem_of_getElem? (i := 39) rfl)
  have w_42 := hw _ (List.mem_of_getElem? (i := 42) rfl)
  have w_43 := hw _ (List.mem_of_getElem? (i := 43) rfl)
  have w_44 := hw _ (List.mem_of_getElem? (i := 44) rfl)
  have w_72 := hw _ (List.mem_of_getElem? (i := 72) rfl)
  have w_73 := hw _ (List.mem_of_getElem? (i := 73) rfl)
  have w_75 := hw _ (List.mem_of_getElem? (i := 75) rfl)
  have w_76 := hw _ (List.mem_of_getElem? (i := 76) rfl)
  have w_77 := hw _ (List.mem_of_getElem? (i := 77) rfl)
  have w_88 := hw _ (List.mem_of_getElem? (i := 88) rfl)
  have w_114 := hw _ (List.mem_of_getElem? (i := 114) rfl)
  have w_115 := hw _ (List.mem_of_getElem? (i := 115) rfl)
  have w_116 := hw _ (List.mem_of_getElem? (i := 116) rfl)
  have w_117 := hw _ (List.mem_of_getElem? (i := 117) rfl)
  have w_118 := hw _ (List.mem_of_getElem? (i := 118) rfl)
  have w_119 := hw _ (List.mem_of_getElem? (i := 119) rfl)
  have w_120 := hw _ (List.mem_of_getElem? (i := 120) rfl)
  have w_121 := hw _ (List.mem_of_getElem? (i := 121) rfl)
  have w_122 := hw _ (List.mem_of_getElem? (i := 122) rfl)
  have hx := Bd.exec
  have hby := Bd.bytes
  have hml : c.maxLocals = 3 := hml0
  have hown : s.vm.findClass "com/example/orbitloom/orbitloom/core/Timeline" = some m.cls := findClass_of_methodNamed Bd.named
  have hnm := (name_of_methodNamed Bd.named Bd.method).1
  have X0 : Stand p l e ({ frames := 5, cells := 2, slots := 3, locals := 74 } : Room) s m #[(.ref x0), (.ref x1), (.ref x2)] below meth c s₁ [] 0 0 := Stand.of_body Bd
  have e0 : s₁.heap = h0 := by rw [← hh, Bd.state]; rfl
  have N0 := Fr.nil n0
  have K0 : Keep h0 h0 [x0, f0_entries, f0_members, f_f0_members_elementData] := Keep.refl h0 _
  refine (?_ : Goes p e below s ({ frames := 5, cells := 2, slots := 3, locals := 74 } : Room).cells ({ frames := 5, cells := 2, slots := 3, locals := 74 } : Room).slots (fun v h L => Q9_3 Z x0 x1 x2 y_DEFAULTCAPACITY_EMPTY_ELEMENTDATA y_EMPTY_ELEMENTDATA f0_entries f0_members f_f0_members_modCount f_f0_members_elementData ka_y_DEFAULTCAPACITY_EMPTY_ELEMENTDATA ka_f_f0_members_elementData ke mr en0 en1 en2 h0 n0 v h L) (s₁.setTop (entryFrame m #[(.ref x0), (.ref x1), (.ref x2)] 3)))
  rw [ef_9_3 m x0 x1 x2 y_DEFAULTCAPACITY_EMPTY_ELEMENTDATA y_EMPTY_ELEMENTDATA f0_entries f0_members f_f0_members_modCount f_f0_members_elementData ka_y_DEFAULTCAPACITY_EMPTY_ELEMENTDATA ka_f_f0_members_elementData ke mr en0 en1 en2 ]
  show Goes _ _ _ _ _ _ _ (s₁.setTop (mkF m 0 #[.val (.ref x0), .val (.ref x1), .val (.ref x2)] []))
  refine Goes.step (fun _ k => XS.aloadN X0.here hx rfl (hb hby d9_0) rfl rfl k) ?_
  obtain ⟨T1, X1, e1, st1⟩ := getF X0 hx hZ hown (host := "") (Or.inl w_72) Via.refl e0 F0_size (g := (mkF m 1 #[.val (.ref x0), .val (.ref x1), .val (.ref x2)] [(.ref x0)])) rfl rfl (hb hby d9_1)
  refine Goes.step st1 ?_
  show Goes _ _ _ _ _ _ _ (T1.setTop (mkF m 4 _ [(.int (3 : Int32))]))
  refine Goes.step (fun _ k => XS.aloadN X1.here hx rfl (hb hby d9_4) rfl rfl k) ?_
  obtain ⟨T2, X2, e2, st2⟩ := getF X1 hx hZ hown (host := "") (Or.inl w_17) Via.refl e1 F0_entries (g := (mkF m 5 #[.val (.ref x0), .val (.ref x1), .val (.ref x2)] [(.ref x0), (.int (3 : Int32))])) rfl rfl (hb hby d9_5)
  refine Goes.step st2 ?_
  show Goes _ _ _ _ _ _ _ (T2.setTop (mkF m 8 _ [(.ref f0_entries), (.int (3 : Int32))]))
  obtain ⟨cl3, Ar3, q3, S3, P3, H3, G3⟩ := id V_en
  refine Goes.step (fun _ k => X2.arraylength hx (by rw [e2]; exact Ar3.1) (State.isArrayOf_alike hZ.alike Ar3.2.1) (g := (mkF m 8 #[.val (.ref x0), .val (.ref x1), .val (.ref x2)] [(.ref f0_entries), (.int (3 : Int32))])) rfl rfl (hb hby d9_8) _ k) ?_
  rw [len_of S3 P3]
  show Goes _ _ _ _ _ _ _ (T2.setTop (mkF m 9 _ [(.int (8 : Int32)), (.int (3 : Int32))]))
  refine Goes.step (fun _ k => XS.icmpYes X2.here hx rfl (pc0 := 9) (pc' := 32) rfl (hb hby d9_9) rfl (feq (by decide : ¬ ((3 : Int32) = (8 : Int32)))).2 (by decide) (by decide) k) ?_
  show Goes _ _ _ _ _ _ _ (T2.setTop (mkF m 32 _ []))
  refine Goes.step (fun _ k => XS.aloadN X2.here hx rfl (hb hby d9_32) rfl rfl k) ?_
  obtain ⟨T4, X4, e4, st4⟩ := getF X2 hx hZ hown (host := "") (Or.inl w_17) Via.refl e2 F0_entries (g := (mkF m 33 #[.val (.ref x0), .val (.ref x1), .val (.ref x2)] [(.ref x0)])) rfl rfl (hb hby d9_33)
  refine Goes.step st4 ?_
  show Goes _ _ _ _ _ _ _ (T4.setTop (mkF m 36 _ [(.ref f0_entries)]))
  refine Goes.step (fun _ k => XS.aloadN X4.here hx rfl (hb hby d9_36) rfl rfl k) ?_
  obtain ⟨T5, X5, e5, st5⟩ := getF X4 hx hZ hown (host := "") (Or.inl w_72) Via.refl e4 F0_size (g := (mkF m 37 #[.val (.ref x0), .val (.ref x1), .val (.ref x2)] [(.ref x0), (.ref f0_entries)])) rfl rfl (hb hby d9_37)
  refine Goes.step st5 ?_
  show Goes _ _ _ _ _ _ _ (T5.setTop (mkF m 40 _ [(.int (3 : Int32)), (.ref f0_entries)]))
  refine Goes.step (fun _ k => XS.aloadN X5.here hx rfl (hb hby d9_40) rfl rfl k) ?_
  obtain ⟨cl6, Ar6, q6, S6, P6, H6, G6⟩ := id V_en
  have hin6 : ¬ ((3 : Int32) < 0 ∨ cl6.slots.size ≤ ((3 : Int32)).toNatClampNeg) := inb_of S6 ⟨by decide, by decide⟩
  obtain ⟨T7, h7, X7, e7, W7, st7⟩ := stR X5 hx hZ e5 Ar6 (j := (3 : Int32)) hin6 rfl (Sto.ofV Ar6 q6 O_en (Ins.self E_x1)) (g := (mkF m 41 #[.val (.ref x0), .val (.ref x1), .val (.ref x2)] [(.ref x1), (.int (3 : Int32)), (.ref f0_entries)])) rfl rfl (hb hby d9_41)
  refine Goes.step st7 ?_
  have V7 := Arv.set Ar6 q6 S6 P6 H6 G6 rfl W7 3 rfl (Nat.le_of_ble_eq_true rfl)
  have XO8 : Old Z n0 h7 := X00.wr W7 g_f0_entries
  have f9 := F0_entries.other W7 (Or.inl ne_x0_f0_entries)
  have f10 := F0_size.other W7 (Or.inl ne_x0_f0_entries)
  have f11 := F0_members.other W7 (Or.inl ne_x0_f0_entries)
  have f12 := F_f0_members_modCount.other W7 (Or.inl ne_f0_members_f0_entries)
  have f13 := F_f0_members_elementData.other W7 (Or.inl ne_f0_members_f0_entries)
  have f14 := F_f0_members_size.other W7 (Or.inl ne_f0_members_f0_entries)
  have f15 := F2_elementData.other W7 (Or.inl ne_x2_f0_entries)
  have f16 := F2_size.other W7 (Or.inl ne_x2_f0_entries)
  have f17 := E_x0.wr W7
  have f18 := E_f0_members.wr W7
  have f19 := E_x1.wr W7
  have f20 := E_x2.wr W7
  have f21 := E_y_DEFAULTCAPACITY_EMPTY_ELEMENTDATA.wr W7
  have f22 := V_y_DEFAULTCAPACITY_EMPTY_ELEMENTDATA.other W7 ne_y_DEFAULTCAPACITY_EMPTY_ELEMENTDATA_f0_entries
  have f23 := V_f_f0_members_elementData.other W7 ne_f_f0_members_elementData_f0_entries
  have f24 := V7
  have K25 : Keep h0 h7 [x0, f0_entries, f0_members, f_f0_members_elementData] := K0.wr W7 (Or.inl (List.mem_of_getElem? (i := 1) rfl))
  have Z25 : n0 ≤ h7.size := by rw [Wr.size W7]; exact Z0
  have N25 := Fr.snoc X7 N0 g_f0_entries
  show Goes _ _ _ _ _ _ _ (T7.setTop (mkF m 42 #[.val (.ref x0), .val (.ref x1), .val (.ref x2)] []))
  refine Goes.step (fun _ k => XS.aloadN X7.here hx rfl (hb hby d9_42) rfl rfl k) ?_
  refine Goes.step (fun _ k => XS.dup X7.here hx rfl (hb hby d9_43) rfl rfl k) ?_
  obtain ⟨T26, X26, e26, st26⟩ := getF X7 hx hZ hown (host := "") (Or.inl w_72) Via.refl e7 f10 (g := (mkF m 44 #[.val (.ref x0), .val (.ref x1), .val (.ref x2)] [(.ref x0), (.ref x0)])) rfl rfl (hb hby d9_44)
  refine Goes.step st26 ?_
  show Goes _ _ _ _ _ _ _ (T26.setTop (mkF m 47 _ [(.int (3 : Int32)), (.ref x0)]))
  refine Goes.step (fun _ k => XS.iconst X26.here hx rfl (hb hby d9_47) k) ?_
  refine Goes.step (fun _ k => XS.iadd X26.here hx rfl (hb hby d9_48) rfl k) ?_
  show Goes _ _ _ _ _ _ _ (T26.setTop (mkF m 49 _ [(.int (4 : Int32)), (.ref x0)]))
  obtain ⟨T27, h27, X27, e27, W27, st27⟩ := putF X26 hx hZ hown (host := "") (Or.inl w_72) Via.refl e26 f10 f17 (Or.inl w_73) w_7 (ty := .int) (by decide) rfl rfl (g := (mkF m 49 #[.val (.ref x0), .val (.ref x1), .val (.ref x2)] [(.int (4 : Int32)), (.ref x0)])) rfl rfl (hb hby d9_49)
  refine Goes.step st27 ?_
  have XO28 : Old Z n0 h27 := XO8.wr W27 g_x0
  have f29 := f9.other W27 (Or.inr (slot_ne (Or.inl w_18) (Or.inl w_73) (by decide) (t := (.array (.object "com/example/orbitloom/orbitloom/core/Timeline$Entry"))) (t' := .int) (by decide) (by decide)))
  have f30 := f10.same W27
  have f31 := f11.other W27 (Or.inr (slot_ne (Or.inr w_44) (Or.inl w_73) (by decide) (t := (.object "java/util/List")) (t' := .int) (by decide) (by decide)))
  have f32 := f12.other W27 (Or.inl (Ne.symm ne_x0_f0_members))
  have f33 := f13.other W27 (Or.inl (Ne.symm ne_x0_f0_members))
  have f34 := f14.other W27 (Or.inl (Ne.symm ne_x0_f0_members))
  have f35 := f15.other W27 (Or.inl ne_x2_x0)
  have f36 := f16.other W27 (Or.inl ne_x2_x0)
  have f37 := f17.wr W27
  have f38 := f18.wr W27
  have f39 := f19.wr W27
  have f40 := f20.wr W27
  have f41 := f21.wr W27
  have f42 := f22.other W27 ne_y_DEFAULTCAPACITY_EMPTY_ELEMENTDATA_x0
  have f43 := f23.other W27 ne_f_f0_members_elementData_x0
  have f44 := f24.other W27 (Ne.symm ne_x0_f0_entries)
  have K45 : Keep h0 h27 [x0, f0_entries, f0_members, f_f0_members_elementData] := K25.wr W27 (Or.inl (List.mem_of_getElem? (i := 0) rfl))
  have Z45 : n0 ≤ h27.size := by rw [Wr.size W27]; exact Z25
  have N45 := Fr.snoc X27 N25 g_x0
  show Goes _ _ _ _ _ _ _ (T27.setTop (mkF m 52 _ []))
  refine Goes.step (fun _ k => XS.aloadN X27.here hx rfl (hb hby d9_52) rfl rfl k) ?_
  obtain ⟨T46, X46, e46, st46⟩ := getF X27 hx hZ hown (host := "") (Or.inl w_43) Via.refl e27 f31 (g := (mkF m 53 #[.val (.ref x0), .val (.ref x1), .val (.ref x2)] [(.ref x0)])) rfl rfl (hb hby d9_53)
  refine Goes.step st46 ?_
  show Goes _ _ _ _ _ _ _ (T46.setTop (mkF m 56 _ [(.ref f0_members)]))
  obtain ⟨T47, h47, X47, e47, E47, A47, D47, -, st47⟩ := newO X46 hx hZ hown w_19 w_20 w_21 e46 (g := (mkF m 56 #[.val (.ref x0), .val (.ref x1), .val (.ref x2)] [(.ref f0_members)])) rfl (hb hby d9_56) (by decide) (by decide)
  obtain ⟨b47, g47⟩ : ∃ z, z = h27.size := ⟨_, rfl⟩
  rw [← g47] at A47 D47 st47
  refine Goes.step st47 ?_
  have g_b47 : n0 ≤ b47 := Nat.le_trans Z45 (Nat.le_of_eq g47.symm)
  have sz_b47 : h0.size ≤ b47 := Nat.le_trans K45.1 (Nat.le_of_eq g47.symm)
  have ne48 : x0 ≠ b47 := Nat.ne_of_lt (Nat.lt_of_lt_of_le f29.lt (Nat.le_of_eq g47.symm))
  have ne49 : f0_members ≠ b47 := Nat.ne_of_lt (Nat.lt_of_lt_of_le f32.lt (Nat.le_of_eq g47.symm))
  have ne50 : x2 ≠ b47 := Nat.ne_of_lt (Nat.lt_of_lt_of_le f35.lt (Nat.le_of_eq g47.symm))
  have ne51 : x1 ≠ b47 := Nat.ne_of_lt (Nat.lt_of_lt_of_le f39.lt (Nat.le_of_eq g47.symm))
  have ne52 : y_DEFAULTCAPACITY_EMPTY_ELEMENTDATA ≠ b47 := Nat.ne_of_lt (Nat.lt_of_lt_of_le f41.lt (Nat.le_of_eq g47.symm))
  have ne53 : f_f0_members_elementData ≠ b47 := Nat.ne_of_lt (Nat.lt_of_lt_of_le f43.lt (Nat.le_of_eq g47.symm))
  have ne54 : f0_entries ≠ b47 := Nat.ne_of_lt (Nat.lt_of_lt_of_le f44.lt (Nat.le_of_eq g47.symm))
  have XO55 : Old Z n0 h47 := XO28.ext E47
  have f56 := f29.ext E47
  have f57 := f30.ext E47
  have f58 := f31.ext E47
  have f59 := f32.ext E47
  have f60 := f33.ext E47
  have f61 := f34.ext E47
  have f62 := f35.ext E47
  have f63 := f36.ext E47
  have f64 := f37.ext E47
  have f65 := f38.ext E47
  have f66 := f39.ext E47
  have f67 := f40.ext E47
  have f68 := f41.ext E47
  have f69 := f42.ext E47
  have f70 := f43.ext E47
  have f71 := f44.ext E47
  have K72 : Keep h0 h47 [x0, f0_entries, f0_members, f_f0_members_elementData] := K45.ext E47
  have Z72 : n0 ≤ h47.size := Nat.le_trans Z45 E47.1
  have E_b47 := A47
  have F_modCount_b47 : Fld Z h47 b47 "java/util/AbstractList" "modCount" "I" (.int (0 : Int32)) := D47 (Or.inl w_39) (ty := .int) (by decide)
  have F_elementData_b47 : Fld Z h47 b47 "java/util/ArrayList" "elementData" "[Ljava/lang/Object;" .null := D47 (Or.inl w_42) (ty := (.array (.object "java/lang/Object"))) (by decide)
  have F_size_b47 : Fld Z h47 b47 "java/util/ArrayList" "size" "I" (.int (0 : Int32)) := D47 (Or.inl w_88) (ty := .int) (by decide)
  show Goes _ _ _ _ _ _ _ (T47.setTop (mkF m 59 _ [(.ref b47), (.ref f0_members)]))
  refine Goes.step (fun _ k => XS.dup X47.here hx rfl (hb hby d9_59) rfl rfl k) ?_
  refine Goes.step (fun _ k => XS.aloadN X47.here hx rfl (hb hby d9_60) rfl rfl k) ?_
  obtain ⟨_, _, ⟨T73, L73, k73, n73⟩, -, X73, ⟨Lc73, hQ73, l73, y73, z73⟩, st73⟩ := X47.specialBack hx (y := (⟨"java/util/ArrayList", "<init>", "(Ljava/util/Collection;)V"⟩ : MethodName)) rfl hown (mvT hZ w_75) (mvT hZ w_76) (mvT hZ w_77) (by decide) (backOf (W := 2) (rm10 l Z a0 hw [] b47 x2 y_DEFAULTCAPACITY_EMPTY_ELEMENTDATA y_EMPTY_ELEMENTDATA (0 : Int32) ka_y_DEFAULTCAPACITY_EMPTY_ELEMENTDATA mr h47 n0 Z72 S_DEFAULTCAPACITY_EMPTY_ELEMENTDATA S_EMPTY_ELEMENTDATA XO55 F_modCount_b47 F_elementData_b47 F_size_b47 f62 f63 E_b47 f67 f68 f69 MR g_b47 ne50 ne52) hZ w_77 w_21 (by decide) (by decide)) (g := (mkF m 61 #[.val (.ref x0), .val (.ref x1), .val (.ref x2)] [(.ref x2), (.ref b47), (.ref b47), (.ref f0_members)])) rfl (by rw [hml]; rfl) (Steps.refl _) (a := b47) (argsL := [(.ref x2)]) (rest := [(.ref b47), (.ref f0_members)]) (lenOf pd_4 rfl) rfl (by show 2 * 0 + _ ≤ _; exact Nat.le_of_eq rfl) (hb hby d9_61) (fun _ _ => ⟨rfl, e47, (by decide : 1 + 1 ≤ _), (by decide : 3 + 0 ≤ _)⟩)
  dsimp only [Pt.U, Pt.locs, Pt.cells, Pt.slots] at X73 l73 y73 z73 st73 hQ73
  rw [l73, y73, z73] at X73
  obtain ⟨N73, KK73, hR73⟩ := hQ73
  have NA73 := Fr.app N45 N73
  have XO74 : Old Z n0 T73.heap := XO55.keep KK73 (allS g_b47 all0)
  have f75 := f56.keep KK73 (ninS ne48 nin0)
  have f76 := f57.keep KK73 (ninS ne48 nin0)
  have f77 := f58.keep KK73 (ninS ne48 nin0)
  have f78 := f59.keep KK73 (ninS ne49 nin0)
  have f79 := f60.keep KK73 (ninS ne49 nin0)
  have f80 := f61.keep KK73 (ninS ne49 nin0)
  have f81 := f62.keep KK73 (ninS ne50 nin0)
  have f82 := f63.keep KK73 (ninS ne50 nin0)
  have f83 := f64.keep KK73
  have f84 := f65.keep KK73
  have f85 := f66.keep KK73
  have f86 := f67.keep KK73
  have f87 := f68.keep KK73
  have f88 := f69.keep KK73 (ninS ne52 nin0)
  have f89 := f70.keep KK73 (ninS ne53 nin0)
  have f90 := f71.keep KK73 (ninS ne54 nin0)
  have f91 := E_b47.keep KK73
  have K95 : Keep h0 T73.heap [x0, f0_entries, f0_members, f_f0_members_elementData] := K72.trans KK73 (allS (Or.inr sz_b47) all0)
  have Z95 : n0 ≤ T73.heap.size := Nat.le_trans Z72 KK73.1
  obtain ⟨rfl, v73_0_0, v73_0_1, v73_0_2, v73_0_3⟩ := hR73
  refine Goes.back st73 ?_
  show Goes _ _ _ _ _ _ _ (T73.setTop (mkF m 64 _ [(.ref b47), (.ref f0_members)]))
  obtain ⟨cq96, kq96, q96a, q96b, q96c⟩ := isOf hZ rfl f84
  obtain ⟨_, _, ⟨T96, L96, k96, n96⟩, -, X96, ⟨Lc96, hQ96, l96, y96, z96⟩, st96⟩ := X73.interfaceBack hx (xi := (⟨"java/util/List", "add", "(Ljava/lang/Object;)Z"⟩ : MethodName)) (y := (⟨"java/util/ArrayList", "add", "(Ljava/lang/Object;)Z"⟩ : MethodName)) hown (mvT hZ w_114) (mvT hZ w_115) (mvT hZ w_116) (mvT hZ w_117) (mvT hZ w_118) (mvT hZ w_119) (mvT hZ w_120) (mvT hZ w_121) (by decide) (backOf (W := 0) (rm15_3 l Z a0 hw [] f0_members b47 f_f0_members_modCount f_f0_members_elementData ka_f_f0_members_elementData T73.heap n0 Z95 f78 f79 f80 f84 v73_0_0 f89 O_f_f0_members_elementData g_f0_members g_f_f0_members_elementData ne_f_f0_members_elementData_f0_members) hZ w_122 w_21 (by decide) (by decide)) q96a q96b q96c (g := (mkF m 64 #[.val (.ref x0), .val (.ref x1), .val (.ref x2)] [(.ref b47), (.ref f0_members)])) rfl (by rw [hml]; rfl) (Steps.refl _) (argsL := [(.ref b47)]) (rest := []) (lenOf pd_11 rfl) rfl (by show 2 * 0 + _ ≤ _; exact Nat.le_of_eq rfl) (hb hby d9_64) (fun _ _ => ⟨rfl, rfl, (by decide : 2 + 0 ≤ _), (by decide : 3 + 0 ≤ _)⟩)
  dsimp only [Pt.U, Pt.locs, Pt.cells, Pt.slots] at X96 l96 y96 z96 st96 hQ96
  rw [l96, y96, z96] at X96
  obtain ⟨N96, KK96, hR96⟩ := hQ96
  have NA96 := Fr.app NA73 N96
  have XO97 : Old Z n0 T96.heap := XO74.keep KK96 (allS g_f0_members (allS g_f_f0_members_elementData all0))
  have f98 := f75.keep KK96 (ninS ne_x0_f0_members (ninS (Ne.symm ne_f_f0_members_elementData_x0) nin0))
  have f99 := f76.keep KK96 (ninS ne_x0_f0_members (ninS (Ne.symm ne_f_f0_members_elementData_x0) nin0))
  have f100 := f77.keep KK96 (ninS ne_x0_f0_members (ninS (Ne.symm ne_f_f0_members_elementData_x0) nin0))
  have f104 := f81.keep KK96 (ninS ne_x2_f0_members (ninS ne_x2_f_f0_members_elementData nin0))
  have f105 := f82.keep KK96 (ninS ne_x2_f0_members (ninS ne_x2_f_f0_members_elementData nin0))
  have f106 := f83.keep KK96
  have f107 := f84.keep KK96
  have f108 := f85.keep KK96
  have f109 := f86.keep KK96
  have f110 := f87.keep KK96
  have f111 := f88.keep KK96 (ninS ne_y_DEFAULTCAPACITY_EMPTY_ELEMENTDATA_f0_members (ninS ne_y_DEFAULTCAPACITY_EMPTY_ELEMENTDATA_f_f0_members_elementData nin0))
  have f113 := f90.keep KK96 (ninS (Ne.symm ne_f0_members_f0_entries) (ninS (Ne.symm ne_f_f0_members_elementData_f0_entries) nin0))
  have f114 := v73_0_0.keep KK96
  have f115 := v73_0_1.keep KK96 (ninS (Ne.symm ne49) (ninS (Ne.symm ne53) nin0))
  have f116 := v73_0_2.keep KK96 (ninS (Ne.symm ne49) (ninS (Ne.symm ne53) nin0))
  have f117 := v73_0_3.keep KK96 (ninS (Ne.symm ne49) (ninS (Ne.symm ne53) nin0))
  have K118 : Keep h0 T96.heap [x0, f0_entries, f0_members, f_f0_members_elementData] := K95.trans KK96 (allS (Or.inl (List.mem_of_getElem? (i := 2) rfl)) (allS (Or.inl (List.mem_of_getElem? (i := 3) rfl)) all0))
  have Z118 : n0 ≤ T96.heap.size := Nat.le_trans Z95 KK96.1
  obtain ⟨rfl, v96_0_0, v96_0_1, v96_0_2, v96_0_3, v96_0_4⟩ := hR96
  refine Goes.back st96 ?_
  show Goes _ _ _ _ _ _ _ (T96.setTop (mkF m 69 #[.val (.ref x0), .val (.ref x1), .val (.ref x2)] [(.int (1 : Int32))]))
  refine Goes.step (fun _ k => XS.pop X96.here hx rfl (hb hby d9_69) rfl rfl k) ?_
  show Goes _ _ _ _ _ _ _ (T96.setTop (mkF m 70 _ []))
  exact Goes.retV X96 hx (BodyLoose.notSynchronized Bd) Bd.returns (hb hby d9_70) (by show Q9_3 Z x0 x1 x2 y_DEFAULTCAPACITY_EMPTY_ELEMENTDATA y_EMPTY_ELEMENTDATA f0_entries f0_members f_f0_members_modCount f_f0_members_elementData ka_y_DEFAULTCAPACITY_EMPTY_ELEMENTDATA ka_f_f0_members_elementData ke mr en0 en1 en2 h0 n0 none T96.heap _; exact ⟨NA96, K118, ⟨rfl, f98, f99, f100, f106, v96_0_0, f113, v96_0_1, v96_0_2, v96_0_3, v96_0_4⟩⟩) (by decide) (by decide)
theorem d20_0 : decode prog_49_method_5_code 0 = .ok (.iconst 0, 1) := by decide +kernel
theorem d20_1 : decode prog_49_method_5_code 1 = .ok (.istore_n 3, 1) := by decide +kernel
theorem d20_2 : decode prog_49_method_5_code 2 = .ok (.aload_n 0, 1) := by decide +kernel
theorem d20_3 : decode prog_49_method_5_code 3 = .ok (.getfield 24, 3) := by decide +kernel
theorem d20_6 : decode prog_49_method_5_code 6 = .ok (.istore 4, 2) := by decide +kernel
theorem d20_8 : decode prog_49_method_5_code 8 = .ok (.iload_n 3, 1) := by decide +kernel
theorem d20_9 : decode prog_49_method_5_code 9 = .ok (.iload 4, 2) := by decide +kernel
theorem d20_11 : decode prog_49_method_5_code 11 = .ok (.if_icmp .ge 41, 3) := by decide +kernel
theorem d20_52 : decode prog_49_method_5_code 52 = .ok (.iload_n 3, 1) := by decide +kernel
theorem d20_53 : decode prog_49_method_5_code 53 = .ok (.ireturn, 1) := by decide +kernel
theorem pn_20 : plainName "com/example/orbitloom/orbitloom/core/Timeline" = true := by first | (simp [plainName, overriddenIn]; done) | decide +kernel
theorem ef_20_0 (m : MethodId) (x0 : Addr) (x1 : Int64) (f0_entries : Addr) (ke : ClassId)  : entryFrame m #[(.ref x0), (.long x1)] 6 = mkF m 0 #[.val (.ref x0), .val (.long x1), .second, .unset, .unset, .unset] [] := by first | (simp [entryFrame, mkF, argsToLocals, Value.category]; done) | rfl
def Q20_0 (Z : State) (x0 : Addr) (x1 : Int64) (f0_entries : Addr) (ke : ClassId) (h0 : Heap) (n0 : Nat) (v : Option Value) (h : Heap) (L : List Loc) : Prop := Fr n0 L ∧ h = h0 ∧ ((v = some (.int (0 : Int32))))
set_option maxRecDepth 65536 in
set_option maxHeartbeats 40000000 in
theorem rm20_0 (l : Launch) (Z : State) (a0 : Array Value) (hw : ∀ d ∈ tables_1, d.before a0 Z = true) (ws : List Jvm.Cond) (x0 : Addr) (x1 : Int64) (f0_entries : Addr) (ke : ClassId) (h0 : Heap) (n0 : Nat) (Z0 : n0 ≤ h0.size) (F0_entries : Fld Z h0 x0 "com/example/orbitloom/orbitloom/core/Timeline" "entries" "[Lcom/example/orbitloom/orbitloom/core/Timeline$Entry;" (.ref f0_entries)) (F0_size : Fld Z h0 x0 "com/example/orbitloom/orbitloom/core/Timeline" "size" "I" (.int (0 : Int32))) (E_x0 : Exa Z h0 x0 "com/example/orbitloom/orbitloom/core/Timeline") (V_en : Arv Z h0 f0_entries ke (.object "com/example/orbitloom/orbitloom/core/Timeline$Entry") (8 : Int32) [.null, .null, .null, .null, .null, .null, .null, .null] .null) :
    MetFree l (⟨"com/example/orbitloom/orbitloom/core/Timeline", "firstStartingFrom", "(J)I"⟩ : MethodName) (head1 (Jvm.Cond.code (⟨"com/example/orbitloom/orbitloom/core/Timeline", "firstStartingFrom", "(J)I"⟩ : MethodName) prog_49_method_5_code 6 (some .int) :: ws) ({ frames := 0, cells := 0, slots := 0, locals := 0 } : Room)) (fun a U => a = #[(.ref x0), (.long x1)] ∧ Z.Warmed39 U.vm ∧ U.heap = h0) (fun _ _ _ _ _ => True) (fun _ U o U' => ∃ v L, o = .returned v ∧ Q20_0 Z x0 x1 f0_entries ke h0 n0 v U'.heap L ∧ FrameEnd U o U' L ({ frames := 0, cells := 0, slots := 0, locals := 0 } : Room).cells ({ frames := 0, cells := 0, slots := 0, locals := 0 } : Room).slots) := by
  refine MetFree.of_bodySF (plainFor_of_name pn_20) hisR ?_
  intro p e s m args below meth c s₁ Bd hml0 hP hK
  obtain ⟨rfl, hZ, hh⟩ := hP
  have w_72 := hw _ (List.mem_of_getElem? (i := 72) rfl)
  have hx := Bd.exec
  have hby := Bd.bytes
  have hml : c.maxLocals = 6 := hml0
  have hown : s.vm.findClass "com/example/orbitloom/orbitloom/core/Timeline" = some m.cls := findClass_of_methodNamed Bd.named
  have hnm := (name_of_methodNamed Bd.named Bd.method).1
  have X0 : Stand p l e ({ frames := 0, cells := 0, slots := 0, locals := 0 } : Room) s m #[(.ref x0), (.long x1)] below meth c s₁ [] 0 0 := Stand.of_body Bd
  have e0 : s₁.heap = h0 := by rw [← hh, Bd.state]; rfl
  have N0 := Fr.nil n0
  have K0 : Keep h0 h0 [] := Keep.refl h0 _
  refine (?_ : Goes p e below s ({ frames := 0, cells := 0, slots := 0, locals := 0 } : Room).cells ({ frames := 0, cells := 0, slots := 0, locals := 0 } : Room).slots (fun v h L => Q20_0 Z x0 x1 f0_entries ke h0 n0 v h L) (s₁.setTop (entryFrame m #[(.ref x0), (.long x1)] 6)))
  rw [ef_20_0 m x0 x1 f0_entries ke ]
  show Goes _ _ _ _ _ _ _ (s₁.setTop (mkF m 0 #[.val (.ref x0), .val (.long x1), .second, .unset, .unset, .unset] []))
  refine Goes.step (fun _ k => XS.iconst X0.here hx rfl (hb hby d20_0) k) ?_
  refine Goes.step (fun _ k => XS.istoreN X0.here hx rfl (hb hby d20_1) rfl (l' := #[.val (.ref x0), .val (.long x1), .second, .val (.int (0 : Int32)), .unset, .unset]) rfl k) ?_
  show Goes _ _ _ _ _ _ _ (s₁.setTop (mkF m 2 _ []))
  refine Goes.step (fun _ k => XS.aloadN X0.here hx rfl (hb hby d20_2) rfl rfl k) ?_
  obtain ⟨T1, X1, e1, st1⟩ := getF X0 hx hZ hown (host := "") (Or.inl w_72) Via.refl e0 F0_size (g := (mkF m 3 #[.val (.ref x0), .val (.long x1), .second, .val (.int (0 : Int32)), .unset, .unset] [(.ref x0)])) rfl rfl (hb hby d20_3)
  refine Goes.step st1 ?_
  show Goes _ _ _ _ _ _ _ (T1.setTop (mkF m 6 _ [(.int (0 : Int32))]))
  refine Goes.step (fun _ k => XS.istore X1.here hx rfl (hb hby d20_6) rfl (l' := #[.val (.ref x0), .val (.long x1), .second, .val (.int (0 : Int32)), .val (.int (0 : Int32)), .unset]) rfl k) ?_
  show Goes _ _ _ _ _ _ _ (T1.setTop (mkF m 8 _ []))
  refine Goes.step (fun _ k => XS.iloadN X1.here hx rfl (hb hby d20_8) rfl  k) ?_
  refine Goes.step (fun _ k => XS.iload X1.here hx rfl (hb hby d20_9) rfl  k) ?_
  refine Goes.step (fun _ k => XS.icmpYes X1.here hx rfl (pc0 := 11) (pc' := 52) rfl (hb hby d20_11) rfl (flt (by decide : ¬ ((0 : Int32) < (0 : Int32)))).2.1 (by decide) (by decide) k) ?_
  show Goes _ _ _ _ _ _ _ (T1.setTop (mkF m 52 _ []))
  refine Goes.step (fun _ k => XS.iloadN X1.here hx rfl (hb hby d20_52) rfl  k) ?_
  exact Goes.ret X1 hx (BodyLoose.notSynchronized Bd) Bd.returns rfl (Or.inl ⟨rfl, by simp, _, rfl⟩) (hb hby d20_53) (by show Q20_0 Z x0 x1 f0_entries ke h0 n0 (some (.int (0 : Int32))) T1.heap _; rw [e1]; exact ⟨N0, rfl, rfl⟩) (by decide) (by decide)
theorem d20_14 : decode prog_49_method_5_code 14 = .ok (.iload_n 3, 1) := by decide +kernel
theorem d20_15 : decode prog_49_method_5_code 15 = .ok (.iload 4, 2) := by decide +kernel
theorem d20_17 : decode prog_49_method_5_code 17 = .ok (.iadd, 1) := by decide +kernel
theorem d20_18 : decode prog_49_method_5_code 18 = .ok (.iconst 1, 1) := by decide +kernel
theorem d20_19 : decode prog_49_method_5_code 19 = .ok (.iushr, 1) := by decide +kernel
theorem d20_20 : decode prog_49_method_5_code 20 = .ok (.istore 5, 2) := by decide +kernel
theorem d20_22 : decode prog_49_method_5_code 22 = .ok (.aload_n 0, 1) := by decide +kernel
theorem d20_23 : decode prog_49_method_5_code 23 = .ok (.getfield 11, 3) := by decide +kernel
theorem d20_26 : decode prog_49_method_5_code 26 = .ok (.iload 5, 2) := by decide +kernel
theorem d20_28 : decode prog_49_method_5_code 28 = .ok (.aaload, 1) := by decide +kernel
theorem d20_29 : decode prog_49_method_5_code 29 = .ok (.invokevirtual 34, 3) := by decide +kernel
theorem d20_32 : decode prog_49_method_5_code 32 = .ok (.lload_n 1, 1) := by decide +kernel
theorem d20_33 : decode prog_49_method_5_code 33 = .ok (.lcmp, 1) := by decide +kernel
theorem d20_34 : decode prog_49_method_5_code 34 = .ok (.ifCond .lt 10, 3) := by decide +kernel
theorem d20_37 : decode prog_49_method_5_code 37 = .ok (.iload 5, 2) := by decide +kernel
theorem d20_39 : decode prog_49_method_5_code 39 = .ok (.istore 4, 2) := by decide +kernel
theorem d20_41 : decode prog_49_method_5_code 41 = .ok (.goto 8, 3) := by decide +kernel
theorem d20_44 : decode prog_49_method_5_code 44 = .ok (.iload 5, 2) := by decide +kernel
theorem d20_46 : decode prog_49_method_5_code 46 = .ok (.iconst 1, 1) := by decide +kernel
theorem d20_47 : decode prog_49_method_5_code 47 = .ok (.iadd, 1) := by decide +kernel
theorem d20_48 : decode prog_49_method_5_code 48 = .ok (.istore_n 3, 1) := by decide +kernel
theorem d20_49 : decode prog_49_method_5_code 49 = .ok (.goto (-41), 3) := by decide +kernel
theorem ef_20_1 (m : MethodId) (x0 : Addr) (x1 : Int64) (f0_entries : Addr) (ke : ClassId) (en0 : Addr) (t0 : Int64)  : entryFrame m #[(.ref x0), (.long x1)] 6 = mkF m 0 #[.val (.ref x0), .val (.long x1), .second, .unset, .unset, .unset] [] := by first | (simp [entryFrame, mkF, argsToLocals, Value.category]; done) | rfl
theorem pd_15 : parseMethodDescriptor "()J" = some ⟨[], some .long⟩ := by decide +kernel
def Q20_1 (Z : State) (x0 : Addr) (x1 : Int64) (f0_entries : Addr) (ke : ClassId) (en0 : Addr) (t0 : Int64) (h0 : Heap) (n0 : Nat) (v : Option Value) (h : Heap) (L : List Loc) : Prop := Fr n0 L ∧ h = h0 ∧ ((v = some (.int (1 : Int32)) ∧ t0 < x1) ∨ (v = some (.int (0 : Int32)) ∧ ¬ (t0 < x1)))
set_option maxRecDepth 65536 in
set_option maxHeartbeats 40000000 in
theorem rm20_1 (l : Launch) (Z : State) (a0 : Array Value) (hw : ∀ d ∈ tables_1, d.before a0 Z = true) (ws : List Jvm.Cond) (x0 : Addr) (x1 : Int64) (f0_entries : Addr) (ke : ClassId) (en0 : Addr) (t0 : Int64) (h0 : Heap) (n0 : Nat) (Z0 : n0 ≤ h0.size) (F0_entries : Fld Z h0 x0 "com/example/orbitloom/orbitloom/core/Timeline" "entries" "[Lcom/example/orbitloom/orbitloom/core/Timeline$Entry;" (.ref f0_entries)) (F0_size : Fld Z h0 x0 "com/example/orbitloom/orbitloom/core/Timeline" "size" "I" (.int (1 : Int32))) (E_x0 : Exa Z h0 x0 "com/example/orbitloom/orbitloom/core/Timeline") (V_en : Arv Z h0 f0_entries ke (.object "com/example/orbitloom/orbitloom/core/Timeline$Entry") (8 : Int32) [(.ref en0), .null, .null, .null, .null, .null, .null, .null] .null) (Fe0 : Fld Z h0 en0 "com/example/orbitloom/orbitloom/core/Timeline$Entry" "start" "J" (.long t0)) (Ee0 : Exa Z h0 en0 "com/example/orbitloom/orbitloom/core/Timeline$Entry") :
    MetFree l (⟨"com/example/orbitloom/orbitloom/core/Timeline", "firstStartingFrom", "(J)I"⟩ : MethodName) (head1 (Jvm.Cond.code (⟨"com/example/orbitloom/orbitloom/core/Timeline", "firstStartingFrom", "(J)I"⟩ : MethodName) prog_49_method_5_code 6 (some .int) :: ws) ({ frames := 1, cells := 0, slots := 0, locals := 12 } : Room)) (fun a U => a = #[(.ref x0), (.long x1)] ∧ Z.Warmed39 U.vm ∧ U.heap = h0) (fun _ _ _ _ _ => True) (fun _ U o U' => ∃ v L, o = .returned v ∧ Q20_1 Z x0 x1 f0_entries ke en0 t0 h0 n0 v U'.heap L ∧ FrameEnd U o U' L ({ frames := 1, cells := 0, slots := 0, locals := 12 } : Room).cells ({ frames := 1, cells := 0, slots := 0, locals := 12 } : Room).slots) := by
  refine MetFree.of_bodySF (plainFor_of_name pn_20) hisR ?_
  intro p e s m args below meth c s₁ Bd hml0 hP hK
  obtain ⟨rfl, hZ, hh⟩ := hP
  have w_17 := hw _ (List.mem_of_getElem? (i := 17) rfl)
  have w_49 := hw _ (List.mem_of_getElem? (i := 49) rfl)
  have w_72 := hw _ (List.mem_of_getElem? (i := 72) rfl)
  have w_150 := hw _ (List.mem_of_getElem? (i := 150) rfl)
  have w_151 := hw _ (List.mem_of_getElem? (i := 151) rfl)
  have w_152 := hw _ (List.mem_of_getElem? (i := 152) rfl)
  have w_153 := hw _ (List.mem_of_getElem? (i := 153) rfl)
  have w_154 := hw _ (List.mem_of_getElem? (i := 154) rfl)
  have hx := Bd.exec
  have hby := Bd.bytes
  have hml : c.maxLocals = 6 := hml0
  have hown : s.vm.findClass "com/example/orbitloom/orbitloom/core/Timeline" = some m.cls := findClass_of_methodNamed Bd.named
  have hnm := (name_of_methodNamed Bd.named Bd.method).1
  have X0 : Stand p l e ({ frames := 1, cells := 0, slots := 0, locals := 12 } : Room) s m #[(.ref x0), (.long x1)] below meth c s₁ [] 0 0 := Stand.of_body Bd
  have e0 : s₁.heap = h0 := by rw [← hh, Bd.state]; rfl
  have N0 := Fr.nil n0
  have K0 : Keep h0 h0 [] := Keep.refl h0 _
  refine (?_ : Goes p e below s ({ frames := 1, cells := 0, slots := 0, locals := 12 } : Room).cells ({ frames := 1, cells := 0, slots := 0, locals := 12 } : Room).slots (fun v h L => Q20_1 Z x0 x1 f0_entries ke en0 t0 h0 n0 v h L) (s₁.setTop (entryFrame m #[(.ref x0), (.long x1)] 6)))
  rw [ef_20_1 m x0 x1 f0_entries ke en0 t0 ]
  show Goes _ _ _ _ _ _ _ (s₁.setTop (mkF m 0 #[.val (.ref x0), .val (.long x1), .second, .unset, .unset, .unset] []))
  refine Goes.step (fun _ k => XS.iconst X0.here hx rfl (hb hby d20_0) k) ?_
  refine Goes.step (fun _ k => XS.istoreN X0.here hx rfl (hb hby d20_1) rfl (l' := #[.val (.ref x0), .val (.long x1), .second, .val (.int (0 : Int32)), .unset, .unset]) rfl k) ?_
  show Goes _ _ _ _ _ _ _ (s₁.setTop (mkF m 2 _ []))
  refine Goes.step (fun _ k => XS.aloadN X0.here hx rfl (hb hby d20_2) rfl rfl k) ?_
  obtain ⟨T1, X1, e1, st1⟩ := getF X0 hx hZ hown (host := "") (Or.inl w_72) Via.refl e0 F0_size (g := (mkF m 3 #[.val (.ref x0), .val (.long x1), .second, .val (.int (0 : Int32)), .unset, .unset] [(.ref x0)])) rfl rfl (hb hby d20_3)
  refine Goes.step st1 ?_
  show Goes _ _ _ _ _ _ _ (T1.setTop (mkF m 6 _ [(.int (1 : Int32))]))
  refine Goes.step (fun _ k => XS.istore X1.here hx rfl (hb hby d20_6) rfl (l' := #[.val (.ref x0), .val (.long x1), .second, .val (.int (0 : Int32)), .val (.int (1 : Int32)), .unset]) rfl k) ?_
  show Goes _ _ _ _ _ _ _ (T1.setTop (mkF m 8 _ []))
  refine Goes.step (fun _ k => XS.iloadN X1.here hx rfl (hb hby d20_8) rfl  k) ?_
  refine Goes.step (fun _ k => XS.iload X1.here hx rfl (hb hby d20_9) rfl  k) ?_
  refine Goes.step (fun _ k => XS.icmpNo X1.here hx rfl (hb hby d20_11) rfl (tlt (by decide : (0 : Int32) < (1 : Int32))).2.1 k) ?_
  show Goes _ _ _ _ _ _ _ (T1.setTop (mkF m 14 _ []))
  refine Goes.step (fun _ k => XS.iloadN X1.here hx rfl (hb hby d20_14) rfl  k) ?_
  refine Goes.step (fun _ k => XS.iload X1.here hx rfl (hb hby d20_15) rfl  k) ?_
  refine Goes.step (fun _ k => XS.iadd X1.here hx rfl (hb hby d20_17) rfl k) ?_
  show Goes _ _ _ _ _ _ _ (T1.setTop (mkF m 18 _ [(.int (1 : Int32))]))
  refine Goes.step (fun _ k => XS.iconst X1.here hx rfl (hb hby d20_18) k) ?_
  refine Goes.step (fun _ k => XS.iushr X1.here hx rfl (hb hby d20_19) rfl k) ?_
  show Goes _ _ _ _ _ _ _ (T1.setTop (mkF m 20 _ [(.int (0 : Int32))]))
  refine Goes.step (fun _ k => XS.istore X1.here hx rfl (hb hby d20_20) rfl (l' := #[.val (.ref x0), .val (.long x1), .second, .val (.int (0 : Int32)), .val (.int (1 : Int32)), .val (.int (0 : Int32))]) rfl k) ?_
  show Goes _ _ _ _ _ _ _ (T1.setTop (mkF m 22 #[.val (.ref x0), .val (.long x1), .second, .val (.int (0 : Int32)), .val (.int (1 : Int32)), .val (.int (0 : Int32))] []))
  refine Goes.step (fun _ k => XS.aloadN X1.here hx rfl (hb hby d20_22) rfl rfl k) ?_
  obtain ⟨T2, X2, e2, st2⟩ := getF X1 hx hZ hown (host := "") (Or.inl w_17) Via.refl e1 F0_entries (g := (mkF m 23 #[.val (.ref x0), .val (.long x1), .second, .val (.int (0 : Int32)), .val (.int (1 : Int32)), .val (.int (0 : Int32))] [(.ref x0)])) rfl rfl (hb hby d20_23)
  refine Goes.step st2 ?_
  show Goes _ _ _ _ _ _ _ (T2.setTop (mkF m 26 _ [(.ref f0_entries)]))
  refine Goes.step (fun _ k => XS.iload X2.here hx rfl (hb hby d20_26) rfl  k) ?_
  obtain ⟨cl3, Ar3, q3, S3, P3, H3, G3⟩ := id V_en
  have hin3 : ¬ ((0 : Int32) < 0 ∨ cl3.slots.size ≤ ((0 : Int32)).toNatClampNeg) := inb_of S3 ⟨by decide, by decide⟩
  have hat3 : cl3.slots[((0 : Int32)).toNatClampNeg]? = some (.ref en0) := H3 _ (by rw [S3]; decide)
  refine Goes.step (fun _ k => X2.aaload hx (j := (0 : Int32)) (v := (.ref en0)) (by rw [e2]; exact Ar3.1) (State.isArrayOf_alike hZ.alike Ar3.2.1) rfl Ar3.2.2 hin3 hat3 (g := (mkF m 28 #[.val (.ref x0), .val (.long x1), .second, .val (.int (0 : Int32)), .val (.int (1 : Int32)), .val (.int (0 : Int32))] [(.int (0 : Int32)), (.ref f0_entries)])) rfl rfl (hb hby d20_28) _ k) ?_
  show Goes _ _ _ _ _ _ _ (T2.setTop (mkF m 29 _ [(.ref en0)]))
  obtain ⟨cq4, kq4, q4a, q4b, q4c⟩ := isOf hZ e2 Ee0
  obtain ⟨_, _, ⟨T4, L4, k4, n4⟩, -, X4, ⟨Lc4, hQ4, l4, y4, z4⟩, st4⟩ := X2.virtualBack hx (y := (⟨"com/example/orbitloom/orbitloom/core/Timeline$Entry", "start", "()J"⟩ : MethodName)) (z := (⟨"com/example/orbitloom/orbitloom/core/Timeline$Entry", "start", "()J"⟩ : MethodName)) hown (mvT hZ w_150) (mvT hZ w_151) (notFace_of_selects (args := #[]) (mvT hZ w_153)) (mvT hZ w_153) (mvT hZ w_152) (by decide) (backOf (W := 0) (rm21 l Z a0 hw [] en0 t0 h0 n0 Z0 Fe0) hZ w_154 w_49 (by decide) (by decide)) q4a q4c (g := (mkF m 29 #[.val (.ref x0), .val (.long x1), .second, .val (.int (0 : Int32)), .val (.int (1 : Int32)), .val (.int (0 : Int32))] [(.ref en0)])) rfl (by rw [hml]; rfl) (Steps.refl _) (argsL := []) (rest := []) (lenOf pd_15 rfl) rfl (by show 2 * 0 + _ ≤ _; exact Nat.le_of_eq rfl) (hb hby d20_29) (fun _ _ => ⟨rfl, e2, (by decide : 0 + 0 ≤ _), (by decide : 0 + 0 ≤ _)⟩)
  dsimp only [Pt.U, Pt.locs, Pt.cells, Pt.slots] at X4 l4 y4 z4 st4 hQ4
  rw [l4, y4, z4] at X4
  obtain ⟨N4, eh4, hR4⟩ := hQ4
  have NA4 := Fr.app N0 N4
  obtain rfl := hR4
  refine Goes.back st4 ?_
  show Goes _ _ _ _ _ _ _ (T4.setTop (mkF m 32 _ [(.long t0)]))
  refine Goes.step (fun _ k => XS.lloadN X4.here hx rfl (hb hby d20_32) rfl  k) ?_
  refine Goes.step (fun _ k => XS.lcmp X4.here hx rfl (hb hby d20_33) rfl k) ?_
  show Goes _ _ _ _ _ _ _ (T4.setTop (mkF m 34 _ [(.int (lcmpW t0 x1))]))
  by_cases c34_5 : t0 < x1
  · refine Goes.step (fun _ k => XS.ifYes X4.here hx rfl (pc0 := 34) (pc' := 44) rfl (hb hby d20_34) rfl ((if0 _ _).trans (tlt ((lw_lt _ _).mpr c34_5)).1) (by decide) (by decide) k) ?_
    show Goes _ _ _ _ _ _ _ (T4.setTop (mkF m 44 _ []))
    refine Goes.step (fun _ k => XS.iload X4.here hx rfl (hb hby d20_44) rfl  k) ?_
    refine Goes.step (fun _ k => XS.iconst X4.here hx rfl (hb hby d20_46) k) ?_
    refine Goes.step (fun _ k => XS.iadd X4.here hx rfl (hb hby d20_47) rfl k) ?_
    show Goes _ _ _ _ _ _ _ (T4.setTop (mkF m 48 _ [(.int (1 : Int32))]))
    refine Goes.step (fun _ k => XS.istoreN X4.here hx rfl (hb hby d20_48) rfl (l' := #[.val (.ref x0), .val (.long x1), .second, .val (.int (1 : Int32)), .val (.int (1 : Int32)), .val (.int (0 : Int32))]) rfl k) ?_
    show Goes _ _ _ _ _ _ _ (T4.setTop (mkF m 49 #[.val (.ref x0), .val (.long x1), .second, .val (.int (1 : Int32)), .val (.int (1 : Int32)), .val (.int (0 : Int32))] []))
    refine Goes.step (fun _ k => XS.goto X4.here hx rfl (pc0 := 49) (pc' := 8) rfl (hb hby d20_49) (by decide) (by decide) k) ?_
    show Goes _ _ _ _ _ _ _ (T4.setTop (mkF m 8 _ []))
    refine Goes.step (fun _ k => XS.iloadN X4.here hx rfl (hb hby d20_8) rfl  k) ?_
    refine Goes.step (fun _ k => XS.iload X4.here hx rfl (hb hby d20_9) rfl  k) ?_
    refine Goes.step (fun _ k => XS.icmpYes X4.here hx rfl (pc0 := 11) (pc' := 52) rfl (hb hby d20_11) rfl (flt (by decide : ¬ ((1 : Int32) < (1 : Int32)))).2.1 (by decide) (by decide) k) ?_
    show Goes _ _ _ _ _ _ _ (T4.setTop (mkF m 52 _ []))
    refine Goes.step (fun _ k => XS.iloadN X4.here hx rfl (hb hby d20_52) rfl  k) ?_
    exact Goes.ret X4 hx (BodyLoose.notSynchronized Bd) Bd.returns rfl (Or.inl ⟨rfl, by simp, _, rfl⟩) (hb hby d20_53) (by show Q20_1 Z x0 x1 f0_entries ke en0 t0 h0 n0 (some (.int (1 : Int32))) T4.heap _; rw [eh4]; exact ⟨NA4, rfl, Or.inl (⟨rfl, c34_5⟩)⟩) (by decide) (by decide)
  · refine Goes.step (fun _ k => XS.ifNo X4.here hx rfl (hb hby d20_34) rfl ((if0 _ _).trans (flt (fun q => c34_5 ((lw_lt _ _).mp q))).1) k) ?_
    show Goes _ _ _ _ _ _ _ (T4.setTop (mkF m 37 _ []))
    refine Goes.step (fun _ k => XS.iload X4.here hx rfl (hb hby d20_37) rfl  k) ?_
    refine Goes.step (fun _ k => XS.istore X4.here hx rfl (hb hby d20_39) rfl (l' := #[.val (.ref x0), .val (.long x1), .second, .val (.int (0 : Int32)), .val (.int (0 : Int32)), .val (.int (0 : Int32))]) rfl k) ?_
    show Goes _ _ _ _ _ _ _ (T4.setTop (mkF m 41 _ []))
    refine Goes.step (fun _ k => XS.goto X4.here hx rfl (pc0 := 41) (pc' := 49) rfl (hb hby d20_41) (by decide) (by decide) k) ?_
    show Goes _ _ _ _ _ _ _ (T4.setTop (mkF m 49 #[.val (.ref x0), .val (.long x1), .second, .val (.int (0 : Int32)), .val (.int (0 : Int32)), .val (.int (0 : Int32))] []))
    refine Goes.step (fun _ k => XS.goto X4.here hx rfl (pc0 := 49) (pc' := 8) rfl (hb hby d20_49) (by decide) (by decide) k) ?_
    show Goes _ _ _ _ _ _ _ (T4.setTop (mkF m 8 _ []))
    refine Goes.step (fun _ k => XS.iloadN X4.here hx rfl (hb hby d20_8) rfl  k) ?_
    refine Goes.step (fun _ k => XS.iload X4.here hx rfl (hb hby d20_9) rfl  k) ?_
    refine Goes.step (fun _ k => XS.icmpYes X4.here hx rfl (pc0 := 11) (pc' := 52) rfl (hb hby d20_11) rfl (flt (by decide : ¬ ((0 : Int32) < (0 : Int32)))).2.1 (by decide) (by decide) k) ?_
    show Goes _ _ _ _ _ _ _ (T4.setTop (mkF m 52 _ []))
    refine Goes.step (fun _ k => XS.iloadN X4.here hx rfl (hb hby d20_52) rfl  k) ?_
    exact Goes.ret X4 hx (BodyLoose.notSynchronized Bd) Bd.returns rfl (Or.inl ⟨rfl, by simp, _, rfl⟩) (hb hby d20_53) (by show Q20_1 Z x0 x1 f0_entries ke en0 t0 h0 n0 (some (.int (0 : Int32))) T4.heap _; rw [eh4]; exact ⟨NA4, rfl, Or.inr (⟨rfl, c34_5⟩)⟩) (by decide) (by decide)
theorem ef_20_2 (m : MethodId) (x0 : Addr) (x1 : Int64) (f0_entries : Addr) (ke : ClassId) (en0 : Addr) (en1 : Addr) (t0 : Int64) (t1 : Int64)  : entryFrame m #[(.ref x0), (.long x1)] 6 = mkF m 0 #[.val (.ref x0), .val (.long x1), .second, .unset, .unset, .unset] [] := by first | (simp [entryFrame, mkF, argsToLocals, Value.category]; done) | rfl
def Q20_2 (Z : State) (x0 : Addr) (x1 : Int64) (f0_entries : Addr) (ke : ClassId) (en0 : Addr) (en1 : Addr) (t0 : Int64) (t1 : Int64) (h0 : Heap) (n0 : Nat) (v : Option Value) (h : Heap) (L : List Loc) : Prop := Fr n0 L ∧ h = h0 ∧ ((v = some (.int (2 : Int32)) ∧ t1 < x1) ∨ (v = some (.int (1 : Int32)) ∧ ¬ (t1 < x1) ∧ t0 < x1) ∨ (v = some (.int (0 : Int32)) ∧ ¬ (t1 < x1) ∧ ¬ (t0 < x1)))
set_option maxRecDepth 65536 in
set_option maxHeartbeats 40000000 in
theorem rm20_2 (l : Launch) (Z : State) (a0 : Array Value) (hw : ∀ d ∈ tables_1, d.before a0 Z = true) (ws : List Jvm.Cond) (x0 : Addr) (x1 : Int64) (f0_entries : Addr) (ke : ClassId) (en0 : Addr) (en1 : Addr) (t0 : Int64) (t1 : Int64) (h0 : Heap) (n0 : Nat) (Z0 : n0 ≤ h0.size) (F0_entries : Fld Z h0 x0 "com/example/orbitloom/orbitloom/core/Timeline" "entries" "[Lcom/example/orbitloom/orbitloom/core/Timeline$Entry;" (.ref f0_entries)) (F0_size : Fld Z h0 x0 "com/example/orbitloom/orbitloom/core/Timeline" "size" "I" (.int (2 : Int32))) (E_x0 : Exa Z h0 x0 "com/example/orbitloom/orbitloom/core/Timeline") (V_en : Arv Z h0 f0_entries ke (.object "com/example/orbitloom/orbitloom/core/Timeline$Entry") (8 : Int32) [(.ref en0), (.ref en1), .null, .null, .null, .null, .null, .null] .null) (Fe0 : Fld Z h0 en0 "com/example/orbitloom/orbitloom/core/Timeline$Entry" "start" "J" (.long t0)) (Ee0 : Exa Z h0 en0 "com/example/orbitloom/orbitloom/core/Timeline$Entry") (Fe1 : Fld Z h0 en1 "com/example/orbitloom/orbitloom/core/Timeline$Entry" "start" "J" (.long t1)) (Ee1 : Exa Z h0 en1 "com/example/orbitloom/orbitloom/core/Timeline$Entry") :
    MetFree l (⟨"com/example/orbitloom/orbitloom/core/Timeline", "firstStartingFrom", "(J)I"⟩ : MethodName) (head1 (Jvm.Cond.code (⟨"com/example/orbitloom/orbitloom/core/Timeline", "firstStartingFrom", "(J)I"⟩ : MethodName) prog_49_method_5_code 6 (some .int) :: ws) ({ frames := 1, cells := 0, slots := 0, locals := 12 } : Room)) (fun a U => a = #[(.ref x0), (.long x1)] ∧ Z.Warmed39 U.vm ∧ U.heap = h0) (fun _ _ _ _ _ => True) (fun _ U o U' => ∃ v L, o = .returned v ∧ Q20_2 Z x0 x1 f0_entries ke en0 en1 t0 t1 h0 n0 v U'.heap L ∧ FrameEnd U o U' L ({ frames := 1, cells := 0, slots := 0, locals := 12 } : Room).cells ({ frames := 1, cells := 0, slots := 0, locals := 12 } : Room).slots) := by
  refine MetFree.of_bodySF (plainFor_of_name pn_20) hisR ?_
  intro p e s m args below meth c s₁ Bd hml0 hP hK
  obtain ⟨rfl, hZ, hh⟩ := hP
  have w_17 := hw _ (List.mem_of_getElem? (i := 17) rfl)
  have w_49 := hw _ (List.mem_of_getElem? (i := 49) rfl)
  have w_72 := hw _ (List.mem_of_getElem? (i := 72) rfl)
  have w_150 := hw _ (List.mem_of_getElem? (i := 150) rfl)
  have w_151 := hw _ (List.mem_of_getElem? (i := 151) rfl)
  have w_152 := hw _ (List.mem_of_getElem? (i := 152) rfl)
  have w_153 := hw _ (List.mem_of_getElem? (i := 153) rfl)
  have w_154 := hw _ (List.mem_of_getElem? (i := 154) rfl)
  have hx := Bd.exec
  have hby := Bd.bytes
  have hml : c.maxLocals = 6 := hml0
  have hown : s.vm.findClass "com/example/orbitloom/orbitloom/core/Timeline" = some m.cls := findClass_of_methodNamed Bd.named
  have hnm := (name_of_methodNamed Bd.named Bd.method).1
  have X0 : Stand p l e ({ frames := 1, cells := 0, slots := 0, locals := 12 } : Room) s m #[(.ref x0), (.long x1)] below meth c s₁ [] 0 0 := Stand.of_body Bd
  have e0 : s₁.heap = h0 := by rw [← hh, Bd.state]; rfl
  have N0 := Fr.nil n0
  have K0 : Keep h0 h0 [] := Keep.refl h0 _
  refine (?_ : Goes p e below s ({ frames := 1, cells := 0, slots := 0, locals := 12 } : Room).cells ({ frames := 1, cells := 0, slots := 0, locals := 12 } : Room).slots (fun v h L => Q20_2 Z x0 x1 f0_entries ke en0 en1 t0 t1 h0 n0 v h L) (s₁.setTop (entryFrame m #[(.ref x0), (.long x1)] 6)))
  rw [ef_20_2 m x0 x1 f0_entries ke en0 en1 t0 t1 ]
  show Goes _ _ _ _ _ _ _ (s₁.setTop (mkF m 0 #[.val (.ref x0), .val (.long x1), .second, .unset, .unset, .unset] []))
  refine Goes.step (fun _ k => XS.iconst X0.here hx rfl (hb hby d20_0) k) ?_
  refine Goes.step (fun _ k => XS.istoreN X0.here hx rfl (hb hby d20_1) rfl (l' := #[.val (.ref x0), .val (.long x1), .second, .val (.int (0 : Int32)), .unset, .unset]) rfl k) ?_
  show Goes _ _ _ _ _ _ _ (s₁.setTop (mkF m 2 _ []))
  refine Goes.step (fun _ k => XS.aloadN X0.here hx rfl (hb hby d20_2) rfl rfl k) ?_
  obtain ⟨T1, X1, e1, st1⟩ := getF X0 hx hZ hown (host := "") (Or.inl w_72) Via.refl e0 F0_size (g := (mkF m 3 #[.val (.ref x0), .val (.long x1), .second, .val (.int (0 : Int32)), .unset, .unset] [(.ref x0)])) rfl rfl (hb hby d20_3)
  refine Goes.step st1 ?_
  show Goes _ _ _ _ _ _ _ (T1.setTop (mkF m 6 _ [(.int (2 : Int32))]))
  refine Goes.step (fun _ k => XS.istore X1.here hx rfl (hb hby d20_6) rfl (l' := #[.val (.ref x0), .val (.long x1), .second, .val (.int (0 : Int32)), .val (.int (2 : Int32)), .unset]) rfl k) ?_
  show Goes _ _ _ _ _ _ _ (T1.setTop (mkF m 8 _ []))
  refine Goes.step (fun _ k => XS.iloadN X1.here hx rfl (hb hby d20_8) rfl  k) ?_
  refine Goes.step (fun _ k => XS.iload X1.here hx rfl (hb hby d20_9) rfl  k) ?_
  refine Goes.step (fun _ k => XS.icmpNo X1.here hx rfl (hb hby d20_11) rfl (tlt (by decide : (0 : Int32) < (2 : Int32))).2.1 k) ?_
  show Goes _ _ _ _ _ _ _ (T1.setTop (mkF m 14 _ []))
  refine Goes.step (fun _ k => XS.iloadN X1.here hx rfl (hb hby d20_14) rfl  k) ?_
  refine Goes.step (fun _ k => XS.iload X1.here hx rfl (hb hby d20_15) rfl  k) ?_
  refine Goes.step (fun _ k => XS.iadd X1.here hx rfl (hb hby d20_17) rfl k) ?_
  show Goes _ _ _ _ _ _ _ (T1.setTop (mkF m 18 _ [(.int (2 : Int32))]))
  refine Goes.step (fun _ k => XS.iconst X1.here hx rfl (hb hby d20_18) k) ?_
  refine Goes.step (fun _ k => XS.iushr X1.here hx rfl (hb hby d20_19) rfl k) ?_
  show Goes _ _ _ _ _ _ _ (T1.setTop (mkF m 20 _ [(.int (1 : Int32))]))
  refine Goes.step (fun _ k => XS.istore X1.here hx rfl (hb hby d20_20) rfl (l' := #[.val (.ref x0), .val (.long x1), .second, .val (.int (0 : Int32)), .val (.int (2 : Int32)), .val (.int (1 : Int32))]) rfl k) ?_
  show Goes _ _ _ _ _ _ _ (T1.setTop (mkF m 22 #[.val (.ref x0), .val (.long x1), .second, .val (.int (0 : Int32)), .val (.int (2 : Int32)), .val (.int (1 : Int32))] []))
  refine Goes.step (fun _ k => XS.aloadN X1.here hx rfl (hb hby d20_22) rfl rfl k) ?_
  obtain ⟨T2, X2, e2, st2⟩ := getF X1 hx hZ hown (host := "") (Or.inl w_17) Via.refl e1 F0_entries (g := (mkF m 23 #[.val (.ref x0), .val (.long x1), .second, .val (.int (0 : Int32)), .val (.int (2 : Int32)), .val (.int (1 : Int32))] [(.ref x0)])) rfl rfl (hb hby d20_23)
  refine Goes.step st2 ?_
  show Goes _ _ _ _ _ _ _ (T2.setTop (mkF m 26 _ [(.ref f0_entries)]))
  refine Goes.step (fun _ k => XS.iload X2.here hx rfl (hb hby d20_26) rfl  k) ?_
  obtain ⟨cl3, Ar3, q3, S3, P3, H3, G3⟩ := id V_en
  have hin3 : ¬ ((1 : Int32) < 0 ∨ cl3.slots.size ≤ ((1 : Int32)).toNatClampNeg) := inb_of S3 ⟨by decide, by decide⟩
  have hat3 : cl3.slots[((1 : Int32)).toNatClampNeg]? = some (.ref en1) := H3 _ (by rw [S3]; decide)
  refine Goes.step (fun _ k => X2.aaload hx (j := (1 : Int32)) (v := (.ref en1)) (by rw [e2]; exact Ar3.1) (State.isArrayOf_alike hZ.alike Ar3.2.1) rfl Ar3.2.2 hin3 hat3 (g := (mkF m 28 #[.val (.ref x0), .val (.long x1), .second, .val (.int (0 : Int32)), .val (.int (2 : Int32)), .val (.int (1 : Int32))] [(.int (1 : Int32)), (.ref f0_entries)])) rfl rfl (hb hby d20_28) _ k) ?_
  show Goes _ _ _ _ _ _ _ (T2.setTop (mkF m 29 _ [(.ref en1)]))
  obtain ⟨cq4, kq4, q4a, q4b, q4c⟩ := isOf hZ e2 Ee1
  obtain ⟨_, _, ⟨T4, L4, k4, n4⟩, -, X4, ⟨Lc4, hQ4, l4, y4, z4⟩, st4⟩ := X2.virtualBack hx (y := (⟨"com/example/orbitloom/orbitloom/core/Timeline$Entry", "start", "()J"⟩ : MethodName)) (z := (⟨"com/example/orbitloom/orbitloom/core/Timeline$Entry", "start", "()J"⟩ : MethodName)) hown (mvT hZ w_150) (mvT hZ w_151) (notFace_of_selects (args := #[]) (mvT hZ w_153)) (mvT hZ w_153) (mvT hZ w_152) (by decide) (backOf (W := 0) (rm21 l Z a0 hw [] en1 t1 h0 n0 Z0 Fe1) hZ w_154 w_49 (by decide) (by decide)) q4a q4c (g := (mkF m 29 #[.val (.ref x0), .val (.long x1), .second, .val (.int (0 : Int32)), .val (.int (2 : Int32)), .val (.int (1 : Int32))] [(.ref en1)])) rfl (by rw [hml]; rfl) (Steps.refl _) (argsL := []) (rest := []) (lenOf pd_15 rfl) rfl (by show 2 * 0 + _ ≤ _; exact Nat.le_of_eq rfl) (hb hby d20_29) (fun _ _ => ⟨rfl, e2, (by decide : 0 + 0 ≤ _), (by decide : 0 + 0 ≤ _)⟩)
  dsimp only [Pt.U, Pt.locs, Pt.cells, Pt.slots] at X4 l4 y4 z4 st4 hQ4
  rw [l4, y4, z4] at X4
  obtain ⟨N4, eh4, hR4⟩ := hQ4
  have NA4 := Fr.app N0 N4
  obtain rfl := hR4
  refine Goes.back st4 ?_
  show Goes _ _ _ _ _ _ _ (T4.setTop (mkF m 32 _ [(.long t1)]))
  refine Goes.step (fun _ k => XS.lloadN X4.here hx rfl (hb hby d20_32) rfl  k) ?_
  refine Goes.step (fun _ k => XS.lcmp X4.here hx rfl (hb hby d20_33) rfl k) ?_
  show Goes _ _ _ _ _ _ _ (T4.setTop (mkF m 34 _ [(.int (lcmpW t1 x1))]))
  by_cases c34_5 : t1 < x1
  · refine Goes.step (fun _ k => XS.ifYes X4.here hx rfl (pc0 := 34) (pc' := 44) rfl (hb hby d20_34) rfl ((if0 _ _).trans (tlt ((lw_lt _ _).mpr c34_5)).1) (by decide) (by decide) k) ?_
    show Goes _ _ _ _ _ _ _ (T4.setTop (mkF m 44 _ []))
    refine Goes.step (fun _ k => XS.iload X4.here hx rfl (hb hby d20_44) rfl  k) ?_
    refine Goes.step (fun _ k => XS.iconst X4.here hx rfl (hb hby d20_46) k) ?_
    refine Goes.step (fun _ k => XS.iadd X4.here hx rfl (hb hby d20_47) rfl k) ?_
    show Goes _ _ _ _ _ _ _ (T4.setTop (mkF m 48 _ [(.int (2 : Int32))]))
    refine Goes.step (fun _ k => XS.istoreN X4.here hx rfl (hb hby d20_48) rfl (l' := #[.val (.ref x0), .val (.long x1), .second, .val (.int (2 : Int32)), .val (.int (2 : Int32)), .val (.int (1 : Int32))]) rfl k) ?_
    show Goes _ _ _ _ _ _ _ (T4.setTop (mkF m 49 #[.val (.ref x0), .val (.long x1), .second, .val (.int (2 : Int32)), .val (.int (2 : Int32)), .val (.int (1 : Int32))] []))
    refine Goes.step (fun _ k => XS.goto X4.here hx rfl (pc0 := 49) (pc' := 8) rfl (hb hby d20_49) (by decide) (by decide) k) ?_
    show Goes _ _ _ _ _ _ _ (T4.setTop (mkF m 8 _ []))
    refine Goes.step (fun _ k => XS.iloadN X4.here hx rfl (hb hby d20_8) rfl  k) ?_
    refine Goes.step (fun _ k => XS.iload X4.here hx rfl (hb hby d20_9) rfl  k) ?_
    refine Goes.step (fun _ k => XS.icmpYes X4.here hx rfl (pc0 := 11) (pc' := 52) rfl (hb hby d20_11) rfl (flt (by decide : ¬ ((2 : Int32) < (2 : Int32)))).2.1 (by decide) (by decide) k) ?_
    show Goes _ _ _ _ _ _ _ (T4.setTop (mkF m 52 _ []))
    refine Goes.step (fun _ k => XS.iloadN X4.here hx rfl (hb hby d20_52) rfl  k) ?_
    exact Goes.ret X4 hx (BodyLoose.notSynchronized Bd) Bd.returns rfl (Or.inl ⟨rfl, by simp, _, rfl⟩) (hb hby d20_53) (by show Q20_2 Z x0 x1 f0_entries ke en0 en1 t0 t1 h0 n0 (some (.int (2 : Int32))) T4.heap _; rw [eh4]; exact ⟨NA4, rfl, Or.inl (⟨rfl, c34_5⟩)⟩) (by decide) (by decide)
  · refine Goes.step (fun _ k => XS.ifNo X4.here hx rfl (hb hby d20_34) rfl ((if0 _ _).trans (flt (fun q => c34_5 ((lw_lt _ _).mp q))).1) k) ?_
    show Goes _ _ _ _ _ _ _ (T4.setTop (mkF m 37 _ []))
    refine Goes.step (fun _ k => XS.iload X4.here hx rfl (hb hby d20_37) rfl  k) ?_
    refine Goes.step (fun _ k => XS.istore X4.here hx rfl (hb hby d20_39) rfl (l' := #[.val (.ref x0), .val (.long x1), .second, .val (.int (0 : Int32)), .val (.int (1 : Int32)), .val (.int (1 : Int32))]) rfl k) ?_
    show Goes _ _ _ _ _ _ _ (T4.setTop (mkF m 41 _ []))
    refine Goes.step (fun _ k => XS.goto X4.here hx rfl (pc0 := 41) (pc' := 49) rfl (hb hby d20_41) (by decide) (by decide) k) ?_
    show Goes _ _ _ _ _ _ _ (T4.setTop (mkF m 49 #[.val (.ref x0), .val (.long x1), .second, .val (.int (0 : Int32)), .val (.int (1 : Int32)), .val (.int (1 : Int32))] []))
    refine Goes.step (fun _ k => XS.goto X4.here hx rfl (pc0 := 49) (pc' := 8) rfl (hb hby d20_49) (by decide) (by decide) k) ?_
    show Goes _ _ _ _ _ _ _ (T4.setTop (mkF m 8 _ []))
    refine Goes.step (fun _ k => XS.iloadN X4.here hx rfl (hb hby d20_8) rfl  k) ?_
    refine Goes.step (fun _ k => XS.iload X4.here hx rfl (hb hby d20_9) rfl  k) ?_
    refine Goes.step (fun _ k => XS.icmpNo X4.here hx rfl (hb hby d20_11) rfl (tlt (by decide : (0 : Int32) < (1 : Int32))).2.1 k) ?_
    show Goes _ _ _ _ _ _ _ (T4.setTop (mkF m 14 _ []))
    refine Goes.step (fun _ k => XS.iloadN X4.here hx rfl (hb hby d20_14) rfl  k) ?_
    refine Goes.step (fun _ k => XS.iload X4.here hx rfl (hb hby d20_15) rfl  k) ?_
    refine Goes.step (fun _ k => XS.iadd X4.here hx rfl (hb hby d20_17) rfl k) ?_
    show Goes _ _ _ _ _ _ _ (T4.setTop (mkF m 18 _ [(.int (1 : Int32))]))
    refine Goes.step (fun _ k => XS.iconst X4.here hx rfl (hb hby d20_18) k) ?_
    refine Goes.step (fun _ k => XS.iushr X4.here hx rfl (hb hby d20_19) rfl k) ?_
    show Goes _ _ _ _ _ _ _ (T4.setTop (mkF m 20 _ [(.int (0 : Int32))]))
    refine Goes.step (fun _ k => XS.istore X4.here hx rfl (hb hby d20_20) rfl (l' := #[.val (.ref x0), .val (.long x1), .second, .val (.int (0 : Int32)), .val (.int (1 : Int32)), .val (.int (0 : Int32))]) rfl k) ?_
    show Goes _ _ _ _ _ _ _ (T4.setTop (mkF m 22 _ []))
    refine Goes.step (fun _ k => XS.aloadN X4.here hx rfl (hb hby d20_22) rfl rfl k) ?_
    obtain ⟨T6, X6, e6, st6⟩ := getF X4 hx hZ hown (host := "") (Or.inl w_17) Via.refl eh4 F0_entries (g := (mkF m 23 #[.val (.ref x0), .val (.long x1), .second, .val (.int (0 : Int32)), .val (.int (1 : Int32)), .val (.int (0 : Int32))] [(.ref x0)])) rfl rfl (hb hby d20_23)
    refine Goes.step st6 ?_
    show Goes _ _ _ _ _ _ _ (T6.setTop (mkF m 26 _ [(.ref f0_entries)]))
    refine Goes.step (fun _ k => XS.iload X6.here hx rfl (hb hby d20_26) rfl  k) ?_
    obtain ⟨cl7, Ar7, q7, S7, P7, H7, G7⟩ := id V_en
    have hin7 : ¬ ((0 : Int32) < 0 ∨ cl7.slots.size ≤ ((0 : Int32)).toNatClampNeg) := inb_of S7 ⟨by decide, by decide⟩
    have hat7 : cl7.slots[((0 : Int32)).toNatClampNeg]? = some (.ref en0) := H7 _ (by rw [S7]; decide)
    refine Goes.step (fun _ k => X6.aaload hx (j := (0 : Int32)) (v := (.ref en0)) (by rw [e6]; exact Ar7.1) (State.isArrayOf_alike hZ.alike Ar7.2.1) rfl Ar7.2.2 hin7 hat7 (g := (mkF m 28 #[.val (.ref x0), .val (.long x1), .second, .val (.int (0 : Int32)), .val (.int (1 : Int32)), .val (.int (0 : Int32))] [(.int (0 : Int32)), (.ref f0_entries)])) rfl rfl (hb hby d20_28) _ k) ?_
    show Goes _ _ _ _ _ _ _ (T6.setTop (mkF m 29 #[.val (.ref x0), .val (.long x1), .second, .val (.int (0 : Int32)), .val (.int (1 : Int32)), .val (.int (0 : Int32))] [(.ref en0)]))
    obtain ⟨cq8, kq8, q8a, q8b, q8c⟩ := isOf hZ e6 Ee0
    obtain ⟨_, _, ⟨T8, L8, k8, n8⟩, -, X8, ⟨Lc8, hQ8, l8, y8, z8⟩, st8⟩ := X6.virtualBack hx (y := (⟨"com/example/orbitloom/orbitloom/core/Timeline$Entry", "start", "()J"⟩ : MethodName)) (z := (⟨"com/example/orbitloom/orbitloom/core/Timeline$Entry", "start", "()J"⟩ : MethodName)) hown (mvT hZ w_150) (mvT hZ w_151) (notFace_of_selects (args := #[]) (mvT hZ w_153)) (mvT hZ w_153) (mvT hZ w_152) (by decide) (backOf (W := 0) (rm21 l Z a0 hw [] en0 t0 h0 n0 Z0 Fe0) hZ w_154 w_49 (by decide) (by decide)) q8a q8c (g := (mkF m 29 #[.val (.ref x0), .val (.long x1), .second, .val (.int (0 : Int32)), .val (.int (1 : Int32)), .val (.int (0 : Int32))] [(.ref en0)])) rfl (by rw [hml]; rfl) (Steps.refl _) (argsL := []) (rest := []) (lenOf pd_15 rfl) rfl (by show 2 * 0 + _ ≤ _; exact Nat.le_of_eq rfl) (hb hby d20_29) (fun _ _ => ⟨rfl, e6, (by decide : 0 + 0 ≤ _), (by decide : 0 + 0 ≤ _)⟩)
    dsimp only [Pt.U, Pt.locs, Pt.cells, Pt.slots] at X8 l8 y8 z8 st8 hQ8
    rw [l8, y8, z8] at X8
    obtain ⟨N8, eh8, hR8⟩ := hQ8
    have NA8 := Fr.app NA4 N8
    obtain rfl := hR8
    refine Goes.back st8 ?_
    show Goes _ _ _ _ _ _ _ (T8.setTop (mkF m 32 _ [(.long t0)]))
    refine Goes.step (fun _ k => XS.lloadN X8.here hx rfl (hb hby d20_32) rfl  k) ?_
    refine Goes.step (fun _ k => XS.lcmp X8.here hx rfl (hb hby d20_33) rfl k) ?_
    show Goes _ _ _ _ _ _ _ (T8.setTop (mkF m 34 _ [(.int (lcmpW t0 x1))]))
    by_cases c34_9 : t0 < x1
    · refine Goes.step (fun _ k => XS.ifYes X8.here hx rfl (pc0 := 34) (pc' := 44) rfl (hb hby d20_34) rfl ((if0 _ _).trans (tlt ((lw_lt _ _).mpr c34_9)).1) (by decide) (by decide) k) ?_
      show Goes _ _ _ _ _ _ _ (T8.setTop (mkF m 44 _ []))
      refine Goes.step (fun _ k => XS.iload X8.here hx rfl (hb hby d20_44) rfl  k) ?_
      refine Goes.step (fun _ k => XS.iconst X8.here hx rfl (hb hby d20_46) k) ?_
      refine Goes.step (fun _ k => XS.iadd X8.here hx rfl (hb hby d20_47) rfl k) ?_
      show Goes _ _ _ _ _ _ _ (T8.setTop (mkF m 48 _ [(.int (1 : Int32))]))
      refine Goes.step (fun _ k => XS.istoreN X8.here hx rfl (hb hby d20_48) rfl (l' := #[.val (.ref x0), .val (.long x1), .second, .val (.int (1 : Int32)), .val (.int (1 : Int32)), .val (.int (0 : Int32))]) rfl k) ?_
      show Goes _ _ _ _ _ _ _ (T8.setTop (mkF m 49 _ []))
      refine Goes.step (fun _ k => XS.goto X8.here hx rfl (pc0 := 49) (pc' := 8) rfl (hb hby d20_49) (by decide) (by decide) k) ?_
      show Goes _ _ _ _ _ _ _ (T8.setTop (mkF m 8 _ []))
      refine Goes.step (fun _ k => XS.iloadN X8.here hx rfl (hb hby d20_8) rfl  k) ?_
      refine Goes.step (fun _ k => XS.iload X8.here hx rfl (hb hby d20_9) rfl  k) ?_
      refine Goes.step (fun _ k => XS.icmpYes X8.here hx rfl (pc0 := 11) (pc' := 52) rfl (hb hby d20_11) rfl (flt (by decide : ¬ ((1 : Int32) < (1 : Int32)))).2.1 (by decide) (by decide) k) ?_
      show Goes _ _ _ _ _ _ _ (T8.setTop (mkF m 52 #[.val (.ref x0), .val (.long x1), .second, .val (.int (1 : Int32)), .val (.int (1 : Int32)), .val (.int (0 : Int32))] []))
      refine Goes.step (fun _ k => XS.iloadN X8.here hx rfl (hb hby d20_52) rfl  k) ?_
      exact Goes.ret X8 hx (BodyLoose.notSynchronized Bd) Bd.returns rfl (Or.inl ⟨rfl, by simp, _, rfl⟩) (hb hby d20_53) (by show Q20_2 Z x0 x1 f0_entries ke en0 en1 t0 t1 h0 n0 (some (.int (1 : Int32))) T8.heap _; rw [eh8]; exact ⟨NA8, rfl, Or.inr (Or.inl (⟨rfl, c34_5, c34_9⟩))⟩) (by decide) (by decide)
    · refine Goes.step (fun _ k => XS.ifNo X8.here hx rfl (hb hby d20_34) rfl ((if0 _ _).trans (flt (fun q => c34_9 ((lw_lt _ _).mp q))).1) k) ?_
      show Goes _ _ _ _ _ _ _ (T8.setTop (mkF m 37 _ []))
      refine Goes.step (fun _ k => XS.iload X8.here hx rfl (hb hby d20_37) rfl  k) ?_
      refine Goes.step (fun _ k => XS.istore X8.here hx rfl (hb hby d20_39) rfl (l' := #[.val (.ref x0), .val (.long x1), .second, .val (.int (0 : Int32)), .val (.int (0 : Int32)), .val (.int (0 : Int32))]) rfl k) ?_
      show Goes _ _ _ _ _ _ _ (T8.setTop (mkF m 41 _ []))
      refine Goes.step (fun _ k => XS.goto X8.here hx rfl (pc0 := 41) (pc' := 49) rfl (hb hby d20_41) (by decide) (by decide) k) ?_
      show Goes _ _ _ _ _ _ _ (T8.setTop (mkF m 49 _ []))
      refine Goes.step (fun _ k => XS.goto X8.here hx rfl (pc0 := 49) (pc' := 8) rfl (hb hby d20_49) (by decide) (by decide) k) ?_
      show Goes _ _ _ _ _ _ _ (T8.setTop (mkF m 8 _ []))
      refine Goes.step (fun _ k => XS.iloadN X8.here hx rfl (hb hby d20_8) rfl  k) ?_
      refine Goes.step (fun _ k => XS.iload X8.here hx rfl (hb hby d20_9) rfl  k) ?_
      refine Goes.step (fun _ k => XS.icmpYes X8.here hx rfl (pc0 := 11) (pc' := 52) rfl (hb hby d20_11) rfl (flt (by decide : ¬ ((0 : Int32) < (0 : Int32)))).2.1 (by decide) (by decide) k) ?_
      show Goes _ _ _ _ _ _ _ (T8.setTop (mkF m 52 #[.val (.ref x0), .val (.long x1), .second, .val (.int (0 : Int32)), .val (.int (0 : Int32)), .val (.int (0 : Int32))] []))
      refine Goes.step (fun _ k => XS.iloadN X8.here hx rfl (hb hby d20_52) rfl  k) ?_
      exact Goes.ret X8 hx (BodyLoose.notSynchronized Bd) Bd.returns rfl (Or.inl ⟨rfl, by simp, _, rfl⟩) (hb hby d20_53) (by show Q20_2 Z x0 x1 f0_entries ke en0 en1 t0 t1 h0 n0 (some (.int (0 : Int32))) T8.heap _; rw [eh8]; exact ⟨NA8, rfl, Or.inr (Or.inr (⟨rfl, c34_5, c34_9⟩))⟩) (by decide) (by decide)
theorem ef_20_3 (m : MethodId) (x0 : Addr) (x1 : Int64) (f0_entries : Addr) (ke : ClassId) (en0 : Addr) (en1 : Addr) (en2 : Addr) (t0 : Int64) (t1 : Int64) (t2 : Int64)  : entryFrame m #[(.ref x0), (.long x1)] 6 = mkF m 0 #[.val (.ref x0), .val (.long x1), .second, .unset, .unset, .unset] [] := by first | (simp [entryFrame, mkF, argsToLocals, Value.category]; done) | rfl
def Q20_3 (Z : State) (x0 : Addr) (x1 : Int64) (f0_entries : Addr) (ke : ClassId) (en0 : Addr) (en1 : Addr) (en2 : Addr) (t0 : Int64) (t1 : Int64) (t2 : Int64) (h0 : Heap) (n0 : Nat) (v : Option Value) (h : Heap) (L : List Loc) : Prop := Fr n0 L ∧ h = h0 ∧ ((v = some (.int (3 : Int32)) ∧ t1 < x1 ∧ t2 < x1) ∨ (v = some (.int (2 : Int32)) ∧ t1 < x1 ∧ ¬ (t2 < x1)) ∨ (v = some (.int (1 : Int32)) ∧ ¬ (t1 < x1) ∧ t0 < x1) ∨ (v = some (.int (0 : Int32)) ∧ ¬ (t1 < x1) ∧ ¬ (t0 < x1)))
set_option maxRecDepth 65536 in
set_option maxHeartbeats 40000000 in
theorem rm20_3 (l : Launch) (Z : State) (a0 : Array Value) (hw : ∀ d ∈ tables_1, d.before a0 Z = true) (ws : List Jvm.Cond) (x0 : Addr) (x1 : Int64) (f0_entries : Addr) (ke : ClassId) (en0 : Addr) (en1 : Addr) (en2 : Addr) (t0 : Int64) (t1 : Int64) (t2 : Int64) (h0 : Heap) (n0 : Nat) (Z0 : n0 ≤ h0.size) (F0_entries : Fld Z h0 x0 "com/example/orbitloom/orbitloom/core/Timeline" "entries" "[Lcom/example/orbitloom/orbitloom/core/Timeline$Entry;" (.ref f0_entries)) (F0_size : Fld Z h0 x0 "com/example/orbitloom/orbitloom/core/Timeline" "size" "I" (.int (3 : Int32))) (E_x0 : Exa Z h0 x0 "com/example/orbitloom/orbitloom/core/Timeline") (V_en : Arv Z h0 f0_entries ke (.object "com/example/orbitloom/orbitloom/core/Timeline$Entry") (8 : Int32) [(.ref en0), (.ref en1), (.ref en2), .null, .null, .null, .null, .null] .null) (Fe0 : Fld Z h0 en0 "com/example/orbitloom/orbitloom/core/Timeline$Entry" "start" "J" (.long t0)) (Ee0 : Exa Z h0 en0 "com/example/orbitloom/orbitloom/core/Timeline$Entry") (Fe1 : Fld Z h0 en1 "com/example/orbitloom/orbitloom/core/Timeline$Entry" "start" "J" (.long t1)) (Ee1 : Exa Z h0 en1 "com/example/orbitloom/orbitloom/core/Timeline$Entry") (Fe2 : Fld Z h0 en2 "com/example/orbitloom/orbitloom/core/Timeline$Entry" "start" "J" (.long t2)) (Ee2 : Exa Z h0 en2 "com/example/orbitloom/orbitloom/core/Timeline$Entry") :
    MetFree l (⟨"com/example/orbitloom/orbitloom/core/Timeline", "firstStartingFrom", "(J)I"⟩ : MethodName) (head1 (Jvm.Cond.code (⟨"com/example/orbitloom/orbitloom/core/Timeline", "firstStartingFrom", "(J)I"⟩ : MethodName) prog_49_method_5_code 6 (some .int) :: ws) ({ frames := 1, cells := 0, slots := 0, locals := 12 } : Room)) (fun a U => a = #[(.ref x0), (.long x1)] ∧ Z.Warmed39 U.vm ∧ U.heap = h0) (fun _ _ _ _ _ => True) (fun _ U o U' => ∃ v L, o = .returned v ∧ Q20_3 Z x0 x1 f0_entries ke en0 en1 en2 t0 t1 t2 h0 n0 v U'.heap L ∧ FrameEnd U o U' L ({ frames := 1, cells := 0, slots := 0, locals := 12 } : Room).cells ({ frames := 1, cells := 0, slots := 0, locals := 12 } : Room).slots) := by
  refine MetFree.of_bodySF (plainFor_of_name pn_20) hisR ?_
  intro p e s m args below meth c s₁ Bd hml0 hP hK
  obtain ⟨rfl, hZ, hh⟩ := hP
  have w_17 := hw _ (List.mem_of_getElem? (i := 17) rfl)
  have w_49 := hw _ (List.mem_of_getElem? (i := 49) rfl)
  have w_72 := hw _ (List.mem_of_getElem? (i := 72) rfl)
  have w_150 := hw _ (List.mem_of_getElem? (i := 150) rfl)
  have w_151 := hw _ (List.mem_of_getElem? (i := 151) rfl)
  have w_152 := hw _ (List.mem_of_getElem? (i := 152) rfl)
  have w_153 := hw _ (List.mem_of_getElem? (i := 153) rfl)
  have w_154 := hw _ (List.mem_of_getElem? (i := 154) rfl)
  have hx := Bd.exec
  have hby := Bd.bytes
  have hml : c.maxLocals = 6 := hml0
  have hown : s.vm.findClass "com/example/orbitloom/orbitloom/core/Timeline" = some m.cls := findClass_of_methodNamed Bd.named
  have hnm := (name_of_methodNamed Bd.named Bd.method).1
  have X0 : Stand p l e ({ frames := 1, cells := 0, slots := 0, locals := 12 } : Room) s m #[(.ref x0), (.long x1)] below meth c s₁ [] 0 0 := Stand.of_body Bd
  have e0 : s₁.heap = h0 := by rw [← hh, Bd.state]; rfl
  have N0 := Fr.nil n0
  have K0 : Keep h0 h0 [] := Keep.refl h0 _
  refine (?_ : Goes p e below s ({ frames := 1, cells := 0, slots := 0, locals := 12 } : Room).cells ({ frames := 1, cells := 0, slots := 0, locals := 12 } : Room).slots (fun v h L => Q20_3 Z x0 x1 f0_entries ke en0 en1 en2 t0 t1 t2 h0 n0 v h L) (s₁.setTop (entryFrame m #[(.ref x0), (.long x1)] 6)))
  rw [ef_20_3 m x0 x1 f0_entries ke en0 en1 en2 t0 t1 t2 ]
  show Goes _ _ _ _ _ _ _ (s₁.setTop (mkF m 0 #[.val (.ref x0), .val (.long x1), .second, .unset, .unset, .unset] []))
  refine Goes.step (fun _ k => XS.iconst X0.here hx rfl (hb hby d20_0) k) ?_
  refine Goes.step (fun _ k => XS.istoreN X0.here hx rfl (hb hby d20_1) rfl (l' := #[.val (.ref x0), .val (.long x1), .second, .val (.int (0 : Int32)), .unset, .unset]) rfl k) ?_
  show Goes _ _ _ _ _ _ _ (s₁.setTop (mkF m 2 _ []))
  refine Goes.step (fun _ k => XS.aloadN X0.here hx rfl (hb hby d20_2) rfl rfl k) ?_
  obtain ⟨T1, X1, e1, st1⟩ := getF X0 hx hZ hown (host := "") (Or.inl w_72) Via.refl e0 F0_size (g := (mkF m 3 #[.val (.ref x0), .val (.long x1), .second, .val (.int (0 : Int32)), .unset, .unset] [(.ref x0)])) rfl rfl (hb hby d20_3)
  refine Goes.step st1 ?_
  show Goes _ _ _ _ _ _ _ (T1.setTop (mkF m 6 _ [(.int (3 : Int32))]))
  refine Goes.step (fun _ k => XS.istore X1.here hx rfl (hb hby d20_6) rfl (l' := #[.val (.ref x0), .val (.long x1), .second, .val (.int (0 : Int32)), .val (.int (3 : Int32)), .unset]) rfl k) ?_
  show Goes _ _ _ _ _ _ _ (T1.setTop (mkF m 8 _ []))
  refine Goes.step (fun _ k => XS.iloadN X1.here hx rfl (hb hby d20_8) rfl  k) ?_
  refine Goes.step (fun _ k => XS.iload X1.here hx rfl (hb hby d20_9) rfl  k) ?_
  refine Goes.step (fun _ k => XS.icmpNo X1.here hx rfl (hb hby d20_11) rfl (tlt (by decide : (0 : Int32) < (3 : Int32))).2.1 k) ?_
  show Goes _ _ _ _ _ _ _ (T1.setTop (mkF m 14 _ []))
  refine Goes.step (fun _ k => XS.iloadN X1.here hx rfl (hb hby d20_14) rfl  k) ?_
  refine Goes.step (fun _ k => XS.iload X1.here hx rfl (hb hby d20_15) rfl  k) ?_
  refine Goes.step (fun _ k => XS.iadd X1.here hx rfl (hb hby d20_17) rfl k) ?_
  show Goes _ _ _ _ _ _ _ (T1.setTop (mkF m 18 _ [(.int (3 : Int32))]))
  refine Goes.step (fun _ k => XS.iconst X1.here hx rfl (hb hby d20_18) k) ?_
  refine Goes.step (fun _ k => XS.iushr X1.here hx rfl (hb hby d20_19) rfl k) ?_
  show Goes _ _ _ _ _ _ _ (T1.setTop (mkF m 20 _ [(.int (1 : Int32))]))
  refine Goes.step (fun _ k => XS.istore X1.here hx rfl (hb hby d20_20) rfl (l' := #[.val (.ref x0), .val (.long x1), .second, .val (.int (0 : Int32)), .val (.int (3 : Int32)), .val (.int (1 : Int32))]) rfl k) ?_
  show Goes _ _ _ _ _ _ _ (T1.setTop (mkF m 22 #[.val (.ref x0), .val (.long x1), .second, .val (.int (0 : Int32)), .val (.int (3 : Int32)), .val (.int (1 : Int32))] []))
  refine Goes.step (fun _ k => XS.aloadN X1.here hx rfl (hb hby d20_22) rfl rfl k) ?_
  obtain ⟨T2, X2, e2, st2⟩ := getF X1 hx hZ hown (host := "") (Or.inl w_17) Via.refl e1 F0_entries (g := (mkF m 23 #[.val (.ref x0), .val (.long x1), .second, .val (.int (0 : Int32)), .val (.int (3 : Int32)), .val (.int (1 : Int32))] [(.ref x0)])) rfl rfl (hb hby d20_23)
  refine Goes.step st2 ?_
  show Goes _ _ _ _ _ _ _ (T2.setTop (mkF m 26 _ [(.ref f0_entries)]))
  refine Goes.step (fun _ k => XS.iload X2.here hx rfl (hb hby d20_26) rfl  k) ?_
  obtain ⟨cl3, Ar3, q3, S3, P3, H3, G3⟩ := id V_en
  have hin3 : ¬ ((1 : Int32) < 0 ∨ cl3.slots.size ≤ ((1 : Int32)).toNatClampNeg) := inb_of S3 ⟨by decide, by decide⟩
  have hat3 : cl3.slots[((1 : Int32)).toNatClampNeg]? = some (.ref en1) := H3 _ (by rw [S3]; decide)
  refine Goes.step (fun _ k => X2.aaload hx (j := (1 : Int32)) (v := (.ref en1)) (by rw [e2]; exact Ar3.1) (State.isArrayOf_alike hZ.alike Ar3.2.1) rfl Ar3.2.2 hin3 hat3 (g := (mkF m 28 #[.val (.ref x0), .val (.long x1), .second, .val (.int (0 : Int32)), .val (.int (3 : Int32)), .val (.int (1 : Int32))] [(.int (1 : Int32)), (.ref f0_entries)])) rfl rfl (hb hby d20_28) _ k) ?_
  show Goes _ _ _ _ _ _ _ (T2.setTop (mkF m 29 _ [(.ref en1)]))
  obtain ⟨cq4, kq4, q4a, q4b, q4c⟩ := isOf hZ e2 Ee1
  obtain ⟨_, _, ⟨T4, L4, k4, n4⟩, -, X4, ⟨Lc4, hQ4, l4, y4, z4⟩, st4⟩ := X2.virtualBack hx (y := (⟨"com/example/orbitloom/orbitloom/core/Timeline$Entry", "start", "()J"⟩ : MethodName)) (z := (⟨"com/example/orbitloom/orbitloom/core/Timeline$Entry", "start", "()J"⟩ : MethodName)) hown (mvT hZ w_150) (mvT hZ w_151) (notFace_of_selects (args := #[]) (mvT hZ w_153)) (mvT hZ w_153) (mvT hZ w_152) (by decide) (backOf (W := 0) (rm21 l Z a0 hw [] en1 t1 h0 n0 Z0 Fe1) hZ w_154 w_49 (by decide) (by decide)) q4a q4c (g := (mkF m 29 #[.val (.ref x0), .val (.long x1), .second, .val (.int (0 : Int32)), .val (.int (3 : Int32)), .val (.int (1 : Int32))] [(.ref en1)])) rfl (by rw [hml]; rfl) (Steps.refl _) (argsL := []) (rest := []) (lenOf pd_15 rfl) rfl (by show 2 * 0 + _ ≤ _; exact Nat.le_of_eq rfl) (hb hby d20_29) (fun _ _ => ⟨rfl, e2, (by decide : 0 + 0 ≤ _), (by decide : 0 + 0 ≤ _)⟩)
  dsimp only [Pt.U, Pt.locs, Pt.cells, Pt.slots] at X4 l4 y4 z4 st4 hQ4
  rw [l4, y4, z4] at X4
  obtain ⟨N4, eh4, hR4⟩ := hQ4
  have NA4 := Fr.app N0 N4
  obtain rfl := hR4
  refine Goes.back st4 ?_
  show Goes _ _ _ _ _ _ _ (T4.setTop (mkF m 32 _ [(.long t1)]))
  refine Goes.step (fun _ k => XS.lloadN X4.here hx rfl (hb hby d20_32) rfl  k) ?_
  refine Goes.step (fun _ k => XS.lcmp X4.here hx rfl (hb hby d20_33) rfl k) ?_
  show Goes _ _ _ _ _ _ _ (T4.setTop (mkF m 34 _ [(.int (lcmpW t1 x1))]))
  by_cases c34_5 : t1 < x1
  · refine Goes.step (fun _ k => XS.ifYes X4.here hx rfl (pc0 := 34) (pc' := 44) rfl (hb hby d20_34) rfl ((if0 _ _).trans (tlt ((lw_lt _ _).mpr c34_5)).1) (by decide) (by decide) k) ?_
    show Goes _ _ _ _ _ _ _ (T4.setTop (mkF m 44 _ []))
    refine Goes.step (fun _ k => XS.iload X4.here hx rfl (hb hby d20_44) rfl  k) ?_
    refine Goes.step (fun _ k => XS.iconst X4.here hx rfl (hb hby d20_46) k) ?_
    refine Goes.step (fun _ k => XS.iadd X4.here hx rfl (hb hby d20_47) rfl k) ?_
    show Goes _ _ _ _ _ _ _ (T4.setTop (mkF m 48 _ [(.int (2 : Int32))]))
    refine Goes.step (fun _ k => XS.istoreN X4.here hx rfl (hb hby d20_48) rfl (l' := #[.val (.ref x0), .val (.long x1), .second, .val (.int (2 : Int32)), .val (.int (3 : Int32)), .val (.int (1 : Int32))]) rfl k) ?_
    show Goes _ _ _ _ _ _ _ (T4.setTop (mkF m 49 #[.val (.ref x0), .val (.long x1), .second, .val (.int (2 : Int32)), .val (.int (3 : Int32)), .val (.int (1 : Int32))] []))
    refine Goes.step (fun _ k => XS.goto X4.here hx rfl (pc0 := 49) (pc' := 8) rfl (hb hby d20_49) (by decide) (by decide) k) ?_
    show Goes _ _ _ _ _ _ _ (T4.setTop (mkF m 8 _ []))
    refine Goes.step (fun _ k => XS.iloadN X4.here hx rfl (hb hby d20_8) rfl  k) ?_
    refine Goes.step (fun _ k => XS.iload X4.here hx rfl (hb hby d20_9) rfl  k) ?_
    refine Goes.step (fun _ k => XS.icmpNo X4.here hx rfl (hb hby d20_11) rfl (tlt (by decide : (2 : Int32) < (3 : Int32))).2.1 k) ?_
    show Goes _ _ _ _ _ _ _ (T4.setTop (mkF m 14 _ []))
    refine Goes.step (fun _ k => XS.iloadN X4.here hx rfl (hb hby d20_14) rfl  k) ?_
    refine Goes.step (fun _ k => XS.iload X4.here hx rfl (hb hby d20_15) rfl  k) ?_
    refine Goes.step (fun _ k => XS.iadd X4.here hx rfl (hb hby d20_17) rfl k) ?_
    show Goes _ _ _ _ _ _ _ (T4.setTop (mkF m 18 _ [(.int (5 : Int32))]))
    refine Goes.step (fun _ k => XS.iconst X4.here hx rfl (hb hby d20_18) k) ?_
    refine Goes.step (fun _ k => XS.iushr X4.here hx rfl (hb hby d20_19) rfl k) ?_
    show Goes _ _ _ _ _ _ _ (T4.setTop (mkF m 20 _ [(.int (2 : Int32))]))
    refine Goes.step (fun _ k => XS.istore X4.here hx rfl (hb hby d20_20) rfl (l' := #[.val (.ref x0), .val (.long x1), .second, .val (.int (2 : Int32)), .val (.int (3 : Int32)), .val (.int (2 : Int32))]) rfl k) ?_
    show Goes _ _ _ _ _ _ _ (T4.setTop (mkF m 22 _ []))
    refine Goes.step (fun _ k => XS.aloadN X4.here hx rfl (hb hby d20_22) rfl rfl k) ?_
    obtain ⟨T6, X6, e6, st6⟩ := getF X4 hx hZ hown (host := "") (Or.inl w_17) Via.refl eh4 F0_entries (g := (mkF m 23 #[.val (.ref x0), .val (.long x1), .second, .val (.int (2 : Int32)), .val (.int (3 : Int32)), .val (.int (2 : Int32))] [(.ref x0)])) rfl rfl (hb hby d20_23)
    refine Goes.step st6 ?_
    show Goes _ _ _ _ _ _ _ (T6.setTop (mkF m 26 _ [(.ref f0_entries)]))
    refine Goes.step (fun _ k => XS.iload X6.here hx rfl (hb hby d20_26) rfl  k) ?_
    obtain ⟨cl7, Ar7, q7, S7, P7, H7, G7⟩ := id V_en
    have hin7 : ¬ ((2 : Int32) < 0 ∨ cl7.slots.size ≤ ((2 : Int32)).toNatClampNeg) := inb_of S7 ⟨by decide, by decide⟩
    have hat7 : cl7.slots[((2 : Int32)).toNatClampNeg]? = some (.ref en2) := H7 _ (by rw [S7]; decide)
    refine Goes.step (fun _ k => X6.aaload hx (j := (2 : Int32)) (v := (.ref en2)) (by rw [e6]; exact Ar7.1) (State.isArrayOf_alike hZ.alike Ar7.2.1) rfl Ar7.2.2 hin7 hat7 (g := (mkF m 28 #[.val (.ref x0), .val (.long x1), .second, .val (.int (2 : Int32)), .val (.int (3 : Int32)), .val (.int (2 : Int32))] [(.int (2 : Int32)), (.ref f0_entries)])) rfl rfl (hb hby d20_28) _ k) ?_
    show Goes _ _ _ _ _ _ _ (T6.setTop (mkF m 29 #[.val (.ref x0), .val (.long x1), .second, .val (.int (2 : Int32)), .val (.int (3 : Int32)), .val (.int (2 : Int32))] [(.ref en2)]))
    obtain ⟨cq8, kq8, q8a, q8b, q8c⟩ := isOf hZ e6 Ee2
    obtain ⟨_, _, ⟨T8, L8, k8, n8⟩, -, X8, ⟨Lc8, hQ8, l8, y8, z8⟩, st8⟩ := X6.virtualBack hx (y := (⟨"com/example/orbitloom/orbitloom/core/Timeline$Entry", "start", "()J"⟩ : MethodName)) (z := (⟨"com/example/orbitloom/orbitloom/core/Timeline$Entry", "start", "()J"⟩ : MethodName)) hown (mvT hZ w_150) (mvT hZ w_151) (notFace_of_selects (args := #[]) (mvT hZ w_153)) (mvT hZ w_153) (mvT hZ w_152) (by decide) (backOf (W := 0) (rm21 l Z a0 hw [] en2 t2 h0 n0 Z0 Fe2) hZ w_154 w_49 (by decide) (by decide)) q8a q8c (g := (mkF m 29 #[.val (.ref x0), .val (.long x1), .second, .val (.int (2 : Int32)), .val (.int (3 : Int32)), .val (.int (2 : Int32))] [(.ref en2)])) rfl (by rw [hml]; rfl) (Steps.refl _) (argsL := []) (rest := []) (lenOf pd_15 rfl) rfl (by show 2 * 0 + _ ≤ _; exact Nat.le_of_eq rfl) (hb hby d20_29) (fun _ _ => ⟨rfl, e6, (by decide : 0 + 0 ≤ _), (by decide : 0 + 0 ≤ _)⟩)
    dsimp only [Pt.U, Pt.locs, Pt.cells, Pt.slots] at X8 l8 y8 z8 st8 hQ8
    rw [l8, y8, z8] at X8
    obtain ⟨N8, eh8, hR8⟩ := hQ8
    have NA8 := Fr.app NA4 N8
    obtain rfl := hR8
    refine Goes.back st8 ?_
    show Goes _ _ _ _ _ _ _ (T8.setTop (mkF m 32 _ [(.long t2)]))
    refine Goes.step (fun _ k => XS.lloadN X8.here hx rfl (hb hby d20_32) rfl  k) ?_
    refine Goes.step (fun _ k => XS.lcmp X8.here hx rfl (hb hby d20_33) rfl k) ?_
    show Goes _ _ _ _ _ _ _ (T8.setTop (mkF m 34 _ [(.int (lcmpW t2 x1))]))
    by_cases c34_9 : t2 < x1
    · refine Goes.step (fun _ k => XS.ifYes X8.here hx rfl (pc0 := 34) (pc' := 44) rfl (hb hby d20_34) rfl ((if0 _ _).trans (tlt ((lw_lt _ _).mpr c34_9)).1) (by decide) (by decide) k) ?_
      show Goes _ _ _ _ _ _ _ (T8.setTop (mkF m 44 _ []))
      refine Goes.step (fun _ k => XS.iload X8.here hx rfl (hb hby d20_44) rfl  k) ?_
      refine Goes.step (fun _ k => XS.iconst X8.here hx rfl (hb hby d20_46) k) ?_
      refine Goes.step (fun _ k => XS.iadd X8.here hx rfl (hb hby d20_47) rfl k) ?_
      show Goes _ _ _ _ _ _ _ (T8.setTop (mkF m 48 _ [(.int (3 : Int32))]))
      refine Goes.step (fun _ k => XS.istoreN X8.here hx rfl (hb hby d20_48) rfl (l' := #[.val (.ref x0), .val (.long x1), .second, .val (.int (3 : Int32)), .val (.int (3 : Int32)), .val (.int (2 : Int32))]) rfl k) ?_
      show Goes _ _ _ _ _ _ _ (T8.setTop (mkF m 49 _ []))
      refine Goes.step (fun _ k => XS.goto X8.here hx rfl (pc0 := 49) (pc' := 8) rfl (hb hby d20_49) (by decide) (by decide) k) ?_
      show Goes _ _ _ _ _ _ _ (T8.setTop (mkF m 8 _ []))
      refine Goes.step (fun _ k => XS.iloadN X8.here hx rfl (hb hby d20_8) rfl  k) ?_
      refine Goes.step (fun _ k => XS.iload X8.here hx rfl (hb hby d20_9) rfl  k) ?_
      refine Goes.step (fun _ k => XS.icmpYes X8.here hx rfl (pc0 := 11) (pc' := 52) rfl (hb hby d20_11) rfl (flt (by decide : ¬ ((3 : Int32) < (3 : Int32)))).2.1 (by decide) (by decide) k) ?_
      show Goes _ _ _ _ _ _ _ (T8.setTop (mkF m 52 #[.val (.ref x0), .val (.long x1), .second, .val (.int (3 : Int32)), .val (.int (3 : Int32)), .val (.int (2 : Int32))] []))
      refine Goes.step (fun _ k => XS.iloadN X8.here hx rfl (hb hby d20_52) rfl  k) ?_
      exact Goes.ret X8 hx (BodyLoose.notSynchronized Bd) Bd.returns rfl (Or.inl ⟨rfl, by simp, _, rfl⟩) (hb hby d20_53) (by show Q20_3 Z x0 x1 f0_entries ke en0 en1 en2 t0 t1 t2 h0 n0 (some (.int (3 : Int32))) T8.heap _; rw [eh8]; exact ⟨NA8, rfl, Or.inl (⟨rfl, c34_5, c34_9⟩)⟩) (by decide) (by decide)
    · refine Goes.step (fun _ k => XS.ifNo X8.here hx rfl (hb hby d20_34) rfl ((if0 _ _).trans (flt (fun q => c34_9 ((lw_lt _ _).mp q))).1) k) ?_
      show Goes _ _ _ _ _ _ _ (T8.setTop (mkF m 37 _ []))
      refine Goes.step (fun _ k => XS.iload X8.here hx rfl (hb hby d20_37) rfl  k) ?_
      refine Goes.step (fun _ k => XS.istore X8.here hx rfl (hb hby d20_39) rfl (l' := #[.val (.ref x0), .val (.long x1), .second, .val (.int (2 : Int32)), .val (.int (2 : Int32)), .val (.int (2 : Int32))]) rfl k) ?_
      show Goes _ _ _ _ _ _ _ (T8.setTop (mkF m 41 _ []))
      refine Goes.step (fun _ k => XS.goto X8.here hx rfl (pc0 := 41) (pc' := 49) rfl (hb hby d20_41) (by decide) (by decide) k) ?_
      show Goes _ _ _ _ _ _ _ (T8.setTop (mkF m 49 _ []))
      refine Goes.step (fun _ k => XS.goto X8.here hx rfl (pc0 := 49) (pc' := 8) rfl (hb hby d20_49) (by decide) (by decide) k) ?_
      show Goes _ _ _ _ _ _ _ (T8.setTop (mkF m 8 _ []))
      refine Goes.step (fun _ k => XS.iloadN X8.here hx rfl (hb hby d20_8) rfl  k) ?_
      refine Goes.step (fun _ k => XS.iload X8.here hx rfl (hb hby d20_9) rfl  k) ?_
      refine Goes.step (fun _ k => XS.icmpYes X8.here hx rfl (pc0 := 11) (pc' := 52) rfl (hb hby d20_11) rfl (flt (by decide : ¬ ((2 : Int32) < (2 : Int32)))).2.1 (by decide) (by decide) k) ?_
      show Goes _ _ _ _ _ _ _ (T8.setTop (mkF m 52 #[.val (.ref x0), .val (.long x1), .second, .val (.int (2 : Int32)), .val (.int (2 : Int32)), .val (.int (2 : Int32))] []))
      refine Goes.step (fun _ k => XS.iloadN X8.here hx rfl (hb hby d20_52) rfl  k) ?_
      exact Goes.ret X8 hx (BodyLoose.notSynchronized Bd) Bd.returns rfl (Or.inl ⟨rfl, by simp, _, rfl⟩) (hb hby d20_53) (by show Q20_3 Z x0 x1 f0_entries ke en0 en1 en2 t0 t1 t2 h0 n0 (some (.int (2 : Int32))) T8.heap _; rw [eh8]; exact ⟨NA8, rfl, Or.inr (Or.inl (⟨rfl, c34_5, c34_9⟩))⟩) (by decide) (by decide)
  · refine Goes.step (fun _ k => XS.ifNo X4.here hx rfl (hb hby d20_34) rfl ((if0 _ _).trans (flt (fun q => c34_5 ((lw_lt _ _).mp q))).1) k) ?_
    show Goes _ _ _ _ _ _ _ (T4.setTop (mkF m 37 _ []))
    refine Goes.step (fun _ k => XS.iload X4.here hx rfl (hb hby d20_37) rfl  k) ?_
    refine Goes.step (fun _ k => XS.istore X4.here hx rfl (hb hby d20_39) rfl (l' := #[.val (.ref x0), .val (.long x1), .second, .val (.int (0 : Int32)), .val (.int (1 : Int32)), .val (.int (1 : Int32))]) rfl k) ?_
    show Goes _ _ _ _ _ _ _ (T4.setTop (mkF m 41 _ []))
    refine Goes.step (fun _ k => XS.goto X4.here hx rfl (pc0 := 41) (pc' := 49) rfl (hb hby d20_41) (by decide) (by decide) k) ?_
    show Goes _ _ _ _ _ _ _ (T4.setTop (mkF m 49 #[.val (.ref x0), .val (.long x1), .second, .val (.int (0 : Int32)), .val (.int (1 : Int32)), .val (.int (1 : Int32))] []))
    refine Goes.step (fun _ k => XS.goto X4.here hx rfl (pc0 := 49) (pc' := 8) rfl (hb hby d20_49) (by decide) (by decide) k) ?_
    show Goes _ _ _ _ _ _ _ (T4.setTop (mkF m 8 _ []))
    refine Goes.step (fun _ k => XS.iloadN X4.here hx rfl (hb hby d20_8) rfl  k) ?_
    refine Goes.step (fun _ k => XS.iload X4.here hx rfl (hb hby d20_9) rfl  k) ?_
    refine Goes.step (fun _ k => XS.icmpNo X4.here hx rfl (hb hby d20_11) rfl (tlt (by decide : (0 : Int32) < (1 : Int32))).2.1 k) ?_
    show Goes _ _ _ _ _ _ _ (T4.setTop (mkF m 14 _ []))
    refine Goes.step (fun _ k => XS.iloadN X4.here hx rfl (hb hby d20_14) rfl  k) ?_
    refine Goes.step (fun _ k => XS.iload X4.here hx rfl (hb hby d20_15) rfl  k) ?_
    refine Goes.step (fun _ k => XS.iadd X4.here hx rfl (hb hby d20_17) rfl k) ?_
    show Goes _ _ _ _ _ _ _ (T4.setTop (mkF m 18 _ [(.int (1 : Int32))]))
    refine Goes.step (fun _ k => XS.iconst X4.here hx rfl (hb hby d20_18) k) ?_
    refine Goes.step (fun _ k => XS.iushr X4.here hx rfl (hb hby d20_19) rfl k) ?_
    show Goes _ _ _ _ _ _ _ (T4.setTop (mkF m 20 _ [(.int (0 : Int32))]))
    refine Goes.step (fun _ k => XS.istore X4.here hx rfl (hb hby d20_20) rfl (l' := #[.val (.ref x0), .val (.long x1), .second, .val (.int (0 : Int32)), .val (.int (1 : Int32)), .val (.int (0 : Int32))]) rfl k) ?_
    show Goes _ _ _ _ _ _ _ (T4.setTop (mkF m 22 _ []))
    refine Goes.step (fun _ k => XS.aloadN X4.here hx rfl (hb hby d20_22) rfl rfl k) ?_
    obtain ⟨T10, X10, e10, st10⟩ := getF X4 hx hZ hown (host := "") (Or.inl w_17) Via.refl eh4 F0_entries (g := (mkF m 23 #[.val (.ref x0), .val (.long x1), .second, .val (.int (0 : Int32)), .val (.int (1 : Int32)), .val (.int (0 : Int32))] [(.ref x0)])) rfl rfl (hb hby d20_23)
    refine Goes.step st10 ?_
    show Goes _ _ _ _ _ _ _ (T10.setTop (mkF m 26 _ [(.ref f0_entries)]))
    refine Goes.step (fun _ k => XS.iload X10.here hx rfl (hb hby d20_26) rfl  k) ?_
    obtain ⟨cl11, Ar11, q11, S11, P11, H11, G11⟩ := id V_en
    have hin11 : ¬ ((0 : Int32) < 0 ∨ cl11.slots.size ≤ ((0 : Int32)).toNatClampNeg) := inb_of S11 ⟨by decide, by decide⟩
    have hat11 : cl11.slots[((0 : Int32)).toNatClampNeg]? = some (.ref en0) := H11 _ (by rw [S11]; decide)
    refine Goes.step (fun _ k => X10.aaload hx (j := (0 : Int32)) (v := (.ref en0)) (by rw [e10]; exact Ar11.1) (State.isArrayOf_alike hZ.alike Ar11.2.1) rfl Ar11.2.2 hin11 hat11 (g := (mkF m 28 #[.val (.ref x0), .val (.long x1), .second, .val (.int (0 : Int32)), .val (.int (1 : Int32)), .val (.int (0 : Int32))] [(.int (0 : Int32)), (.ref f0_entries)])) rfl rfl (hb hby d20_28) _ k) ?_
    show Goes _ _ _ _ _ _ _ (T10.setTop (mkF m 29 #[.val (.ref x0), .val (.long x1), .second, .val (.int (0 : Int32)), .val (.int (1 : Int32)), .val (.int (0 : Int32))] [(.ref en0)]))
    obtain ⟨cq12, kq12, q12a, q12b, q12c⟩ := isOf hZ e10 Ee0
    obtain ⟨_, _, ⟨T12, L12, k12, n12⟩, -, X12, ⟨Lc12, hQ12, l12, y12, z12⟩, st12⟩ := X10.virtualBack hx (y := (⟨"com/example/orbitloom/orbitloom/core/Timeline$Entry", "start", "()J"⟩ : MethodName)) (z := (⟨"com/example/orbitloom/orbitloom/core/Timeline$Entry", "start", "()J"⟩ : MethodName)) hown (mvT hZ w_150) (mvT hZ w_151) (notFace_of_selects (args := #[]) (mvT hZ w_153)) (mvT hZ w_153) (mvT hZ w_152) (by decide) (backOf (W := 0) (rm21 l Z a0 hw [] en0 t0 h0 n0 Z0 Fe0) hZ w_154 w_49 (by decide) (by decide)) q12a q12c (g := (mkF m 29 #[.val (.ref x0), .val (.long x1), .second, .val (.int (0 : Int32)), .val (.int (1 : Int32)), .val (.int (0 : Int32))] [(.ref en0)])) rfl (by rw [hml]; rfl) (Steps.refl _) (argsL := []) (rest := []) (lenOf pd_15 rfl) rfl (by show 2 * 0 + _ ≤ _; exact Nat.le_of_eq rfl) (hb hby d20_29) (fun _ _ => ⟨rfl, e10, (by decide : 0 + 0 ≤ _), (by decide : 0 + 0 ≤ _)⟩)
    dsimp only [Pt.U, Pt.locs, Pt.cells, Pt.slots] at X12 l12 y12 z12 st12 hQ12
    rw [l12, y12, z12] at X12
    obtain ⟨N12, eh12, hR12⟩ := hQ12
    have NA12 := Fr.app NA4 N12
    obtain rfl := hR12
    refine Goes.back st12 ?_
    show Goes _ _ _ _ _ _ _ (T12.setTop (mkF m 32 _ [(.long t0)]))
    refine Goes.step (fun _ k => XS.lloadN X12.here hx rfl (hb hby d20_32) rfl  k) ?_
    refine Goes.step (fun _ k => XS.lcmp X12.here hx rfl (hb hby d20_33) rfl k) ?_
    show Goes _ _ _ _ _ _ _ (T12.setTop (mkF m 34 _ [(.int (lcmpW t0 x1))]))
    by_cases c34_13 : t0 < x1
    · refine Goes.step (fun _ k => XS.ifYes X12.here hx rfl (pc0 := 34) (pc' := 44) rfl (hb hby d20_34) rfl ((if0 _ _).trans (tlt ((lw_lt _ _).mpr c34_13)).1) (by decide) (by decide) k) ?_
      show Goes _ _ _ _ _ _ _ (T12.setTop (mkF m 44 _ []))
      refine Goes.step (fun _ k => XS.iload X12.here hx rfl (hb hby d20_44) rfl  k) ?_
      refine Goes.step (fun _ k => XS.iconst X12.here hx rfl (hb hby d20_46) k) ?_
      refine Goes.step (fun _ k => XS.iadd X12.here hx rfl (hb hby d20_47) rfl k) ?_
      show Goes _ _ _ _ _ _ _ (T12.setTop (mkF m 48 _ [(.int (1 : Int32))]))
      refine Goes.step (fun _ k => XS.istoreN X12.here hx rfl (hb hby d20_48) rfl (l' := #[.val (.ref x0), .val (.long x1), .second, .val (.int (1 : Int32)), .val (.int (1 : Int32)), .val (.int (0 : Int32))]) rfl k) ?_
      show Goes _ _ _ _ _ _ _ (T12.setTop (mkF m 49 _ []))
      refine Goes.step (fun _ k => XS.goto X12.here hx rfl (pc0 := 49) (pc' := 8) rfl (hb hby d20_49) (by decide) (by decide) k) ?_
      show Goes _ _ _ _ _ _ _ (T12.setTop (mkF m 8 _ []))
      refine Goes.step (fun _ k => XS.iloadN X12.here hx rfl (hb hby d20_8) rfl  k) ?_
      refine Goes.step (fun _ k => XS.iload X12.here hx rfl (hb hby d20_9) rfl  k) ?_
      refine Goes.step (fun _ k => XS.icmpYes X12.here hx rfl (pc0 := 11) (pc' := 52) rfl (hb hby d20_11) rfl (flt (by decide : ¬ ((1 : Int32) < (1 : Int32)))).2.1 (by decide) (by decide) k) ?_
      show Goes _ _ _ _ _ _ _ (T12.setTop (mkF m 52 #[.val (.ref x0), .val (.long x1), .second, .val (.int (1 : Int32)), .val (.int (1 : Int32)), .val (.int (0 : Int32))] []))
      refine Goes.step (fun _ k => XS.iloadN X12.here hx rfl (hb hby d20_52) rfl  k) ?_
      exact Goes.ret X12 hx (BodyLoose.notSynchronized Bd) Bd.returns rfl (Or.inl ⟨rfl, by simp, _, rfl⟩) (hb hby d20_53) (by show Q20_3 Z x0 x1 f0_entries ke en0 en1 en2 t0 t1 t2 h0 n0 (some (.int (1 : Int32))) T12.heap _; rw [eh12]; exact ⟨NA12, rfl, Or.inr (Or.inr (Or.inl (⟨rfl, c34_5, c34_13⟩)))⟩) (by decide) (by decide)
    · refine Goes.step (fun _ k => XS.ifNo X12.here hx rfl (hb hby d20_34) rfl ((if0 _ _).trans (flt (fun q => c34_13 ((lw_lt _ _).mp q))).1) k) ?_
      show Goes _ _ _ _ _ _ _ (T12.setTop (mkF m 37 _ []))
      refine Goes.step (fun _ k => XS.iload X12.here hx rfl (hb hby d20_37) rfl  k) ?_
      refine Goes.step (fun _ k => XS.istore X12.here hx rfl (hb hby d20_39) rfl (l' := #[.val (.ref x0), .val (.long x1), .second, .val (.int (0 : Int32)), .val (.int (0 : Int32)), .val (.int (0 : Int32))]) rfl k) ?_
      show Goes _ _ _ _ _ _ _ (T12.setTop (mkF m 41 _ []))
      refine Goes.step (fun _ k => XS.goto X12.here hx rfl (pc0 := 41) (pc' := 49) rfl (hb hby d20_41) (by decide) (by decide) k) ?_
      show Goes _ _ _ _ _ _ _ (T12.setTop (mkF m 49 _ []))
      refine Goes.step (fun _ k => XS.goto X12.here hx rfl (pc0 := 49) (pc' := 8) rfl (hb hby d20_49) (by decide) (by decide) k) ?_
      show Goes _ _ _ _ _ _ _ (T12.setTop (mkF m 8 _ []))
      refine Goes.step (fun _ k => XS.iloadN X12.here hx rfl (hb hby d20_8) rfl  k) ?_
      refine Goes.step (fun _ k => XS.iload X12.here hx rfl (hb hby d20_9) rfl  k) ?_
      refine Goes.step (fun _ k => XS.icmpYes X12.here hx rfl (pc0 := 11) (pc' := 52) rfl (hb hby d20_11) rfl (flt (by decide : ¬ ((0 : Int32) < (0 : Int32)))).2.1 (by decide) (by decide) k) ?_
      show Goes _ _ _ _ _ _ _ (T12.setTop (mkF m 52 #[.val (.ref x0), .val (.long x1), .second, .val (.int (0 : Int32)), .val (.int (0 : Int32)), .val (.int (0 : Int32))] []))
      refine Goes.step (fun _ k => XS.iloadN X12.here hx rfl (hb hby d20_52) rfl  k) ?_
      exact Goes.ret X12 hx (BodyLoose.notSynchronized Bd) Bd.returns rfl (Or.inl ⟨rfl, by simp, _, rfl⟩) (hb hby d20_53) (by show Q20_3 Z x0 x1 f0_entries ke en0 en1 en2 t0 t1 t2 h0 n0 (some (.int (0 : Int32))) T12.heap _; rw [eh12]; exact ⟨NA12, rfl, Or.inr (Or.inr (Or.inr (⟨rfl, c34_5, c34_13⟩)))⟩) (by decide) (by decide)
theorem ef_20_4 (m : MethodId) (x0 : Addr) (x1 : Int64) (f0_entries : Addr) (ke : ClassId) (en0 : Addr) (en1 : Addr) (en2 : Addr) (en3 : Addr) (t0 : Int64) (t1 : Int64) (t2 : Int64) (t3 : Int64)  : entryFrame m #[(.ref x0), (.long x1)] 6 = mkF m 0 #[.val (.ref x0), .val (.long x1), .second, .unset, .unset, .unset] [] := by first | (simp [entryFrame, mkF, argsToLocals, Value.category]; done) | rfl
def Q20_4 (Z : State) (x0 : Addr) (x1 : Int64) (f0_entries : Addr) (ke : ClassId) (en0 : Addr) (en1 : Addr) (en2 : Addr) (en3 : Addr) (t0 : Int64) (t1 : Int64) (t2 : Int64) (t3 : Int64) (h0 : Heap) (n0 : Nat) (v : Option Value) (h : Heap) (L : List Loc) : Prop := Fr n0 L ∧ h = h0 ∧ ((v = some (.int (4 : Int32)) ∧ t2 < x1 ∧ t3 < x1) ∨ (v = some (.int (3 : Int32)) ∧ t2 < x1 ∧ ¬ (t3 < x1)) ∨ (v = some (.int (2 : Int32)) ∧ ¬ (t2 < x1) ∧ t1 < x1) ∨ (v = some (.int (1 : Int32)) ∧ ¬ (t2 < x1) ∧ ¬ (t1 < x1) ∧ t0 < x1) ∨ (v = some (.int (0 : Int32)) ∧ ¬ (t2 < x1) ∧ ¬ (t1 < x1) ∧ ¬ (t0 < x1)))
set_option maxRecDepth 65536 in
set_option maxHeartbeats 40000000 in
theorem rm20_4 (l : Launch) (Z : State) (a0 : Array Value) (hw : ∀ d ∈ tables_1, d.before a0 Z = true) (ws : List Jvm.Cond) (x0 : Addr) (x1 : Int64) (f0_entries : Addr) (ke : ClassId) (en0 : Addr) (en1 : Addr) (en2 : Addr) (en3 : Addr) (t0 : Int64) (t1 : Int64) (t2 : Int64) (t3 : Int64) (h0 : Heap) (n0 : Nat) (Z0 : n0 ≤ h0.size) (F0_entries : Fld Z h0 x0 "com/example/orbitloom/orbitloom/core/Timeline" "entries" "[Lcom/example/orbitloom/orbitloom/core/Timeline$Entry;" (.ref f0_entries)) (F0_size : Fld Z h0 x0 "com/example/orbitloom/orbitloom/core/Timeline" "size" "I" (.int (4 : Int32))) (E_x0 : Exa Z h0 x0 "com/example/orbitloom/orbitloom/core/Timeline") (V_en : Arv Z h0 f0_entries ke (.object "com/example/orbitloom/orbitloom/core/Timeline$Entry") (8 : Int32) [(.ref en0), (.ref en1), (.ref en2), (.ref en3), .null, .null, .null, .null] .null) (Fe0 : Fld Z h0 en0 "com/example/orbitloom/orbitloom/core/Timeline$Entry" "start" "J" (.long t0)) (Ee0 : Exa Z h0 en0 "com/example/orbitloom/orbitloom/core/Timeline$Entry") (Fe1 : Fld Z h0 en1 "com/example/orbitloom/orbitloom/core/Timeline$Entry" "start" "J" (.long t1)) (Ee1 : Exa Z h0 en1 "com/example/orbitloom/orbitloom/core/Timeline$Entry") (Fe2 : Fld Z h0 en2 "com/example/orbitloom/orbitloom/core/Timeline$Entry" "start" "J" (.long t2)) (Ee2 : Exa Z h0 en2 "com/example/orbitloom/orbitloom/core/Timeline$Entry") (Fe3 : Fld Z h0 en3 "com/example/orbitloom/orbitloom/core/Timeline$Entry" "start" "J" (.long t3)) (Ee3 : Exa Z h0 en3 "com/example/orbitloom/orbitloom/core/Timeline$Entry") :
    MetFree l (⟨"com/example/orbitloom/orbitloom/core/Timeline", "firstStartingFrom", "(J)I"⟩ : MethodName) (head1 (Jvm.Cond.code (⟨"com/example/orbitloom/orbitloom/core/Timeline", "firstStartingFrom", "(J)I"⟩ : MethodName) prog_49_method_5_code 6 (some .int) :: ws) ({ frames := 1, cells := 0, slots := 0, locals := 12 } : Room)) (fun a U => a = #[(.ref x0), (.long x1)] ∧ Z.Warmed39 U.vm ∧ U.heap = h0) (fun _ _ _ _ _ => True) (fun _ U o U' => ∃ v L, o = .returned v ∧ Q20_4 Z x0 x1 f0_entries ke en0 en1 en2 en3 t0 t1 t2 t3 h0 n0 v U'.heap L ∧ FrameEnd U o U' L ({ frames := 1, cells := 0, slots := 0, locals := 12 } : Room).cells ({ frames := 1, cells := 0, slots := 0, locals := 12 } : Room).slots) := by
  refine MetFree.of_bodySF (plainFor_of_name pn_20) hisR ?_
  intro p e s m args below meth c s₁ Bd hml0 hP hK
  obtain ⟨rfl, hZ, hh⟩ := hP
  have w_17 := hw _ (List.mem_of_getElem? (i := 17) rfl)
  have w_49 := hw _ (List.mem_of_getElem? (i := 49) rfl)
  have w_72 := hw _ (List.mem_of_getElem? (i := 72) rfl)
  have w_150 := hw _ (List.mem_of_getElem? (i := 150) rfl)
  have w_151 := hw _ (List.mem_of_getElem? (i := 151) rfl)
  have w_152 := hw _ (List.mem_of_getElem? (i := 152) rfl)
  have w_153 := hw _ (List.mem_of_getElem? (i := 153) rfl)
  have w_154 := hw _ (List.mem_of_getElem? (i := 154) rfl)
  have hx := Bd.exec
  have hby := Bd.bytes
  have hml : c.maxLocals = 6 := hml0
  have hown : s.vm.findClass "com/example/orbitloom/orbitloom/core/Timeline" = some m.cls := findClass_of_methodNamed Bd.named
  have hnm := (name_of_methodNamed Bd.named Bd.method).1
  have X0 : Stand p l e ({ frames := 1, cells := 0, slots := 0, locals := 12 } : Room) s m #[(.ref x0), (.long x1)] below meth c s₁ [] 0 0 := Stand.of_body Bd
  have e0 : s₁.heap = h0 := by rw [← hh, Bd.state]; rfl
  have N0 := Fr.nil n0
  have K0 : Keep h0 h0 [] := Keep.refl h0 _
  refine (?_ : Goes p e below s ({ frames := 1, cells := 0, slots := 0, locals := 12 } : Room).cells ({ frames := 1, cells := 0, slots := 0, locals := 12 } : Room).slots (fun v h L => Q20_4 Z x0 x1 f0_entries ke en0 en1 en2 en3 t0 t1 t2 t3 h0 n0 v h L) (s₁.setTop (entryFrame m #[(.ref x0), (.long x1)] 6)))
  rw [ef_20_4 m x0 x1 f0_entries ke en0 en1 en2 en3 t0 t1 t2 t3 ]
  show Goes _ _ _ _ _ _ _ (s₁.setTop (mkF m 0 #[.val (.ref x0), .val (.long x1), .second, .unset, .unset, .unset] []))
  refine Goes.step (fun _ k => XS.iconst X0.here hx rfl (hb hby d20_0) k) ?_
  refine Goes.step (fun _ k => XS.istoreN X0.here hx rfl (hb hby d20_1) rfl (l' := #[.val (.ref x0), .val (.long x1), .second, .val (.int (0 : Int32)), .unset, .unset]) rfl k) ?_
  show Goes _ _ _ _ _ _ _ (s₁.setTop (mkF m 2 _ []))
  refine Goes.step (fun _ k => XS.aloadN X0.here hx rfl (hb hby d20_2) rfl rfl k) ?_
  obtain ⟨T1, X1, e1, st1⟩ := getF X0 hx hZ hown (host := "") (Or.inl w_72) Via.refl e0 F0_size (g := (mkF m 3 #[.val (.ref x0), .val (.long x1), .second, .val (.int (0 : Int32)), .unset, .unset] [(.ref x0)])) rfl rfl (hb hby d20_3)
  refine Goes.step st1 ?_
  show Goes _ _ _ _ _ _ _ (T1.setTop (mkF m 6 _ [(.int (4 : Int32))]))
  refine Goes.step (fun _ k => XS.istore X1.here hx rfl (hb hby d20_6) rfl (l' := #[.val (.ref x0), .val (.long x1), .second, .val (.int (0 : Int32)), .val (.int (4 : Int32)), .unset]) rfl k) ?_
  show Goes _ _ _ _ _ _ _ (T1.setTop (mkF m 8 _ []))
  refine Goes.step (fun _ k => XS.iloadN X1.here hx rfl (hb hby d20_8) rfl  k) ?_
  refine Goes.step (fun _ k => XS.iload X1.here hx rfl (hb hby d20_9) rfl  k) ?_
  refine Goes.step (fun _ k => XS.icmpNo X1.here hx rfl (hb hby d20_11) rfl (tlt (by decide : (0 : Int32) < (4 : Int32))).2.1 k) ?_
  show Goes _ _ _ _ _ _ _ (T1.setTop (mkF m 14 _ []))
  refine Goes.step (fun _ k => XS.iloadN X1.here hx rfl (hb hby d20_14) rfl  k) ?_
  refine Goes.step (fun _ k => XS.iload X1.here hx rfl (hb hby d20_15) rfl  k) ?_
  refine Goes.step (fun _ k => XS.iadd X1.here hx rfl (hb hby d20_17) rfl k) ?_
  show Goes _ _ _ _ _ _ _ (T1.setTop (mkF m 18 _ [(.int (4 : Int32))]))
  refine Goes.step (fun _ k => XS.iconst X1.here hx rfl (hb hby d20_18) k) ?_
  refine Goes.step (fun _ k => XS.iushr X1.here hx rfl (hb hby d20_19) rfl k) ?_
  show Goes _ _ _ _ _ _ _ (T1.setTop (mkF m 20 _ [(.int (2 : Int32))]))
  refine Goes.step (fun _ k => XS.istore X1.here hx rfl (hb hby d20_20) rfl (l' := #[.val (.ref x0), .val (.long x1), .second, .val (.int (0 : Int32)), .val (.int (4 : Int32)), .val (.int (2 : Int32))]) rfl k) ?_
  show Goes _ _ _ _ _ _ _ (T1.setTop (mkF m 22 #[.val (.ref x0), .val (.long x1), .second, .val (.int (0 : Int32)), .val (.int (4 : Int32)), .val (.int (2 : Int32))] []))
  refine Goes.step (fun _ k => XS.aloadN X1.here hx rfl (hb hby d20_22) rfl rfl k) ?_
  obtain ⟨T2, X2, e2, st2⟩ := getF X1 hx hZ hown (host := "") (Or.inl w_17) Via.refl e1 F0_entries (g := (mkF m 23 #[.val (.ref x0), .val (.long x1), .second, .val (.int (0 : Int32)), .val (.int (4 : Int32)), .val (.int (2 : Int32))] [(.ref x0)])) rfl rfl (hb hby d20_23)
  refine Goes.step st2 ?_
  show Goes _ _ _ _ _ _ _ (T2.setTop (mkF m 26 _ [(.ref f0_entries)]))
  refine Goes.step (fun _ k => XS.iload X2.here hx rfl (hb hby d20_26) rfl  k) ?_
  obtain ⟨cl3, Ar3, q3, S3, P3, H3, G3⟩ := id V_en
  have hin3 : ¬ ((2 : Int32) < 0 ∨ cl3.slots.size ≤ ((2 : Int32)).toNatClampNeg) := inb_of S3 ⟨by decide, by decide⟩
  have hat3 : cl3.slots[((2 : Int32)).toNatClampNeg]? = some (.ref en2) := H3 _ (by rw [S3]; decide)
  refine Goes.step (fun _ k => X2.aaload hx (j := (2 : Int32)) (v := (.ref en2)) (by rw [e2]; exact Ar3.1) (State.isArrayOf_alike hZ.alike Ar3.2.1) rfl Ar3.2.2 hin3 hat3 (g := (mkF m 28 #[.val (.ref x0), .val (.long x1), .second, .val (.int (0 : Int32)), .val (.int (4 : Int32)), .val (.int (2 : Int32))] [(.int (2 : Int32)), (.ref f0_entries)])) rfl rfl (hb hby d20_28) _ k) ?_
  show Goes _ _ _ _ _ _ _ (T2.setTop (mkF m 29 _ [(.ref en2)]))
  obtain ⟨cq4, kq4, q4a, q4b, q4c⟩ := isOf hZ e2 Ee2
  obtain ⟨_, _, ⟨T4, L4, k4, n4⟩, -, X4, ⟨Lc4, hQ4, l4, y4, z4⟩, st4⟩ := X2.virtualBack hx (y := (⟨"com/example/orbitloom/orbitloom/core/Timeline$Entry", "start", "()J"⟩ : MethodName)) (z := (⟨"com/example/orbitloom/orbitloom/core/Timeline$Entry", "start", "()J"⟩ : MethodName)) hown (mvT hZ w_150) (mvT hZ w_151) (notFace_of_selects (args := #[]) (mvT hZ w_153)) (mvT hZ w_153) (mvT hZ w_152) (by decide) (backOf (W := 0) (rm21 l Z a0 hw [] en2 t2 h0 n0 Z0 Fe2) hZ w_154 w_49 (by decide) (by decide)) q4a q4c (g := (mkF m 29 #[.val (.ref x0), .val (.long x1), .second, .val (.int (0 : Int32)), .val (.int (4 : Int32)), .val (.int (2 : Int32))] [(.ref en2)])) rfl (by rw [hml]; rfl) (Steps.refl _) (argsL := []) (rest := []) (lenOf pd_15 rfl) rfl (by show 2 * 0 + _ ≤ _; exact Nat.le_of_eq rfl) (hb hby d20_29) (fun _ _ => ⟨rfl, e2, (by decide : 0 + 0 ≤ _), (by decide : 0 + 0 ≤ _)⟩)
  dsimp only [Pt.U, Pt.locs, Pt.cells, Pt.slots] at X4 l4 y4 z4 st4 hQ4
  rw [l4, y4, z4] at X4
  obtain ⟨N4, eh4, hR4⟩ := hQ4
  have NA4 := Fr.app N0 N4
  obtain rfl := hR4
  refine Goes.back st4 ?_
  show Goes _ _ _ _ _ _ _ (T4.setTop (mkF m 32 _ [(.long t2)]))
  refine Goes.step (fun _ k => XS.lloadN X4.here hx rfl (hb hby d20_32) rfl  k) ?_
  refine Goes.step (fun _ k => XS.lcmp X4.here hx rfl (hb hby d20_33) rfl k) ?_
  show Goes _ _ _ _ _ _ _ (T4.setTop (mkF m 34 _ [(.int (lcmpW t2 x1))]))
  by_cases c34_5 : t2 < x1
  · refine Goes.step (fun _ k => XS.ifYes X4.here hx rfl (pc0 := 34) (pc' := 44) rfl (hb hby d20_34) rfl ((if0 _ _).trans (tlt ((lw_lt _ _).mpr c34_5)).1) (by decide) (by decide) k) ?_
    show Goes _ _ _ _ _ _ _ (T4.setTop (mkF m 44 _ []))
    refine Goes.step (fun _ k => XS.iload X4.here hx rfl (hb hby d20_44) rfl  k) ?_
    refine Goes.step (fun _ k => XS.iconst X4.here hx rfl (hb hby d20_46) k) ?_
    refine Goes.step (fun _ k => XS.iadd X4.here hx rfl (hb hby d20_47) rfl k) ?_
    show Goes _ _ _ _ _ _ _ (T4.setTop (mkF m 48 _ [(.int (3 : Int32))]))
    refine Goes.step (fun _ k => XS.istoreN X4.here hx rfl (hb hby d20_48) rfl (l' := #[.val (.ref x0), .val (.long x1), .second, .val (.int (3 : Int32)), .val (.int (4 : Int32)), .val (.int (2 : Int32))]) rfl k) ?_
    show Goes _ _ _ _ _ _ _ (T4.setTop (mkF m 49 #[.val (.ref x0), .val (.long x1), .second, .val (.int (3 : Int32)), .val (.int (4 : Int32)), .val (.int (2 : Int32))] []))
    refine Goes.step (fun _ k => XS.goto X4.here hx rfl (pc0 := 49) (pc' := 8) rfl (hb hby d20_49) (by decide) (by decide) k) ?_
    show Goes _ _ _ _ _ _ _ (T4.setTop (mkF m 8 _ []))
    refine Goes.step (fun _ k => XS.iloadN X4.here hx rfl (hb hby d20_8) rfl  k) ?_
    refine Goes.step (fun _ k => XS.iload X4.here hx rfl (hb hby d20_9) rfl  k) ?_
    refine Goes.step (fun _ k => XS.icmpNo X4.here hx rfl (hb hby d20_11) rfl (tlt (by decide : (3 : Int32) < (4 : Int32))).2.1 k) ?_
    show Goes _ _ _ _ _ _ _ (T4.setTop (mkF m 14 _ []))
    refine Goes.step (fun _ k => XS.iloadN X4.here hx rfl (hb hby d20_14) rfl  k) ?_
    refine Goes.step (fun _ k => XS.iload X4.here hx rfl (hb hby d20_15) rfl  k) ?_
    refine Goes.step (fun _ k => XS.iadd X4.here hx rfl (hb hby d20_17) rfl k) ?_
    show Goes _ _ _ _ _ _ _ (T4.setTop (mkF m 18 _ [(.int (7 : Int32))]))
    refine Goes.step (fun _ k => XS.iconst X4.here hx rfl (hb hby d20_18) k) ?_
    refine Goes.step (fun _ k => XS.iushr X4.here hx rfl (hb hby d20_19) rfl k) ?_
    show Goes _ _ _ _ _ _ _ (T4.setTop (mkF m 20 _ [(.int (3 : Int32))]))
    refine Goes.step (fun _ k => XS.istore X4.here hx rfl (hb hby d20_20) rfl (l' := #[.val (.ref x0), .val (.long x1), .second, .val (.int (3 : Int32)), .val (.int (4 : Int32)), .val (.int (3 : Int32))]) rfl k) ?_
    show Goes _ _ _ _ _ _ _ (T4.setTop (mkF m 22 _ []))
    refine Goes.step (fun _ k => XS.aloadN X4.here hx rfl (hb hby d20_22) rfl rfl k) ?_
    obtain ⟨T6, X6, e6, st6⟩ := getF X4 hx hZ hown (host := "") (Or.inl w_17) Via.refl eh4 F0_entries (g := (mkF m 23 #[.val (.ref x0), .val (.long x1), .second, .val (.int (3 : Int32)), .val (.int (4 : Int32)), .val (.int (3 : Int32))] [(.ref x0)])) rfl rfl (hb hby d20_23)
    refine Goes.step st6 ?_
    show Goes _ _ _ _ _ _ _ (T6.setTop (mkF m 26 _ [(.ref f0_entries)]))
    refine Goes.step (fun _ k => XS.iload X6.here hx rfl (hb hby d20_26) rfl  k) ?_
    obtain ⟨cl7, Ar7, q7, S7, P7, H7, G7⟩ := id V_en
    have hin7 : ¬ ((3 : Int32) < 0 ∨ cl7.slots.size ≤ ((3 : Int32)).toNatClampNeg) := inb_of S7 ⟨by decide, by decide⟩
    have hat7 : cl7.slots[((3 : Int32)).toNatClampNeg]? = some (.ref en3) := H7 _ (by rw [S7]; decide)
    refine Goes.step (fun _ k => X6.aaload hx (j := (3 : Int32)) (v := (.ref en3)) (by rw [e6]; exact Ar7.1) (State.isArrayOf_alike hZ.alike Ar7.2.1) rfl Ar7.2.2 hin7 hat7 (g := (mkF m 28 #[.val (.ref x0), .val (.long x1), .second, .val (.int (3 : Int32)), .val (.int (4 : Int32)), .val (.int (3 : Int32))] [(.int (3 : Int32)), (.ref f0_entries)])) rfl rfl (hb hby d20_28) _ k) ?_
    show Goes _ _ _ _ _ _ _ (T6.setTop (mkF m 29 #[.val (.ref x0), .val (.long x1), .second, .val (.int (3 : Int32)), .val (.int (4 : Int32)), .val (.int (3 : Int32))] [(.ref en3)]))
    obtain ⟨cq8, kq8, q8a, q8b, q8c⟩ := isOf hZ e6 Ee3
    obtain ⟨_, _, ⟨T8, L8, k8, n8⟩, -, X8, ⟨Lc8, hQ8, l8, y8, z8⟩, st8⟩ := X6.virtualBack hx (y := (⟨"com/example/orbitloom/orbitloom/core/Timeline$Entry", "start", "()J"⟩ : MethodName)) (z := (⟨"com/example/orbitloom/orbitloom/core/Timeline$Entry", "start", "()J"⟩ : MethodName)) hown (mvT hZ w_150) (mvT hZ w_151) (notFace_of_selects (args := #[]) (mvT hZ w_153)) (mvT hZ w_153) (mvT hZ w_152) (by decide) (backOf (W := 0) (rm21 l Z a0 hw [] en3 t3 h0 n0 Z0 Fe3) hZ w_154 w_49 (by decide) (by decide)) q8a q8c (g := (mkF m 29 #[.val (.ref x0), .val (.long x1), .second, .val (.int (3 : Int32)), .val (.int (4 : Int32)), .val (.int (3 : Int32))] [(.ref en3)])) rfl (by rw [hml]; rfl) (Steps.refl _) (argsL := []) (rest := []) (lenOf pd_15 rfl) rfl (by show 2 * 0 + _ ≤ _; exact Nat.le_of_eq rfl) (hb hby d20_29) (fun _ _ => ⟨rfl, e6, (by decide : 0 + 0 ≤ _), (by decide : 0 + 0 ≤ _)⟩)
    dsimp only [Pt.U, Pt.locs, Pt.cells, Pt.slots] at X8 l8 y8 z8 st8 hQ8
    rw [l8, y8, z8] at X8
    obtain ⟨N8, eh8, hR8⟩ := hQ8
    have NA8 := Fr.app NA4 N8
    obtain rfl := hR8
    refine Goes.back st8 ?_
    show Goes _ _ _ _ _ _ _ (T8.setTop (mkF m 32 _ [(.long t3)]))
    refine Goes.step (fun _ k => XS.lloadN X8.here hx rfl (hb hby d20_32) rfl  k) ?_
    refine Goes.step (fun _ k => XS.lcmp X8.here hx rfl (hb hby d20_33) rfl k) ?_
    show Goes _ _ _ _ _ _ _ (T8.setTop (mkF m 34 _ [(.int (lcmpW t3 x1))]))
    by_cases c34_9 : t3 < x1
    · refine Goes.step (fun _ k => XS.ifYes X8.here hx rfl (pc0 := 34) (pc' := 44) rfl (hb hby d20_34) rfl ((if0 _ _).trans (tlt ((lw_lt _ _).mpr c34_9)).1) (by decide) (by decide) k) ?_
      show Goes _ _ _ _ _ _ _ (T8.setTop (mkF m 44 _ []))
      refine Goes.step (fun _ k => XS.iload X8.here hx rfl (hb hby d20_44) rfl  k) ?_
      refine Goes.step (fun _ k => XS.iconst X8.here hx rfl (hb hby d20_46) k) ?_
      refine Goes.step (fun _ k => XS.iadd X8.here hx rfl (hb hby d20_47) rfl k) ?_
      show Goes _ _ _ _ _ _ _ (T8.setTop (mkF m 48 _ [(.int (4 : Int32))]))
      refine Goes.step (fun _ k => XS.istoreN X8.here hx rfl (hb hby d20_48) rfl (l' := #[.val (.ref x0), .val (.long x1), .second, .val (.int (4 : Int32)), .val (.int (4 : Int32)), .val (.int (3 : Int32))]) rfl k) ?_
      show Goes _ _ _ _ _ _ _ (T8.setTop (mkF m 49 _ []))
      refine Goes.step (fun _ k => XS.goto X8.here hx rfl (pc0 := 49) (pc' := 8) rfl (hb hby d20_49) (by decide) (by decide) k) ?_
      show Goes _ _ _ _ _ _ _ (T8.setTop (mkF m 8 _ []))
      refine Goes.step (fun _ k => XS.iloadN X8.here hx rfl (hb hby d20_8) rfl  k) ?_
      refine Goes.step (fun _ k => XS.iload X8.here hx rfl (hb hby d20_9) rfl  k) ?_
      refine Goes.step (fun _ k => XS.icmpYes X8.here hx rfl (pc0 := 11) (pc' := 52) rfl (hb hby d20_11) rfl (flt (by decide : ¬ ((4 : Int32) < (4 : Int32)))).2.1 (by decide) (by decide) k) ?_
      show Goes _ _ _ _ _ _ _ (T8.setTop (mkF m 52 #[.val (.ref x0), .val (.long x1), .second, .val (.int (4 : Int32)), .val (.int (4 : Int32)), .val (.int (3 : Int32))] []))
      refine Goes.step (fun _ k => XS.iloadN X8.here hx rfl (hb hby d20_52) rfl  k) ?_
      exact Goes.ret X8 hx (BodyLoose.notSynchronized Bd) Bd.returns rfl (Or.inl ⟨rfl, by simp, _, rfl⟩) (hb hby d20_53) (by show Q20_4 Z x0 x1 f0_entries ke en0 en1 en2 en3 t0 t1 t2 t3 h0 n0 (some (.int (4 : Int32))) T8.heap _; rw [eh8]; exact ⟨NA8, rfl, Or.inl (⟨rfl, c34_5, c34_9⟩)⟩) (by decide) (by decide)
    · refine Goes.step (fun _ k => XS.ifNo X8.here hx rfl (hb hby d20_34) rfl ((if0 _ _).trans (flt (fun q => c34_9 ((lw_lt _ _).mp q))).1) k) ?_
      show Goes _ _ _ _ _ _ _ (T8.setTop (mkF m 37 _ []))
      refine Goes.step (fun _ k => XS.iload X8.here hx rfl (hb hby d20_37) rfl  k) ?_
      refine Goes.step (fun _ k => XS.istore X8.here hx rfl (hb hby d20_39) rfl (l' := #[.val (.ref x0), .val (.long x1), .second, .val (.int (3 : Int32)), .val (.int (3 : Int32)), .val (.int (3 : Int32))]) rfl k) ?_
      show Goes _ _ _ _ _ _ _ (T8.setTop (mkF m 41 _ []))
      refine Goes.step (fun _ k => XS.goto X8.here hx rfl (pc0 := 41) (pc' := 49) rfl (hb hby d20_41) (by decide) (by decide) k) ?_
      show Goes _ _ _ _ _ _ _ (T8.setTop (mkF m 49 _ []))
      refine Goes.step (fun _ k => XS.goto X8.here hx rfl (pc0 := 49) (pc' := 8) rfl (hb hby d20_49) (by decide) (by decide) k) ?_
      show Goes _ _ _ _ _ _ _ (T8.setTop (mkF m 8 _ []))
      refine Goes.step (fun _ k => XS.iloadN X8.here hx rfl (hb hby d20_8) rfl  k) ?_
      refine Goes.step (fun _ k => XS.iload X8.here hx rfl (hb hby d20_9) rfl  k) ?_
      refine Goes.step (fun _ k => XS.icmpYes X8.here hx rfl (pc0 := 11) (pc' := 52) rfl (hb hby d20_11) rfl (flt (by decide : ¬ ((3 : Int32) < (3 : Int32)))).2.1 (by decide) (by decide) k) ?_
      show Goes _ _ _ _ _ _ _ (T8.setTop (mkF m 52 #[.val (.ref x0), .val (.long x1), .second, .val (.int (3 : Int32)), .val (.int (3 : Int32)), .val (.int (3 : Int32))] []))
      refine Goes.step (fun _ k => XS.iloadN X8.here hx rfl (hb hby d20_52) rfl  k) ?_
      exact Goes.ret X8 hx (BodyLoose.notSynchronized Bd) Bd.returns rfl (Or.inl ⟨rfl, by simp, _, rfl⟩) (hb hby d20_53) (by show Q20_4 Z x0 x1 f0_entries ke en0 en1 en2 en3 t0 t1 t2 t3 h0 n0 (some (.int (3 : Int32))) T8.heap _; rw [eh8]; exact ⟨NA8, rfl, Or.inr (Or.inl (⟨rfl, c34_5, c34_9⟩))⟩) (by decide) (by decide)
  · refine Goes.step (fun _ k => XS.ifNo X4.here hx rfl (hb hby d20_34) rfl ((if0 _ _).trans (flt (fun q => c34_5 ((lw_lt _ _).mp q))).1) k) ?_
    show Goes _ _ _ _ _ _ _ (T4.setTop (mkF m 37 _ []))
    refine Goes.step (fun _ k => XS.iload X4.here hx rfl (hb hby d20_37) rfl  k) ?_
    refine Goes.step (fun _ k => XS.istore X4.here hx rfl (hb hby d20_39) rfl (l' := #[.val (.ref x0), .val (.long x1), .second, .val (.int (0 : Int32)), .val (.int (2 : Int32)), .val (.int (2 : Int32))]) rfl k) ?_
    show Goes _ _ _ _ _ _ _ (T4.setTop (mkF m 41 _ []))
    refine Goes.step (fun _ k => XS.goto X4.here hx rfl (pc0 := 41) (pc' := 49) rfl (hb hby d20_41) (by decide) (by decide) k) ?_
    show Goes _ _ _ _ _ _ _ (T4.setTop (mkF m 49 #[.val (.ref x0), .val (.long x1), .second, .val (.int (0 : Int32)), .val (.int (2 : Int32)), .val (.int (2 : Int32))] []))
    refine Goes.step (fun _ k => XS.goto X4.here hx rfl (pc0 := 49) (pc' := 8) rfl (hb hby d20_49) (by decide) (by decide) k) ?_
    show Goes _ _ _ _ _ _ _ (T4.setTop (mkF m 8 _ []))
    refine Goes.step (fun _ k => XS.iloadN X4.here hx rfl (hb hby d20_8) rfl  k) ?_
    refine Goes.step (fun _ k => XS.iload X4.here hx rfl (hb hby d20_9) rfl  k) ?_
    refine Goes.step (fun _ k => XS.icmpNo X4.here hx rfl (hb hby d20_11) rfl (tlt (by decide : (0 : Int32) < (2 : Int32))).2.1 k) ?_
    show Goes _ _ _ _ _ _ _ (T4.setTop (mkF m 14 _ []))
    refine Goes.step (fun _ k => XS.iloadN X4.here hx rfl (hb hby d20_14) rfl  k) ?_
    refine Goes.step (fun _ k => XS.iload X4.here hx rfl (hb hby d20_15) rfl  k) ?_
    refine Goes.step (fun _ k => XS.iadd X4.here hx rfl (hb hby d20_17) rfl k) ?_
    show Goes _ _ _ _ _ _ _ (T4.setTop (mkF m 18 _ [(.int (2 : Int32))]))
    refine Goes.step (fun _ k => XS.iconst X4.here hx rfl (hb hby d20_18) k) ?_
    refine Goes.step (fun _ k => XS.iushr X4.here hx rfl (hb hby d20_19) rfl k) ?_
    show Goes _ _ _ _ _ _ _ (T4.setTop (mkF m 20 _ [(.int (1 : Int32))]))
    refine Goes.step (fun _ k => XS.istore X4.here hx rfl (hb hby d20_20) rfl (l' := #[.val (.ref x0), .val (.long x1), .second, .val (.int (0 : Int32)), .val (.int (2 : Int32)), .val (.int (1 : Int32))]) rfl k) ?_
    show Goes _ _ _ _ _ _ _ (T4.setTop (mkF m 22 _ []))
    refine Goes.step (fun _ k => XS.aloadN X4.here hx rfl (hb hby d20_22) rfl rfl k) ?_
    obtain ⟨T10, X10, e10, st10⟩ := getF X4 hx hZ hown (host := "") (Or.inl w_17) Via.refl eh4 F0_entries (g := (mkF m 23 #[.val (.ref x0), .val (.long x1), .second, .val (.int (0 : Int32)), .val (.int (2 : Int32)), .val (.int (1 : Int32))] [(.ref x0)])) rfl rfl (hb hby d20_23)
    refine Goes.step st10 ?_
    show Goes _ _ _ _ _ _ _ (T10.setTop (mkF m 26 _ [(.ref f0_entries)]))
    refine Goes.step (fun _ k => XS.iload X10.here hx rfl (hb hby d20_26) rfl  k) ?_
    obtain ⟨cl11, Ar11, q11, S11, P11, H11, G11⟩ := id V_en
    have hin11 : ¬ ((1 : Int32) < 0 ∨ cl11.slots.size ≤ ((1 : Int32)).toNatClampNeg) := inb_of S11 ⟨by decide, by decide⟩
    have hat11 : cl11.slots[((1 : Int32)).toNatClampNeg]? = some (.ref en1) := H11 _ (by rw [S11]; decide)
    refine Goes.step (fun _ k => X10.aaload hx (j := (1 : Int32)) (v := (.ref en1)) (by rw [e10]; exact Ar11.1) (State.isArrayOf_alike hZ.alike Ar11.2.1) rfl Ar11.2.2 hin11 hat11 (g := (mkF m 28 #[.val (.ref x0), .val (.long x1), .second, .val (.int (0 : Int32)), .val (.int (2 : Int32)), .val (.int (1 : Int32))] [(.int (1 : Int32)), (.ref f0_entries)])) rfl rfl (hb hby d20_28) _ k) ?_
    show Goes _ _ _ _ _ _ _ (T10.setTop (mkF m 29 #[.val (.ref x0), .val (.long x1), .second, .val (.int (0 : Int32)), .val (.int (2 : Int32)), .val (.int (1 : Int32))] [(.ref en1)]))
    obtain ⟨cq12, kq12, q12a, q12b, q12c⟩ := isOf hZ e10 Ee1
    obtain ⟨_, _, ⟨T12, L12, k12, n12⟩, -, X12, ⟨Lc12, hQ12, l12, y12, z12⟩, st12⟩ := X10.virtualBack hx (y := (⟨"com/example/orbitloom/orbitloom/core/Timeline$Entry", "start", "()J"⟩ : MethodName)) (z := (⟨"com/example/orbitloom/orbitloom/core/Timeline$Entry", "start", "()J"⟩ : MethodName)) hown (mvT hZ w_150) (mvT hZ w_151) (notFace_of_selects (args := #[]) (mvT hZ w_153)) (mvT hZ w_153) (mvT hZ w_152) (by decide) (backOf (W := 0) (rm21 l Z a0 hw [] en1 t1 h0 n0 Z0 Fe1) hZ w_154 w_49 (by decide) (by decide)) q12a q12c (g := (mkF m 29 #[.val (.ref x0), .val (.long x1), .second, .val (.int (0 : Int32)), .val (.int (2 : Int32)), .val (.int (1 : Int32))] [(.ref en1)])) rfl (by rw [hml]; rfl) (Steps.refl _) (argsL := []) (rest := []) (lenOf pd_15 rfl) rfl (by show 2 * 0 + _ ≤ _; exact Nat.le_of_eq rfl) (hb hby d20_29) (fun _ _ => ⟨rfl, e10, (by decide : 0 + 0 ≤ _), (by decide : 0 + 0 ≤ _)⟩)
    dsimp only [Pt.U, Pt.locs, Pt.cells, Pt.slots] at X12 l12 y12 z12 st12 hQ12
    rw [l12, y12, z12] at X12
    obtain ⟨N12, eh12, hR12⟩ := hQ12
    have NA12 := Fr.app NA4 N12
    obtain rfl := hR12
    refine Goes.back st12 ?_
    show Goes _ _ _ _ _ _ _ (T12.setTop (mkF m 32 _ [(.long t1)]))
    refine Goes.step (fun _ k => XS.lloadN X12.here hx rfl (hb hby d20_32) rfl  k) ?_
    refine Goes.step (fun _ k => XS.lcmp X12.here hx rfl (hb hby d20_33) rfl k) ?_
    show Goes _ _ _ _ _ _ _ (T12.setTop (mkF m 34 _ [(.int (lcmpW t1 x1))]))
    by_cases c34_13 : t1 < x1
    · refine Goes.step (fun _ k => XS.ifYes X12.here hx rfl (pc0 := 34) (pc' := 44) rfl (hb hby d20_34) rfl ((if0 _ _).trans (tlt ((lw_lt _ _).mpr c34_13)).1) (by decide) (by decide) k) ?_
      show Goes _ _ _ _ _ _ _ (T12.setTop (mkF m 44 _ []))
      refine Goes.step (fun _ k => XS.iload X12.here hx rfl (hb hby d20_44) rfl  k) ?_
      refine Goes.step (fun _ k => XS.iconst X12.here hx rfl (hb hby d20_46) k) ?_
      refine Goes.step (fun _ k => XS.iadd X12.here hx rfl (hb hby d20_47) rfl k) ?_
      show Goes _ _ _ _ _ _ _ (T12.setTop (mkF m 48 _ [(.int (2 : Int32))]))
      refine Goes.step (fun _ k => XS.istoreN X12.here hx rfl (hb hby d20_48) rfl (l' := #[.val (.ref x0), .val (.long x1), .second, .val (.int (2 : Int32)), .val (.int (2 : Int32)), .val (.int (1 : Int32))]) rfl k) ?_
      show Goes _ _ _ _ _ _ _ (T12.setTop (mkF m 49 _ []))
      refine Goes.step (fun _ k => XS.goto X12.here hx rfl (pc0 := 49) (pc' := 8) rfl (hb hby d20_49) (by decide) (by decide) k) ?_
      show Goes _ _ _ _ _ _ _ (T12.setTop (mkF m 8 _ []))
      refine Goes.step (fun _ k => XS.iloadN X12.here hx rfl (hb hby d20_8) rfl  k) ?_
      refine Goes.step (fun _ k => XS.iload X12.here hx rfl (hb hby d20_9) rfl  k) ?_
      refine Goes.step (fun _ k => XS.icmpYes X12.here hx rfl (pc0 := 11) (pc' := 52) rfl (hb hby d20_11) rfl (flt (by decide : ¬ ((2 : Int32) < (2 : Int32)))).2.1 (by decide) (by decide) k) ?_
      show Goes _ _ _ _ _ _ _ (T12.setTop (mkF m 52 #[.val (.ref x0), .val (.long x1), .second, .val (.int (2 : Int32)), .val (.int (2 : Int32)), .val (.int (1 : Int32))] []))
      refine Goes.step (fun _ k => XS.iloadN X12.here hx rfl (hb hby d20_52) rfl  k) ?_
      exact Goes.ret X12 hx (BodyLoose.notSynchronized Bd) Bd.returns rfl (Or.inl ⟨rfl, by simp, _, rfl⟩) (hb hby d20_53) (by show Q20_4 Z x0 x1 f0_entries ke en0 en1 en2 en3 t0 t1 t2 t3 h0 n0 (some (.int (2 : Int32))) T12.heap _; rw [eh12]; exact ⟨NA12, rfl, Or.inr (Or.inr (Or.inl (⟨rfl, c34_5, c34_13⟩)))⟩) (by decide) (by decide)
    · refine Goes.step (fun _ k => XS.ifNo X12.here hx rfl (hb hby d20_34) rfl ((if0 _ _).trans (flt (fun q => c34_13 ((lw_lt _ _).mp q))).1) k) ?_
      show Goes _ _ _ _ _ _ _ (T12.setTop (mkF m 37 _ []))
      refine Goes.step (fun _ k => XS.iload X12.here hx rfl (hb hby d20_37) rfl  k) ?_
      refine Goes.step (fun _ k => XS.istore X12.here hx rfl (hb hby d20_39) rfl (l' := #[.val (.ref x0), .val (.long x1), .second, .val (.int (0 : Int32)), .val (.int (1 : Int32)), .val (.int (1 : Int32))]) rfl k) ?_
      show Goes _ _ _ _ _ _ _ (T12.setTop (mkF m 41 _ []))
      refine Goes.step (fun _ k => XS.goto X12.here hx rfl (pc0 := 41) (pc' := 49) rfl (hb hby d20_41) (by decide) (by decide) k) ?_
      show Goes _ _ _ _ _ _ _ (T12.setTop (mkF m 49 _ []))
      refine Goes.step (fun _ k => XS.goto X12.here hx rfl (pc0 := 49) (pc' := 8) rfl (hb hby d20_49) (by decide) (by decide) k) ?_
      show Goes _ _ _ _ _ _ _ (T12.setTop (mkF m 8 _ []))
      refine Goes.step (fun _ k => XS.iloadN X12.here hx rfl (hb hby d20_8) rfl  k) ?_
      refine Goes.step (fun _ k => XS.iload X12.here hx rfl (hb hby d20_9) rfl  k) ?_
      refine Goes.step (fun _ k => XS.icmpNo X12.here hx rfl (hb hby d20_11) rfl (tlt (by decide : (0 : Int32) < (1 : Int32))).2.1 k) ?_
      show Goes _ _ _ _ _ _ _ (T12.setTop (mkF m 14 #[.val (.ref x0), .val (.long x1), .second, .val (.int (0 : Int32)), .val (.int (1 : Int32)), .val (.int (1 : Int32))] []))
      refine Goes.step (fun _ k => XS.iloadN X12.here hx rfl (hb hby d20_14) rfl  k) ?_
      refine Goes.step (fun _ k => XS.iload X12.here hx rfl (hb hby d20_15) rfl  k) ?_
      refine Goes.step (fun _ k => XS.iadd X12.here hx rfl (hb hby d20_17) rfl k) ?_
      show Goes _ _ _ _ _ _ _ (T12.setTop (mkF m 18 _ [(.int (1 : Int32))]))
      refine Goes.step (fun _ k => XS.iconst X12.here hx rfl (hb hby d20_18) k) ?_
      refine Goes.step (fun _ k => XS.iushr X12.here hx rfl (hb hby d20_19) rfl k) ?_
      show Goes _ _ _ _ _ _ _ (T12.setTop (mkF m 20 _ [(.int (0 : Int32))]))
      refine Goes.step (fun _ k => XS.istore X12.here hx rfl (hb hby d20_20) rfl (l' := #[.val (.ref x0), .val (.long x1), .second, .val (.int (0 : Int32)), .val (.int (1 : Int32)), .val (.int (0 : Int32))]) rfl k) ?_
      show Goes _ _ _ _ _ _ _ (T12.setTop (mkF m 22 _ []))
      refine Goes.step (fun _ k => XS.aloadN X12.here hx rfl (hb hby d20_22) rfl rfl k) ?_
      obtain ⟨T14, X14, e14, st14⟩ := getF X12 hx hZ hown (host := "") (Or.inl w_17) Via.refl eh12 F0_entries (g := (mkF m 23 #[.val (.ref x0), .val (.long x1), .second, .val (.int (0 : Int32)), .val (.int (1 : Int32)), .val (.int (0 : Int32))] [(.ref x0)])) rfl rfl (hb hby d20_23)
      refine Goes.step st14 ?_
      show Goes _ _ _ _ _ _ _ (T14.setTop (mkF m 26 _ [(.ref f0_entries)]))
      refine Goes.step (fun _ k => XS.iload X14.here hx rfl (hb hby d20_26) rfl  k) ?_
      obtain ⟨cl15, Ar15, q15, S15, P15, H15, G15⟩ := id V_en
      have hin15 : ¬ ((0 : Int32) < 0 ∨ cl15.slots.size ≤ ((0 : Int32)).toNatClampNeg) := inb_of S15 ⟨by decide, by decide⟩
      have hat15 : cl15.slots[((0 : Int32)).toNatClampNeg]? = some (.ref en0) := H15 _ (by rw [S15]; decide)
      refine Goes.step (fun _ k => X14.aaload hx (j := (0 : Int32)) (v := (.ref en0)) (by rw [e14]; exact Ar15.1) (State.isArrayOf_alike hZ.alike Ar15.2.1) rfl Ar15.2.2 hin15 hat15 (g := (mkF m 28 #[.val (.ref x0), .val (.long x1), .second, .val (.int (0 : Int32)), .val (.int (1 : Int32)), .val (.int (0 : Int32))] [(.int (0 : Int32)), (.ref f0_entries)])) rfl rfl (hb hby d20_28) _ k) ?_
      show Goes _ _ _ _ _ _ _ (T14.setTop (mkF m 29 _ [(.ref en0)]))
      obtain ⟨cq16, kq16, q16a, q16b, q16c⟩ := isOf hZ e14 Ee0
      obtain ⟨_, _, ⟨T16, L16, k16, n16⟩, -, X16, ⟨Lc16, hQ16, l16, y16, z16⟩, st16⟩ := X14.virtualBack hx (y := (⟨"com/example/orbitloom/orbitloom/core/Timeline$Entry", "start", "()J"⟩ : MethodName)) (z := (⟨"com/example/orbitloom/orbitloom/core/Timeline$Entry", "start", "()J"⟩ : MethodName)) hown (mvT hZ w_150) (mvT hZ w_151) (notFace_of_selects (args := #[]) (mvT hZ w_153)) (mvT hZ w_153) (mvT hZ w_152) (by decide) (backOf (W := 0) (rm21 l Z a0 hw [] en0 t0 h0 n0 Z0 Fe0) hZ w_154 w_49 (by decide) (by decide)) q16a q16c (g := (mkF m 29 #[.val (.ref x0), .val (.long x1), .second, .val (.int (0 : Int32)), .val (.int (1 : Int32)), .val (.int (0 : Int32))] [(.ref en0)])) rfl (by rw [hml]; rfl) (Steps.refl _) (argsL := []) (rest := []) (lenOf pd_15 rfl) rfl (by show 2 * 0 + _ ≤ _; exact Nat.le_of_eq rfl) (hb hby d20_29) (fun _ _ => ⟨rfl, e14, (by decide : 0 + 0 ≤ _), (by decide : 0 + 0 ≤ _)⟩)
      dsimp only [Pt.U, Pt.locs, Pt.cells, Pt.slots] at X16 l16 y16 z16 st16 hQ16
      rw [l16, y16, z16] at X16
      obtain ⟨N16, eh16, hR16⟩ := hQ16
      have NA16 := Fr.app NA12 N16
      obtain rfl := hR16
      refine Goes.back st16 ?_
      show Goes _ _ _ _ _ _ _ (T16.setTop (mkF m 32 _ [(.long t0)]))
      refine Goes.step (fun _ k => XS.lloadN X16.here hx rfl (hb hby d20_32) rfl  k) ?_
      refine Goes.step (fun _ k => XS.lcmp X16.here hx rfl (hb hby d20_33) rfl k) ?_
      show Goes _ _ _ _ _ _ _ (T16.setTop (mkF m 34 #[.val (.ref x0), .val (.long x1), .second, .val (.int (0 : Int32)), .val (.int (1 : Int32)), .val (.int (0 : Int32))] [(.int (lcmpW t0 x1))]))
      by_cases c34_17 : t0 < x1
      · refine Goes.step (fun _ k => XS.ifYes X16.here hx rfl (pc0 := 34) (pc' := 44) rfl (hb hby d20_34) rfl ((if0 _ _).trans (tlt ((lw_lt _ _).mpr c34_17)).1) (by decide) (by decide) k) ?_
        show Goes _ _ _ _ _ _ _ (T16.setTop (mkF m 44 _ []))
        refine Goes.step (fun _ k => XS.iload X16.here hx rfl (hb hby d20_44) rfl  k) ?_
        refine Goes.step (fun _ k => XS.iconst X16.here hx rfl (hb hby d20_46) k) ?_
        refine Goes.step (fun _ k => XS.iadd X16.here hx rfl (hb hby d20_47) rfl k) ?_
        show Goes _ _ _ _ _ _ _ (T16.setTop (mkF m 48 _ [(.int (1 : Int32))]))
        refine Goes.step (fun _ k => XS.istoreN X16.here hx rfl (hb hby d20_48) rfl (l' := #[.val (.ref x0), .val (.long x1), .second, .val (.int (1 : Int32)), .val (.int (1 : Int32)), .val (.int (0 : Int32))]) rfl k) ?_
        show Goes _ _ _ _ _ _ _ (T16.setTop (mkF m 49 _ []))
        refine Goes.step (fun _ k => XS.goto X16.here hx rfl (pc0 := 49) (pc' := 8) rfl (hb hby d20_49) (by decide) (by decide) k) ?_
        show Goes _ _ _ _ _ _ _ (T16.setTop (mkF m 8 _ []))
        refine Goes.step (fun _ k => XS.iloadN X16.here hx rfl (hb hby d20_8) rfl  k) ?_
        refine Goes.step (fun _ k => XS.iload X16.here hx rfl (hb hby d20_9) rfl  k) ?_
        refine Goes.step (fun _ k => XS.icmpYes X16.here hx rfl (pc0 := 11) (pc' := 52) rfl (hb hby d20_11) rfl (flt (by decide : ¬ ((1 : Int32) < (1 : Int32)))).2.1 (by decide) (by decide) k) ?_
        show Goes _ _ _ _ _ _ _ (T16.setTop (mkF m 52 _ []))
        refine Goes.step (fun _ k => XS.iloadN X16.here hx rfl (hb hby d20_52) rfl  k) ?_
        exact Goes.ret X16 hx (BodyLoose.notSynchronized Bd) Bd.returns rfl (Or.inl ⟨rfl, by simp, _, rfl⟩) (hb hby d20_53) (by show Q20_4 Z x0 x1 f0_entries ke en0 en1 en2 en3 t0 t1 t2 t3 h0 n0 (some (.int (1 : Int32))) T16.heap _; rw [eh16]; exact ⟨NA16, rfl, Or.inr (Or.inr (Or.inr (Or.inl (⟨rfl, c34_5, c34_13, c34_17⟩))))⟩) (by decide) (by decide)
      · refine Goes.step (fun _ k => XS.ifNo X16.here hx rfl (hb hby d20_34) rfl ((if0 _ _).trans (flt (fun q => c34_17 ((lw_lt _ _).mp q))).1) k) ?_
        show Goes _ _ _ _ _ _ _ (T16.setTop (mkF m 37 _ []))
        refine Goes.step (fun _ k => XS.iload X16.here hx rfl (hb hby d20_37) rfl  k) ?_
        refine Goes.step (fun _ k => XS.istore X16.here hx rfl (hb hby d20_39) rfl (l' := #[.val (.ref x0), .val (.long x1), .second, .val (.int (0 : Int32)), .val (.int (0 : Int32)), .val (.int (0 : Int32))]) rfl k) ?_
        show Goes _ _ _ _ _ _ _ (T16.setTop (mkF m 41 _ []))
        refine Goes.step (fun _ k => XS.goto X16.here hx rfl (pc0 := 41) (pc' := 49) rfl (hb hby d20_41) (by decide) (by decide) k) ?_
        show Goes _ _ _ _ _ _ _ (T16.setTop (mkF m 49 _ []))
        refine Goes.step (fun _ k => XS.goto X16.here hx rfl (pc0 := 49) (pc' := 8) rfl (hb hby d20_49) (by decide) (by decide) k) ?_
        show Goes _ _ _ _ _ _ _ (T16.setTop (mkF m 8 _ []))
        refine Goes.step (fun _ k => XS.iloadN X16.here hx rfl (hb hby d20_8) rfl  k) ?_
        refine Goes.step (fun _ k => XS.iload X16.here hx rfl (hb hby d20_9) rfl  k) ?_
        refine Goes.step (fun _ k => XS.icmpYes X16.here hx rfl (pc0 := 11) (pc' := 52) rfl (hb hby d20_11) rfl (flt (by decide : ¬ ((0 : Int32) < (0 : Int32)))).2.1 (by decide) (by decide) k) ?_
        show Goes _ _ _ _ _ _ _ (T16.setTop (mkF m 52 _ []))
        refine Goes.step (fun _ k => XS.iloadN X16.here hx rfl (hb hby d20_52) rfl  k) ?_
        exact Goes.ret X16 hx (BodyLoose.notSynchronized Bd) Bd.returns rfl (Or.inl ⟨rfl, by simp, _, rfl⟩) (hb hby d20_53) (by show Q20_4 Z x0 x1 f0_entries ke en0 en1 en2 en3 t0 t1 t2 t3 h0 n0 (some (.int (0 : Int32))) T16.heap _; rw [eh16]; exact ⟨NA16, rfl, Or.inr (Or.inr (Or.inr (Or.inr (⟨rfl, c34_5, c34_13, c34_17⟩))))⟩) (by decide) (by decide)
theorem pn_0 : plainName "com/example/orbitloom/orbitloom/core/TimelineFirstStartingFromPinLaw" = true := by first | (simp [plainName, overriddenIn]; done) | decide +kernel
theorem ef_0 (m : MethodId) (p0 : Int64) (p1 : Int64) (p2 : Int64) (p3 : Int64) (p4 : Int64) (p5 : Int32) (de : Addr) (kde : ClassId) (ee : Addr) (mr : Addr)  : entryFrame m #[(.long p0), (.long p1), (.long p2), (.long p3), (.long p4), (.int p5)] maxLocals = mkF m 0 #[.val (.long p0), .second, .val (.long p1), .second, .val (.long p2), .second, .val (.long p3), .second, .val (.long p4), .second, .val (.int p5), .unset, .unset, .unset, .unset, .unset, .unset, .unset, .unset, .unset, .unset, .unset, .unset, .unset] [] := by first | (simp [entryFrame, mkF, argsToLocals, Value.category, maxLocals]; done) | rfl
theorem pd_0 : parseMethodDescriptor "(JJ)J" = some ⟨[.long, .long], some .long⟩ := by decide +kernel
theorem pd_14 : parseMethodDescriptor "(J)I" = some ⟨[.long], some .int⟩ := by decide +kernel
theorem pd_2 : parseMethodDescriptor "(JJLcom/example/orbitloom/orbitloom/core/Attitude;I)V" = some ⟨[.long, .long, (.object "com/example/orbitloom/orbitloom/core/Attitude"), .int], none⟩ := by decide +kernel
theorem pd_3 : parseMethodDescriptor "(Lcom/example/orbitloom/orbitloom/core/Timeline$Entry;Ljava/util/List;)V" = some ⟨[(.object "com/example/orbitloom/orbitloom/core/Timeline$Entry"), (.object "java/util/List")], none⟩ := by decide +kernel
def Q0 (Z : State) (p0 : Int64) (p1 : Int64) (p2 : Int64) (p3 : Int64) (p4 : Int64) (p5 : Int32) (de : Addr) (kde : ClassId) (ee : Addr) (mr : Addr) (h0 : Heap) (n0 : Nat) (v : Option Value) (h : Heap) (L : List Loc) : Prop := v = some (.int 1) ∧ Fr n0 L
set_option maxRecDepth 65536 in
set_option maxHeartbeats 40000000 in
theorem rm0 (l : Launch) (Z : State) (a0 : Array Value) (hw : ∀ d ∈ tables_1, d.before a0 Z = true) (ws : List Jvm.Cond) (p0 : Int64) (p1 : Int64) (p2 : Int64) (p3 : Int64) (p4 : Int64) (p5 : Int32) (de : Addr) (kde : ClassId) (ee : Addr) (mr : Addr) (h0 : Heap) (n0 : Nat) (Z0 : n0 ≤ h0.size) (S_DE : Sta Z Z.heap "java/util/ArrayList" "DEFAULTCAPACITY_EMPTY_ELEMENTDATA" "[Ljava/lang/Object;" (.ref de)) (S_EE : Sta Z Z.heap "java/util/ArrayList" "EMPTY_ELEMENTDATA" "[Ljava/lang/Object;" (.ref ee)) (V_de0 : Arx Z Z.heap de kde (.object "java/lang/Object") (0 : Int32)) (E_de0 : Exa Z Z.heap de "[Ljava/lang/Object;") (MR : MirO Z "[Ljava/lang/Object;" mr) (X00 : Old Z n0 h0) :
    MetFree l x (head1 (Jvm.Cond.code x code maxLocals ret :: ws) room_1) (fun a U => a = #[(.long p0), (.long p1), (.long p2), (.long p3), (.long p4), (.int p5)] ∧ Z.Warmed39 U.vm ∧ U.heap = h0) (fun _ _ _ _ _ => True) (fun _ U o U' => ∃ v L, o = .returned v ∧ Q0 Z p0 p1 p2 p3 p4 p5 de kde ee mr h0 n0 v U'.heap L ∧ FrameEnd U o U' L room_1.cells room_1.slots) := by
  refine MetFree.of_bodySF (plainFor_of_name pn_0) hisR ?_
  intro p e s m args below meth c s₁ Bd hml0 hP hK
  obtain ⟨rfl, hZ, hh⟩ := hP
  have w_0 := hw _ (List.mem_of_getElem? (i := 0) rfl)
  have w_1 := hw _ (List.mem_of_getElem? (i := 1) rfl)
  have w_2 := hw _ (List.mem_of_getElem? (i := 2) rfl)
  have w_3 := hw _ (List.mem_of_getElem? (i := 3) rfl)
  have w_4 := hw _ (List.mem_of_getElem? (i := 4) rfl)
  have w_6 := hw _ (List.mem_of_getElem? (i := 6) rfl)
  have w_7 := hw _ (List.mem_of_getElem? (i := 7) rfl)
  have w_8 := hw _ (List.mem_of_getElem? (i := 8) rfl)
  have w_9 := hw _ (List.mem_of_getElem? (i := 9) rfl)
  have w_10 := hw _ (List.mem_of_getElem? (i := 10) rfl)
  have w_11 := hw _ (List.mem_of_getElem? (i := 11) rfl)
  have w_18 := hw _ (List.mem_of_getElem? (i := 18) rfl)
  have w_20 := hw _ (List.mem_of_getElem? (i := 20) rfl)
  have w_21 := hw _ (List.mem_of_getElem? (i := 21) rfl)
  have w_23 := hw _ (List.mem_of_getElem? (i := 23) rfl)
  have w_24 := hw _ (List.mem_of_getElem? (i := 24) rfl)
  have w_39 := hw _ (List.mem_of_getElem? (i := 39) rfl)
  have w_42 := hw _ (List.mem_of_getElem? (i := 42) rfl)
  have w_44 := hw _ (List.mem_of_getElem? (i := 44) rfl)
  have w_45 := hw _ (List.mem_of_getElem? (i := 45) rfl)
  have w_46 := hw _ (List.mem_of_getElem? (i := 46) rfl)
  have w_47 := hw _ (List.mem_of_getElem? (i := 47) rfl)
  have w_48 := hw _ (List.mem_of_getElem? (i := 48) rfl)
  have w_49 := hw _ (List.mem_of_getElem? (i := 49) rfl)
  have w_50 := hw _ (List.mem_of_getElem? (i := 50) rfl)
  have w_51 := hw _ (List.mem_of_getElem? (i := 51) rfl)
  have w_52 := hw _ (List.mem_of_getElem? (i := 52) rfl)
  have w_60 := hw _ (List.mem_of_getElem? (i := 60) rfl)
  have w_62 := hw _ (List.mem_of_getElem? (i := 62) rfl)
  have w_64 := hw _ (List.mem_of_getElem? (i := 64) rfl)
  have w_66 := hw _ (List.mem_of_getElem? (i := 66) rfl)
  have w_67 := hw _ (List.mem_of_getElem? (i := 67) rfl)
  have w_68 := hw _ (List.mem_of_getElem? (i := 68) rfl)
  have w_69 := hw _ (List.mem_of_getElem? (i := 69) rfl)
  have w_70 := hw _ (List.mem_of_getElem? (i := 70) rfl)
  have w_71 := hw _ (List.mem_of_getElem? (i := 71) rfl)
  have w_73 := hw _ (List.mem_of_getElem? (i := 73) rfl)
  have w_88 := hw _ (List.mem_of_getElem? (i := 88) rfl)
  have w_145 := hw _ (List.mem_of_getElem? (i := 145) rfl)
  have w_146 := hw _ (List.mem_of_getElem? (i := 146) rfl)
  have w_147 := hw _ (List.mem_of_getElem? (i := 147) rfl)
  have w_148 := hw _ (List.mem_of_getElem? (i := 148) rfl)
  have w_149 := hw _ (List.mem_of_getElem? (i := 149) rfl)
  have hx := Bd.exec
  have hby := Bd.bytes
  have hml : c.maxLocals = 24 := hml0
  have hown : s.vm.findClass "com/example/orbitloom/orbitloom/core/TimelineFirstStartingFromPinLaw" = some m.cls := findClass_of_methodNamed Bd.named
  have hnm := (name_of_methodNamed Bd.named Bd.method).1
  have X0 : Stand p l e room_1 s m #[(.long p0), (.long p1), (.long p2), (.long p3), (.long p4), (.int p5)] below meth c s₁ [] 0 0 := Stand.of_body Bd
  have e0 : s₁.heap = h0 := by rw [← hh, Bd.state]; rfl
  have N0 := Fr.nil n0
  have K0 : Keep h0 h0 [] := Keep.refl h0 _
  refine (?_ : Goes p e below s room_1.cells room_1.slots (fun v h L => Q0 Z p0 p1 p2 p3 p4 p5 de kde ee mr h0 n0 v h L) (s₁.setTop (entryFrame m #[(.long p0), (.long p1), (.long p2), (.long p3), (.long p4), (.int p5)] maxLocals)))
  rw [ef_0 m p0 p1 p2 p3 p4 p5 de kde ee mr ]
  have V_de := V_de0.ext X00.2
  have E_de := E_de0.ext X00.2
  show Goes _ _ _ _ _ _ _ (s₁.setTop (mkF m 0 #[.val (.long p0), .second, .val (.long p1), .second, .val (.long p2), .second, .val (.long p3), .second, .val (.long p4), .second, .val (.int p5), .unset, .unset, .unset, .unset, .unset, .unset, .unset, .unset, .unset, .unset, .unset, .unset, .unset] []))
  refine Goes.step (fun _ k => XS.iload X0.here hx rfl (hb hby at_0) rfl  k) ?_
  refine Goes.step (fun _ k => X0.ldcInt hx hown (mvT hZ w_0) (g := (mkF m 2 #[.val (.long p0), .second, .val (.long p1), .second, .val (.long p2), .second, .val (.long p3), .second, .val (.long p4), .second, .val (.int p5), .unset, .unset, .unset, .unset, .unset, .unset, .unset, .unset, .unset, .unset, .unset, .unset, .unset] [(.int p5)])) rfl (hb hby at_2) _ k) ?_
  refine Goes.step (fun _ k => XS.iand X0.here hx rfl (hb hby at_4) rfl k) ?_
  show Goes _ _ _ _ _ _ _ (s₁.setTop (mkF m 5 _ [(.int (p5 &&& (2147483647 : Int32)))]))
  refine Goes.step (fun _ k => XS.iconst X0.here hx rfl (hb hby at_5) k) ?_
  refine Goes.step (fun _ k => iremM X0 hx rfl (hb hby at_6) rfl (by decide) k) ?_
  show Goes _ _ _ _ _ _ _ (s₁.setTop (mkF m 7 _ [(.int ((p5 &&& (2147483647 : Int32)) % (5 : Int32)))]))
  refine Goes.step (fun _ k => XS.istore X0.here hx rfl (hb hby at_7) rfl (l' := #[.val (.long p0), .second, .val (.long p1), .second, .val (.long p2), .second, .val (.long p3), .second, .val (.long p4), .second, .val (.int p5), .val (.int ((p5 &&& (2147483647 : Int32)) % (5 : Int32))), .unset, .unset, .unset, .unset, .unset, .unset, .unset, .unset, .unset, .unset, .unset, .unset]) rfl k) ?_
  show Goes _ _ _ _ _ _ _ (s₁.setTop (mkF m 9 _ []))
  show Goes _ _ _ _ _ _ _ (s₁.setTop (mkF m 9 #[.val (.long p0), .second, .val (.long p1), .second, .val (.long p2), .second, .val (.long p3), .second, .val (.long p4), .second, .val (.int p5), .val (.int ((p5 &&& (2147483647 : Int32)) % (5 : Int32))), .unset, .unset, .unset, .unset, .unset, .unset, .unset, .unset, .unset, .unset, .unset, .unset] []))
  generalize hg_n11 : ((p5 &&& (2147483647 : Int32)) % (5 : Int32)) = n11
  show Goes _ _ _ _ _ _ _ (s₁.setTop (mkF m 9 #[.val (.long p0), .second, .val (.long p1), .second, .val (.long p2), .second, .val (.long p3), .second, .val (.long p4), .second, .val (.int p5), .val (.int n11), .unset, .unset, .unset, .unset, .unset, .unset, .unset, .unset, .unset, .unset, .unset, .unset] []))
  rcases own_five hg_n11 with rfl | rfl | rfl | rfl | rfl
  · show Goes _ _ _ _ _ _ _ (s₁.setTop (mkF m 9 #[.val (.long p0), .second, .val (.long p1), .second, .val (.long p2), .second, .val (.long p3), .second, .val (.long p4), .second, .val (.int p5), .val (.int (0 : Int32)), .unset, .unset, .unset, .unset, .unset, .unset, .unset, .unset, .unset, .unset, .unset, .unset] []))
    refine Goes.step (fun _ k => XS.lloadN X0.here hx rfl (hb hby at_9) rfl  k) ?_
    refine Goes.step (fun _ k => XS.lstore X0.here hx rfl (hb hby at_10) rfl (l' := #[.val (.long p0), .second, .val (.long p1), .second, .val (.long p2), .second, .val (.long p3), .second, .val (.long p4), .second, .val (.int p5), .val (.int (0 : Int32)), .val (.long p0), .second, .unset, .unset, .unset, .unset, .unset, .unset, .unset, .unset, .unset, .unset]) rfl k) ?_
    show Goes _ _ _ _ _ _ _ (s₁.setTop (mkF m 12 _ []))
    refine Goes.step (fun _ k => XS.lload X0.here hx rfl (hb hby at_12) rfl  k) ?_
    refine Goes.step (fun _ k => XS.lloadN X0.here hx rfl (hb hby at_14) rfl  k) ?_
    obtain ⟨_, _, ⟨T1, L1, k1, n1⟩, -, X1, ⟨Lc1, hQ1, l1, y1, z1⟩, st1⟩ := Jvm.LawKit.callS X0 hx (y := (⟨"com/example/orbitloom/orbitloom/core/TimelineFirstStartingFromPinLaw", "step", "(JJ)J"⟩ : MethodName)) hown (mvT hZ w_1) (mvT hZ w_2) (mvT hZ w_3) (mvT hZ w_4) (by decide) (backOf (W := 0) (rm1 l Z a0 hw [] p0 p1 h0 n0 Z0) hZ w_4 w_3 (by decide) (by decide)) (g := (mkF m 15 #[.val (.long p0), .second, .val (.long p1), .second, .val (.long p2), .second, .val (.long p3), .second, .val (.long p4), .second, .val (.int p5), .val (.int (0 : Int32)), .val (.long p0), .second, .unset, .unset, .unset, .unset, .unset, .unset, .unset, .unset, .unset, .unset] [(.long p1), (.long p0)])) rfl (by rw [hml]; rfl) (argsL := [(.long p0), (.long p1)]) (rest := []) (lenOf pd_0 rfl) rfl (by show 2 * 0 + _ ≤ _; exact Nat.le_of_eq rfl) (hb hby at_15) (fun _ _ => ⟨rfl, e0, (by decide : 0 + 0 ≤ _), (by decide : 0 + 0 ≤ _)⟩)
    dsimp only [Pt.U, Pt.locs, Pt.cells, Pt.slots] at X1 l1 y1 z1 st1 hQ1
    rw [l1, y1, z1] at X1
    obtain ⟨N1, eh1, r1, rfl, mo1⟩ := hQ1
    have NA1 := Fr.app N0 N1
    refine Goes.step st1 ?_
    show Goes _ _ _ _ _ _ _ (T1.setTop (mkF m 18 _ [(.long r1)]))
    refine Goes.step (fun _ k => XS.lstore X1.here hx rfl (hb hby at_18) rfl (l' := #[.val (.long p0), .second, .val (.long p1), .second, .val (.long p2), .second, .val (.long p3), .second, .val (.long p4), .second, .val (.int p5), .val (.int (0 : Int32)), .val (.long p0), .second, .val (.long r1), .second, .unset, .unset, .unset, .unset, .unset, .unset, .unset, .unset]) rfl k) ?_
    show Goes _ _ _ _ _ _ _ (T1.setTop (mkF m 20 _ []))
    refine Goes.step (fun _ k => XS.lload X1.here hx rfl (hb hby at_20) rfl  k) ?_
    refine Goes.step (fun _ k => XS.lload X1.here hx rfl (hb hby at_22) rfl  k) ?_
    obtain ⟨_, _, ⟨T2, L2, k2, n2⟩, -, X2, ⟨Lc2, hQ2, l2, y2, z2⟩, st2⟩ := Jvm.LawKit.callS X1 hx (y := (⟨"com/example/orbitloom/orbitloom/core/TimelineFirstStartingFromPinLaw", "step", "(JJ)J"⟩ : MethodName)) hown (mvT hZ w_1) (mvT hZ w_2) (mvT hZ w_3) (mvT hZ w_4) (by decide) (backOf (W := 0) (rm1 l Z a0 hw [] r1 p2 h0 n0 Z0) hZ w_4 w_3 (by decide) (by decide)) (g := (mkF m 24 #[.val (.long p0), .second, .val (.long p1), .second, .val (.long p2), .second, .val (.long p3), .second, .val (.long p4), .second, .val (.int p5), .val (.int (0 : Int32)), .val (.long p0), .second, .val (.long r1), .second, .unset, .unset, .unset, .unset, .unset, .unset, .unset, .unset] [(.long p2), (.long r1)])) rfl (by rw [hml]; rfl) (argsL := [(.long r1), (.long p2)]) (rest := []) (lenOf pd_0 rfl) rfl (by show 2 * 0 + _ ≤ _; exact Nat.le_of_eq rfl) (hb hby at_24) (fun _ _ => ⟨rfl, eh1, (by decide : 0 + 0 ≤ _), (by decide : 0 + 0 ≤ _)⟩)
    dsimp only [Pt.U, Pt.locs, Pt.cells, Pt.slots] at X2 l2 y2 z2 st2 hQ2
    rw [l2, y2, z2] at X2
    obtain ⟨N2, eh2, r2, rfl, mo2⟩ := hQ2
    have NA2 := Fr.app NA1 N2
    refine Goes.step st2 ?_
    show Goes _ _ _ _ _ _ _ (T2.setTop (mkF m 27 _ [(.long r2)]))
    refine Goes.step (fun _ k => XS.lstore X2.here hx rfl (hb hby at_27) rfl (l' := #[.val (.long p0), .second, .val (.long p1), .second, .val (.long p2), .second, .val (.long p3), .second, .val (.long p4), .second, .val (.int p5), .val (.int (0 : Int32)), .val (.long p0), .second, .val (.long r1), .second, .val (.long r2), .second, .unset, .unset, .unset, .unset, .unset, .unset]) rfl k) ?_
    show Goes _ _ _ _ _ _ _ (T2.setTop (mkF m 29 _ []))
    refine Goes.step (fun _ k => XS.lload X2.here hx rfl (hb hby at_29) rfl  k) ?_
    refine Goes.step (fun _ k => XS.lload X2.here hx rfl (hb hby at_31) rfl  k) ?_
    obtain ⟨_, _, ⟨T3, L3, k3, n3⟩, -, X3, ⟨Lc3, hQ3, l3, y3, z3⟩, st3⟩ := Jvm.LawKit.callS X2 hx (y := (⟨"com/example/orbitloom/orbitloom/core/TimelineFirstStartingFromPinLaw", "step", "(JJ)J"⟩ : MethodName)) hown (mvT hZ w_1) (mvT hZ w_2) (mvT hZ w_3) (mvT hZ w_4) (by decide) (backOf (W := 0) (rm1 l Z a0 hw [] r2 p3 h0 n0 Z0) hZ w_4 w_3 (by decide) (by decide)) (g := (mkF m 33 #[.val (.long p0), .second, .val (.long p1), .second, .val (.long p2), .second, .val (.long p3), .second, .val (.long p4), .second, .val (.int p5), .val (.int (0 : Int32)), .val (.long p0), .second, .val (.long r1), .second, .val (.long r2), .second, .unset, .unset, .unset, .unset, .unset, .unset] [(.long p3), (.long r2)])) rfl (by rw [hml]; rfl) (argsL := [(.long r2), (.long p3)]) (rest := []) (lenOf pd_0 rfl) rfl (by show 2 * 0 + _ ≤ _; exact Nat.le_of_eq rfl) (hb hby at_33) (fun _ _ => ⟨rfl, eh2, (by decide : 0 + 0 ≤ _), (by decide : 0 + 0 ≤ _)⟩)
    dsimp only [Pt.U, Pt.locs, Pt.cells, Pt.slots] at X3 l3 y3 z3 st3 hQ3
    rw [l3, y3, z3] at X3
    obtain ⟨N3, eh3, r3, rfl, mo3⟩ := hQ3
    have NA3 := Fr.app NA2 N3
    refine Goes.step st3 ?_
    show Goes _ _ _ _ _ _ _ (T3.setTop (mkF m 36 _ [(.long r3)]))
    refine Goes.step (fun _ k => XS.lstore X3.here hx rfl (hb hby at_36) rfl (l' := #[.val (.long p0), .second, .val (.long p1), .second, .val (.long p2), .second, .val (.long p3), .second, .val (.long p4), .second, .val (.int p5), .val (.int (0 : Int32)), .val (.long p0), .second, .val (.long r1), .second, .val (.long r2), .second, .val (.long r3), .second, .unset, .unset, .unset, .unset]) rfl k) ?_
    show Goes _ _ _ _ _ _ _ (T3.setTop (mkF m 38 #[.val (.long p0), .second, .val (.long p1), .second, .val (.long p2), .second, .val (.long p3), .second, .val (.long p4), .second, .val (.int p5), .val (.int (0 : Int32)), .val (.long p0), .second, .val (.long r1), .second, .val (.long r2), .second, .val (.long r3), .second, .unset, .unset, .unset, .unset] []))
    obtain ⟨T4, h4, X4, e4, E4, A4, D4, -, st4⟩ := newO X3 hx hZ hown w_6 w_7 w_8 eh3 (g := (mkF m 38 #[.val (.long p0), .second, .val (.long p1), .second, .val (.long p2), .second, .val (.long p3), .second, .val (.long p4), .second, .val (.int p5), .val (.int (0 : Int32)), .val (.long p0), .second, .val (.long r1), .second, .val (.long r2), .second, .val (.long r3), .second, .unset, .unset, .unset, .unset] [])) rfl (hb hby at_38) (by decide) (by decide)
    obtain ⟨b4, g4⟩ : ∃ z, z = h0.size := ⟨_, rfl⟩
    rw [← g4] at A4 D4 st4
    refine Goes.step st4 ?_
    have g_b4 : n0 ≤ b4 := Nat.le_trans Z0 (Nat.le_of_eq g4.symm)
    have sz_b4 : h0.size ≤ b4 := Nat.le_trans K0.1 (Nat.le_of_eq g4.symm)
    have ne5 : de ≠ b4 := Nat.ne_of_lt (Nat.lt_of_lt_of_le V_de.lt (Nat.le_of_eq g4.symm))
    have XO6 : Old Z n0 h4 := X00.ext E4
    have f7 := V_de.ext E4
    have f8 := E_de.ext E4
    have K9 : Keep h0 h4 [] := K0.ext E4
    have Z9 : n0 ≤ h4.size := Nat.le_trans Z0 E4.1
    have E_b4 := A4
    have F_entries_b4 : Fld Z h4 b4 "com/example/orbitloom/orbitloom/core/Timeline" "entries" "[Lcom/example/orbitloom/orbitloom/core/Timeline$Entry;" .null := D4 (Or.inl w_18) (ty := (.array (.object "com/example/orbitloom/orbitloom/core/Timeline$Entry"))) (by decide)
    have F_members_b4 : Fld Z h4 b4 "com/example/orbitloom/orbitloom/core/Timeline" "members" "Ljava/util/List;" .null := D4 (Or.inr w_44) (ty := (.object "java/util/List")) (by decide)
    have F_size_b4 : Fld Z h4 b4 "com/example/orbitloom/orbitloom/core/Timeline" "size" "I" (.int (0 : Int32)) := D4 (Or.inl w_73) (ty := .int) (by decide)
    show Goes _ _ _ _ _ _ _ (T4.setTop (mkF m 41 _ [(.ref b4)]))
    refine Goes.step (fun _ k => XS.dup X4.here hx rfl (hb hby at_41) rfl rfl k) ?_
    obtain ⟨_, _, ⟨T10, L10, k10, n10⟩, -, X10, ⟨Lc10, hQ10, l10, y10, z10⟩, st10⟩ := X4.specialBack hx (y := (⟨"com/example/orbitloom/orbitloom/core/Timeline", "<init>", "()V"⟩ : MethodName)) rfl hown (mvT hZ w_9) (mvT hZ w_10) (mvT hZ w_11) (by decide) (backOf (W := 1) (rm2 l Z a0 hw [] b4 de h4 n0 Z9 S_DE XO6 F_entries_b4 F_size_b4 F_members_b4 E_b4 g_b4) hZ w_11 w_8 (by decide) (by decide)) (g := (mkF m 42 #[.val (.long p0), .second, .val (.long p1), .second, .val (.long p2), .second, .val (.long p3), .second, .val (.long p4), .second, .val (.int p5), .val (.int (0 : Int32)), .val (.long p0), .second, .val (.long r1), .second, .val (.long r2), .second, .val (.long r3), .second, .unset, .unset, .unset, .unset] [(.ref b4), (.ref b4)])) rfl (by rw [hml]; rfl) (Steps.refl _) (a := b4) (argsL := []) (rest := [(.ref b4)]) (lenOf pd_1 rfl) rfl (by show 2 * 0 + _ ≤ _; exact Nat.le_of_eq rfl) (hb hby at_42) (fun _ _ => ⟨rfl, e4, (by decide : 1 + 2 ≤ _), (by decide : 3 + 11 ≤ _)⟩)
    dsimp only [Pt.U, Pt.locs, Pt.cells, Pt.slots] at X10 l10 y10 z10 st10 hQ10
    rw [l10, y10, z10] at X10
    obtain ⟨N10, KK10, hR10⟩ := hQ10
    have NA10 := Fr.app NA3 N10
    have XO11 : Old Z n0 T10.heap := XO6.keep KK10 (allS g_b4 all0)
    have f12 := f7.keep KK10 (ninS ne5 nin0)
    have f13 := f8.keep KK10
    have f14 := E_b4.keep KK10
    have K18 : Keep h0 T10.heap [] := K9.trans KK10 (allS (Or.inr sz_b4) all0)
    have Z18 : n0 ≤ T10.heap.size := Nat.le_trans Z9 KK10.1
    obtain ⟨r10_0_0, r10_0_1, kk10_0_0, rfl, g_r10_0_0, le_r10_0_0, g_r10_0_1, le_r10_0_1, nn10_0_0, v10_0_0, v10_0_1, v10_0_2, v10_0_3, v10_0_4, v10_0_5, v10_0_6, v10_0_7, v10_0_8, oo10_0_0⟩ := hR10
    have ne19 : de ≠ r10_0_0 := Nat.ne_of_lt (Nat.lt_of_lt_of_le f7.lt le_r10_0_0)
    have ne20 : b4 ≠ r10_0_0 := Nat.ne_of_lt (Nat.lt_of_lt_of_le E_b4.lt le_r10_0_0)
    have sz_r10_0_0 : h0.size ≤ r10_0_0 := Nat.le_trans K9.1 le_r10_0_0
    have ne21 : de ≠ r10_0_1 := Nat.ne_of_lt (Nat.lt_of_lt_of_le f7.lt le_r10_0_1)
    have ne22 : b4 ≠ r10_0_1 := Nat.ne_of_lt (Nat.lt_of_lt_of_le E_b4.lt le_r10_0_1)
    have sz_r10_0_1 : h0.size ≤ r10_0_1 := Nat.le_trans K9.1 le_r10_0_1
    refine Goes.back st10 ?_
    show Goes _ _ _ _ _ _ _ (T10.setTop (mkF m 45 _ [(.ref b4)]))
    refine Goes.step (fun _ k => XS.astore X10.here hx rfl (hb hby at_45) rfl rfl (l' := #[.val (.long p0), .second, .val (.long p1), .second, .val (.long p2), .second, .val (.long p3), .second, .val (.long p4), .second, .val (.int p5), .val (.int (0 : Int32)), .val (.long p0), .second, .val (.long r1), .second, .val (.long r2), .second, .val (.long r3), .second, .val (.ref b4), .unset, .unset, .unset]) rfl k) ?_
    show Goes _ _ _ _ _ _ _ (T10.setTop (mkF m 47 _ []))
    obtain ⟨T23, h23, X23, e23, E23, A23, D23, -, st23⟩ := newO X10 hx hZ hown w_45 w_20 w_21 rfl (g := (mkF m 47 #[.val (.long p0), .second, .val (.long p1), .second, .val (.long p2), .second, .val (.long p3), .second, .val (.long p4), .second, .val (.int p5), .val (.int (0 : Int32)), .val (.long p0), .second, .val (.long r1), .second, .val (.long r2), .second, .val (.long r3), .second, .val (.ref b4), .unset, .unset, .unset] [])) rfl (hb hby at_47) (by decide) (by decide)
    obtain ⟨b23, g23⟩ : ∃ z, z = T10.heap.size := ⟨_, rfl⟩
    rw [← g23] at A23 D23 st23
    refine Goes.step st23 ?_
    have g_b23 : n0 ≤ b23 := Nat.le_trans Z18 (Nat.le_of_eq g23.symm)
    have sz_b23 : h0.size ≤ b23 := Nat.le_trans K18.1 (Nat.le_of_eq g23.symm)
    have ne24 : de ≠ b23 := Nat.ne_of_lt (Nat.lt_of_lt_of_le f12.lt (Nat.le_of_eq g23.symm))
    have ne25 : b4 ≠ b23 := Nat.ne_of_lt (Nat.lt_of_lt_of_le v10_0_3.lt (Nat.le_of_eq g23.symm))
    have ne26 : r10_0_0 ≠ b23 := Nat.ne_of_lt (Nat.lt_of_lt_of_le v10_0_4.lt (Nat.le_of_eq g23.symm))
    have ne27 : r10_0_1 ≠ b23 := Nat.ne_of_lt (Nat.lt_of_lt_of_le v10_0_5.lt (Nat.le_of_eq g23.symm))
    have XO28 : Old Z n0 h23 := XO11.ext E23
    have f29 := f12.ext E23
    have f30 := f13.ext E23
    have f31 := v10_0_3.ext E23
    have f32 := v10_0_0.ext E23
    have f33 := v10_0_1.ext E23
    have f34 := v10_0_2.ext E23
    have f35 := v10_0_4.ext E23
    have f36 := v10_0_5.ext E23
    have f37 := v10_0_6.ext E23
    have f38 := v10_0_7.ext E23
    have f39 := v10_0_8.ext E23
    have K40 : Keep h0 h23 [] := K18.ext E23
    have Z40 : n0 ≤ h23.size := Nat.le_trans Z18 E23.1
    have E_b23 := A23
    have F_modCount_b23 : Fld Z h23 b23 "java/util/AbstractList" "modCount" "I" (.int (0 : Int32)) := D23 (Or.inl w_39) (ty := .int) (by decide)
    have F_elementData_b23 : Fld Z h23 b23 "java/util/ArrayList" "elementData" "[Ljava/lang/Object;" .null := D23 (Or.inl w_42) (ty := (.array (.object "java/lang/Object"))) (by decide)
    have F_size_b23 : Fld Z h23 b23 "java/util/ArrayList" "size" "I" (.int (0 : Int32)) := D23 (Or.inl w_88) (ty := .int) (by decide)
    show Goes _ _ _ _ _ _ _ (T23.setTop (mkF m 50 _ [(.ref b23)]))
    refine Goes.step (fun _ k => XS.dup X23.here hx rfl (hb hby at_50) rfl rfl k) ?_
    obtain ⟨_, _, ⟨T41, L41, k41, n41⟩, -, X41, ⟨Lc41, hQ41, l41, y41, z41⟩, st41⟩ := X23.specialBack hx (y := (⟨"java/util/ArrayList", "<init>", "()V"⟩ : MethodName)) rfl hown (mvT hZ w_46) (mvT hZ w_23) (mvT hZ w_24) (by decide) (backOf (W := 1) (rm4 l Z a0 hw [] b23 de (0 : Int32) h23 n0 Z40 S_DE XO28 F_modCount_b23 F_elementData_b23 F_size_b23 E_b23 g_b23) hZ w_24 w_21 (by decide) (by decide)) (g := (mkF m 51 #[.val (.long p0), .second, .val (.long p1), .second, .val (.long p2), .second, .val (.long p3), .second, .val (.long p4), .second, .val (.int p5), .val (.int (0 : Int32)), .val (.long p0), .second, .val (.long r1), .second, .val (.long r2), .second, .val (.long r3), .second, .val (.ref b4), .unset, .unset, .unset] [(.ref b23), (.ref b23)])) rfl (by rw [hml]; rfl) (Steps.refl _) (a := b23) (argsL := []) (rest := [(.ref b23)]) (lenOf pd_1 rfl) rfl (by show 2 * 0 + _ ≤ _; exact Nat.le_of_eq rfl) (hb hby at_51) (fun _ _ => ⟨rfl, e23, (by decide : 4 + 0 ≤ _), (by decide : 17 + 0 ≤ _)⟩)
    dsimp only [Pt.U, Pt.locs, Pt.cells, Pt.slots] at X41 l41 y41 z41 st41 hQ41
    rw [l41, y41, z41] at X41
    obtain ⟨N41, KK41, hR41⟩ := hQ41
    have NA41 := Fr.app NA10 N41
    have XO42 : Old Z n0 T41.heap := XO28.keep KK41 (allS g_b23 all0)
    have f43 := f29.keep KK41 (ninS ne24 nin0)
    have f44 := f30.keep KK41
    have f45 := f31.keep KK41
    have f46 := f32.keep KK41 (ninS ne25 nin0)
    have f47 := f33.keep KK41 (ninS ne25 nin0)
    have f48 := f34.keep KK41 (ninS ne25 nin0)
    have f49 := f35.keep KK41 (ninS ne26 nin0)
    have f50 := f36.keep KK41
    have f51 := f37.keep KK41 (ninS ne27 nin0)
    have f52 := f38.keep KK41 (ninS ne27 nin0)
    have f53 := f39.keep KK41 (ninS ne27 nin0)
    have f54 := E_b23.keep KK41
    have K58 : Keep h0 T41.heap [] := K40.trans KK41 (allS (Or.inr sz_b23) all0)
    have Z58 : n0 ≤ T41.heap.size := Nat.le_trans Z40 KK41.1
    obtain ⟨rfl, v41_0_0, v41_0_1, v41_0_2, v41_0_3⟩ := hR41
    refine Goes.back st41 ?_
    show Goes _ _ _ _ _ _ _ (T41.setTop (mkF m 54 _ [(.ref b23)]))
    refine Goes.step (fun _ k => XS.astore X41.here hx rfl (hb hby at_54) rfl rfl (l' := #[.val (.long p0), .second, .val (.long p1), .second, .val (.long p2), .second, .val (.long p3), .second, .val (.long p4), .second, .val (.int p5), .val (.int (0 : Int32)), .val (.long p0), .second, .val (.long r1), .second, .val (.long r2), .second, .val (.long r3), .second, .val (.ref b4), .val (.ref b23), .unset, .unset]) rfl k) ?_
    show Goes _ _ _ _ _ _ _ (T41.setTop (mkF m 56 _ []))
    refine Goes.step (fun _ k => XS.iload X41.here hx rfl (hb hby at_56) rfl  k) ?_
    refine Goes.step (fun _ k => XS.ifYes X41.here hx rfl (pc0 := 58) (pc' := 81) rfl (hb hby at_58) rfl ((if0 _ _).trans (flt (by decide : ¬ ((0 : Int32) < (0 : Int32)))).2.2.2) (by decide) (by decide) k) ?_
    show Goes _ _ _ _ _ _ _ (T41.setTop (mkF m 81 #[.val (.long p0), .second, .val (.long p1), .second, .val (.long p2), .second, .val (.long p3), .second, .val (.long p4), .second, .val (.int p5), .val (.int (0 : Int32)), .val (.long p0), .second, .val (.long r1), .second, .val (.long r2), .second, .val (.long r3), .second, .val (.ref b4), .val (.ref b23), .unset, .unset] []))
    refine Goes.step (fun _ k => XS.iload X41.here hx rfl (hb hby at_81) rfl  k) ?_
    refine Goes.step (fun _ k => XS.iconst X41.here hx rfl (hb hby at_83) k) ?_
    refine Goes.step (fun _ k => XS.icmpYes X41.here hx rfl (pc0 := 84) (pc' := 107) rfl (hb hby at_84) rfl (flt (by decide : ¬ ((1 : Int32) < (0 : Int32)))).2.2.2 (by decide) (by decide) k) ?_
    show Goes _ _ _ _ _ _ _ (T41.setTop (mkF m 107 _ []))
    refine Goes.step (fun _ k => XS.iload X41.here hx rfl (hb hby at_107) rfl  k) ?_
    refine Goes.step (fun _ k => XS.iconst X41.here hx rfl (hb hby at_109) k) ?_
    refine Goes.step (fun _ k => XS.icmpYes X41.here hx rfl (pc0 := 110) (pc' := 133) rfl (hb hby at_110) rfl (flt (by decide : ¬ ((2 : Int32) < (0 : Int32)))).2.2.2 (by decide) (by decide) k) ?_
    show Goes _ _ _ _ _ _ _ (T41.setTop (mkF m 133 _ []))
    refine Goes.step (fun _ k => XS.iload X41.here hx rfl (hb hby at_133) rfl  k) ?_
    refine Goes.step (fun _ k => XS.iconst X41.here hx rfl (hb hby at_135) k) ?_
    refine Goes.step (fun _ k => XS.icmpYes X41.here hx rfl (pc0 := 136) (pc' := 159) rfl (hb hby at_136) rfl (flt (by decide : ¬ ((3 : Int32) < (0 : Int32)))).2.2.2 (by decide) (by decide) k) ?_
    show Goes _ _ _ _ _ _ _ (T41.setTop (mkF m 159 _ []))
    refine Goes.step (fun _ k => XS.aload X41.here hx rfl (hb hby at_159) rfl rfl k) ?_
    refine Goes.step (fun _ k => XS.lload X41.here hx rfl (hb hby at_161) rfl  k) ?_
    obtain ⟨cq59, kq59, q59a, q59b, q59c⟩ := isOf hZ rfl f45
    obtain ⟨_, _, ⟨T59, L59, k59, n59⟩, -, X59, ⟨Lc59, hQ59, l59, y59, z59⟩, st59⟩ := X41.virtualBack hx (y := (⟨"com/example/orbitloom/orbitloom/core/Timeline", "firstStartingFrom", "(J)I"⟩ : MethodName)) (z := (⟨"com/example/orbitloom/orbitloom/core/Timeline", "firstStartingFrom", "(J)I"⟩ : MethodName)) hown (mvT hZ w_145) (mvT hZ w_146) (notFace_of_selects (args := #[]) (mvT hZ w_148)) (mvT hZ w_148) (mvT hZ w_147) (by decide) (backOf (W := 0) (rm20_0 l Z a0 hw [] b4 p4 r10_0_0 kk10_0_0 T41.heap n0 Z58 f46 f47 f45 f49) hZ w_149 w_8 (by decide) (by decide)) q59a q59c (g := (mkF m 163 #[.val (.long p0), .second, .val (.long p1), .second, .val (.long p2), .second, .val (.long p3), .second, .val (.long p4), .second, .val (.int p5), .val (.int (0 : Int32)), .val (.long p0), .second, .val (.long r1), .second, .val (.long r2), .second, .val (.long r3), .second, .val (.ref b4), .val (.ref b23), .unset, .unset] [(.long p4), (.ref b4)])) rfl (by rw [hml]; rfl) (Steps.refl _) (argsL := [(.long p4)]) (rest := []) (lenOf pd_14 rfl) rfl (by show 2 * 0 + _ ≤ _; exact Nat.le_of_eq rfl) (hb hby at_163) (fun _ _ => ⟨rfl, rfl, (by decide : 4 + 0 ≤ _), (by decide : 17 + 0 ≤ _)⟩)
    dsimp only [Pt.U, Pt.locs, Pt.cells, Pt.slots] at X59 l59 y59 z59 st59 hQ59
    rw [l59, y59, z59] at X59
    obtain ⟨N59, KK59, hR59⟩ := hQ59
    have NA59 := Fr.app NA41 N59
    obtain rfl := hR59
    refine Goes.back st59 ?_
    show Goes _ _ _ _ _ _ _ (T59.setTop (mkF m 166 _ [(.int (0 : Int32))]))
    refine Goes.step (fun _ k => XS.istore X59.here hx rfl (hb hby at_166) rfl (l' := #[.val (.long p0), .second, .val (.long p1), .second, .val (.long p2), .second, .val (.long p3), .second, .val (.long p4), .second, .val (.int p5), .val (.int (0 : Int32)), .val (.long p0), .second, .val (.long r1), .second, .val (.long r2), .second, .val (.long r3), .second, .val (.ref b4), .val (.ref b23), .val (.int (0 : Int32)), .unset]) rfl k) ?_
    show Goes _ _ _ _ _ _ _ (T59.setTop (mkF m 168 _ []))
    refine Goes.step (fun _ k => XS.iconst X59.here hx rfl (hb hby at_168) k) ?_
    refine Goes.step (fun _ k => XS.istore X59.here hx rfl (hb hby at_169) rfl (l' := #[.val (.long p0), .second, .val (.long p1), .second, .val (.long p2), .second, .val (.long p3), .second, .val (.long p4), .second, .val (.int p5), .val (.int (0 : Int32)), .val (.long p0), .second, .val (.long r1), .second, .val (.long r2), .second, .val (.long r3), .second, .val (.ref b4), .val (.ref b23), .val (.int (0 : Int32)), .val (.int (0 : Int32))]) rfl k) ?_
    show Goes _ _ _ _ _ _ _ (T59.setTop (mkF m 171 _ []))
    refine Goes.step (fun _ k => XS.iload X59.here hx rfl (hb hby at_171) rfl  k) ?_
    refine Goes.step (fun _ k => XS.ifYes X59.here hx rfl (pc0 := 173) (pc' := 187) rfl (hb hby at_173) rfl ((if0 _ _).trans (flt (by decide : ¬ ((0 : Int32) < (0 : Int32)))).2.2.2) (by decide) (by decide) k) ?_
    show Goes _ _ _ _ _ _ _ (T59.setTop (mkF m 187 #[.val (.long p0), .second, .val (.long p1), .second, .val (.long p2), .second, .val (.long p3), .second, .val (.long p4), .second, .val (.int p5), .val (.int (0 : Int32)), .val (.long p0), .second, .val (.long r1), .second, .val (.long r2), .second, .val (.long r3), .second, .val (.ref b4), .val (.ref b23), .val (.int (0 : Int32)), .val (.int (0 : Int32))] []))
    refine Goes.step (fun _ k => XS.iload X59.here hx rfl (hb hby at_187) rfl  k) ?_
    refine Goes.step (fun _ k => XS.iconst X59.here hx rfl (hb hby at_189) k) ?_
    refine Goes.step (fun _ k => XS.icmpYes X59.here hx rfl (pc0 := 190) (pc' := 204) rfl (hb hby at_190) rfl (flt (by decide : ¬ ((1 : Int32) < (0 : Int32)))).2.2.2 (by decide) (by decide) k) ?_
    show Goes _ _ _ _ _ _ _ (T59.setTop (mkF m 204 _ []))
    refine Goes.step (fun _ k => XS.iload X59.here hx rfl (hb hby at_204) rfl  k) ?_
    refine Goes.step (fun _ k => XS.iconst X59.here hx rfl (hb hby at_206) k) ?_
    refine Goes.step (fun _ k => XS.icmpYes X59.here hx rfl (pc0 := 207) (pc' := 221) rfl (hb hby at_207) rfl (flt (by decide : ¬ ((2 : Int32) < (0 : Int32)))).2.2.2 (by decide) (by decide) k) ?_
    show Goes _ _ _ _ _ _ _ (T59.setTop (mkF m 221 _ []))
    refine Goes.step (fun _ k => XS.iload X59.here hx rfl (hb hby at_221) rfl  k) ?_
    refine Goes.step (fun _ k => XS.iconst X59.here hx rfl (hb hby at_223) k) ?_
    refine Goes.step (fun _ k => XS.icmpYes X59.here hx rfl (pc0 := 224) (pc' := 238) rfl (hb hby at_224) rfl (flt (by decide : ¬ ((3 : Int32) < (0 : Int32)))).2.2.2 (by decide) (by decide) k) ?_
    show Goes _ _ _ _ _ _ _ (T59.setTop (mkF m 238 _ []))
    refine Goes.step (fun _ k => XS.iload X59.here hx rfl (hb hby at_238) rfl  k) ?_
    refine Goes.step (fun _ k => XS.iload X59.here hx rfl (hb hby at_240) rfl  k) ?_
    refine Goes.step (fun _ k => XS.icmpNo X59.here hx rfl (hb hby at_242) rfl (teq (by decide : (0 : Int32) = (0 : Int32))).2 k) ?_
    show Goes _ _ _ _ _ _ _ (T59.setTop (mkF m 245 _ []))
    refine Goes.step (fun _ k => XS.iconst X59.here hx rfl (hb hby at_245) k) ?_
    refine Goes.step (fun _ k => XS.goto X59.here hx rfl (pc0 := 246) (pc' := 250) rfl (hb hby at_246) (by decide) (by decide) k) ?_
    show Goes _ _ _ _ _ _ _ (T59.setTop (mkF m 250 _ [(.int (1 : Int32))]))
    exact Goes.ret X59 hx (BodyLoose.notSynchronized Bd) Bd.returns rfl (Or.inl ⟨rfl, by simp, _, rfl⟩) (hb hby at_250) (by show Q0 Z p0 p1 p2 p3 p4 p5 de kde ee mr h0 n0 (some (.int (1 : Int32))) T59.heap _; rw [KK59]; exact ⟨rfl, NA59⟩) (by decide) (by decide)
  · show Goes _ _ _ _ _ _ _ (s₁.setTop (mkF m 9 #[.val (.long p0), .second, .val (.long p1), .second, .val (.long p2), .second, .val (.long p3), .second, .val (.long p4), .second, .val (.int p5), .val (.int (1 : Int32)), .unset, .unset, .unset, .unset, .unset, .unset, .unset, .unset, .unset, .unset, .unset, .unset] []))
    refine Goes.step (fun _ k => XS.lloadN X0.here hx rfl (hb hby at_9) rfl  k) ?_
    refine Goes.step (fun _ k => XS.lstore X0.here hx rfl (hb hby at_10) rfl (l' := #[.val (.long p0), .second, .val (.long p1), .second, .val (.long p2), .second, .val (.long p3), .second, .val (.long p4), .second, .val (.int p5), .val (.int (1 : Int32)), .val (.long p0), .second, .unset, .unset, .unset, .unset, .unset, .unset, .unset, .unset, .unset, .unset]) rfl k) ?_
    show Goes _ _ _ _ _ _ _ (s₁.setTop (mkF m 12 _ []))
    refine Goes.step (fun _ k => XS.lload X0.here hx rfl (hb hby at_12) rfl  k) ?_
    refine Goes.step (fun _ k => XS.lloadN X0.here hx rfl (hb hby at_14) rfl  k) ?_
    obtain ⟨_, _, ⟨T60, L60, k60, n60⟩, -, X60, ⟨Lc60, hQ60, l60, y60, z60⟩, st60⟩ := Jvm.LawKit.callS X0 hx (y := (⟨"com/example/orbitloom/orbitloom/core/TimelineFirstStartingFromPinLaw", "step", "(JJ)J"⟩ : MethodName)) hown (mvT hZ w_1) (mvT hZ w_2) (mvT hZ w_3) (mvT hZ w_4) (by decide) (backOf (W := 0) (rm1 l Z a0 hw [] p0 p1 h0 n0 Z0) hZ w_4 w_3 (by decide) (by decide)) (g := (mkF m 15 #[.val (.long p0), .second, .val (.long p1), .second, .val (.long p2), .second, .val (.long p3), .second, .val (.long p4), .second, .val (.int p5), .val (.int (1 : Int32)), .val (.long p0), .second, .unset, .unset, .unset, .unset, .unset, .unset, .unset, .unset, .unset, .unset] [(.long p1), (.long p0)])) rfl (by rw [hml]; rfl) (argsL := [(.long p0), (.long p1)]) (rest := []) (lenOf pd_0 rfl) rfl (by show 2 * 0 + _ ≤ _; exact Nat.le_of_eq rfl) (hb hby at_15) (fun _ _ => ⟨rfl, e0, (by decide : 0 + 0 ≤ _), (by decide : 0 + 0 ≤ _)⟩)
    dsimp only [Pt.U, Pt.locs, Pt.cells, Pt.slots] at X60 l60 y60 z60 st60 hQ60
    rw [l60, y60, z60] at X60
    obtain ⟨N60, eh60, r60, rfl, mo60⟩ := hQ60
    have NA60 := Fr.app N0 N60
    refine Goes.step st60 ?_
    show Goes _ _ _ _ _ _ _ (T60.setTop (mkF m 18 _ [(.long r60)]))
    refine Goes.step (fun _ k => XS.lstore X60.here hx rfl (hb hby at_18) rfl (l' := #[.val (.long p0), .second, .val (.long p1), .second, .val (.long p2), .second, .val (.long p3), .second, .val (.long p4), .second, .val (.int p5), .val (.int (1 : Int32)), .val (.long p0), .second, .val (.long r60), .second, .unset, .unset, .unset, .unset, .unset, .unset, .unset, .unset]) rfl k) ?_
    show Goes _ _ _ _ _ _ _ (T60.setTop (mkF m 20 _ []))
    refine Goes.step (fun _ k => XS.lload X60.here hx rfl (hb hby at_20) rfl  k) ?_
    refine Goes.step (fun _ k => XS.lload X60.here hx rfl (hb hby at_22) rfl  k) ?_
    obtain ⟨_, _, ⟨T61, L61, k61, n61⟩, -, X61, ⟨Lc61, hQ61, l61, y61, z61⟩, st61⟩ := Jvm.LawKit.callS X60 hx (y := (⟨"com/example/orbitloom/orbitloom/core/TimelineFirstStartingFromPinLaw", "step", "(JJ)J"⟩ : MethodName)) hown (mvT hZ w_1) (mvT hZ w_2) (mvT hZ w_3) (mvT hZ w_4) (by decide) (backOf (W := 0) (rm1 l Z a0 hw [] r60 p2 h0 n0 Z0) hZ w_4 w_3 (by decide) (by decide)) (g := (mkF m 24 #[.val (.long p0), .second, .val (.long p1), .second, .val (.long p2), .second, .val (.long p3), .second, .val (.long p4), .second, .val (.int p5), .val (.int (1 : Int32)), .val (.long p0), .second, .val (.long r60), .second, .unset, .unset, .unset, .unset, .unset, .unset, .unset, .unset] [(.long p2), (.long r60)])) rfl (by rw [hml]; rfl) (argsL := [(.long r60), (.long p2)]) (rest := []) (lenOf pd_0 rfl) rfl (by show 2 * 0 + _ ≤ _; exact Nat.le_of_eq rfl) (hb hby at_24) (fun _ _ => ⟨rfl, eh60, (by decide : 0 + 0 ≤ _), (by decide : 0 + 0 ≤ _)⟩)
    dsimp only [Pt.U, Pt.locs, Pt.cells, Pt.slots] at X61 l61 y61 z61 st61 hQ61
    rw [l61, y61, z61] at X61
    obtain ⟨N61, eh61, r61, rfl, mo61⟩ := hQ61
    have NA61 := Fr.app NA60 N61
    refine Goes.step st61 ?_
    show Goes _ _ _ _ _ _ _ (T61.setTop (mkF m 27 _ [(.long r61)]))
    refine Goes.step (fun _ k => XS.lstore X61.here hx rfl (hb hby at_27) rfl (l' := #[.val (.long p0), .second, .val (.long p1), .second, .val (.long p2), .second, .val (.long p3), .second, .val (.long p4), .second, .val (.int p5), .val (.int (1 : Int32)), .val (.long p0), .second, .val (.long r60), .second, .val (.long r61), .second, .unset, .unset, .unset, .unset, .unset, .unset]) rfl k) ?_
    show Goes _ _ _ _ _ _ _ (T61.setTop (mkF m 29 _ []))
    refine Goes.step (fun _ k => XS.lload X61.here hx rfl (hb hby at_29) rfl  k) ?_
    refine Goes.step (fun _ k => XS.lload X61.here hx rfl (hb hby at_31) rfl  k) ?_
    obtain ⟨_, _, ⟨T62, L62, k62, n62⟩, -, X62, ⟨Lc62, hQ62, l62, y62, z62⟩, st62⟩ := Jvm.LawKit.callS X61 hx (y := (⟨"com/example/orbitloom/orbitloom/core/TimelineFirstStartingFromPinLaw", "step", "(JJ)J"⟩ : MethodName)) hown (mvT hZ w_1) (mvT hZ w_2) (mvT hZ w_3) (mvT hZ w_4) (by decide) (backOf (W := 0) (rm1 l Z a0 hw [] r61 p3 h0 n0 Z0) hZ w_4 w_3 (by decide) (by decide)) (g := (mkF m 33 #[.val (.long p0), .second, .val (.long p1), .second, .val (.long p2), .second, .val (.long p3), .second, .val (.long p4), .second, .val (.int p5), .val (.int (1 : Int32)), .val (.long p0), .second, .val (.long r60), .second, .val (.long r61), .second, .unset, .unset, .unset, .unset, .unset, .unset] [(.long p3), (.long r61)])) rfl (by rw [hml]; rfl) (argsL := [(.long r61), (.long p3)]) (rest := []) (lenOf pd_0 rfl) rfl (by show 2 * 0 + _ ≤ _; exact Nat.le_of_eq rfl) (hb hby at_33) (fun _ _ => ⟨rfl, eh61, (by decide : 0 + 0 ≤ _), (by decide : 0 + 0 ≤ _)⟩)
    dsimp only [Pt.U, Pt.locs, Pt.cells, Pt.slots] at X62 l62 y62 z62 st62 hQ62
    rw [l62, y62, z62] at X62
    obtain ⟨N62, eh62, r62, rfl, mo62⟩ := hQ62
    have NA62 := Fr.app NA61 N62
    refine Goes.step st62 ?_
    show Goes _ _ _ _ _ _ _ (T62.setTop (mkF m 36 _ [(.long r62)]))
    refine Goes.step (fun _ k => XS.lstore X62.here hx rfl (hb hby at_36) rfl (l' := #[.val (.long p0), .second, .val (.long p1), .second, .val (.long p2), .second, .val (.long p3), .second, .val (.long p4), .second, .val (.int p5), .val (.int (1 : Int32)), .val (.long p0), .second, .val (.long r60), .second, .val (.long r61), .second, .val (.long r62), .second, .unset, .unset, .unset, .unset]) rfl k) ?_
    show Goes _ _ _ _ _ _ _ (T62.setTop (mkF m 38 #[.val (.long p0), .second, .val (.long p1), .second, .val (.long p2), .second, .val (.long p3), .second, .val (.long p4), .second, .val (.int p5), .val (.int (1 : Int32)), .val (.long p0), .second, .val (.long r60), .second, .val (.long r61), .second, .val (.long r62), .second, .unset, .unset, .unset, .unset] []))
    obtain ⟨T63, h63, X63, e63, E63, A63, D63, -, st63⟩ := newO X62 hx hZ hown w_6 w_7 w_8 eh62 (g := (mkF m 38 #[.val (.long p0), .second, .val (.long p1), .second, .val (.long p2), .second, .val (.long p3), .second, .val (.long p4), .second, .val (.int p5), .val (.int (1 : Int32)), .val (.long p0), .second, .val (.long r60), .second, .val (.long r61), .second, .val (.long r62), .second, .unset, .unset, .unset, .unset] [])) rfl (hb hby at_38) (by decide) (by decide)
    obtain ⟨b63, g63⟩ : ∃ z, z = h0.size := ⟨_, rfl⟩
    rw [← g63] at A63 D63 st63
    refine Goes.step st63 ?_
    have g_b63 : n0 ≤ b63 := Nat.le_trans Z0 (Nat.le_of_eq g63.symm)
    have sz_b63 : h0.size ≤ b63 := Nat.le_trans K0.1 (Nat.le_of_eq g63.symm)
    have ne64 : de ≠ b63 := Nat.ne_of_lt (Nat.lt_of_lt_of_le V_de.lt (Nat.le_of_eq g63.symm))
    have XO65 : Old Z n0 h63 := X00.ext E63
    have f66 := V_de.ext E63
    have f67 := E_de.ext E63
    have K68 : Keep h0 h63 [] := K0.ext E63
    have Z68 : n0 ≤ h63.size := Nat.le_trans Z0 E63.1
    have E_b63 := A63
    have F_entries_b63 : Fld Z h63 b63 "com/example/orbitloom/orbitloom/core/Timeline" "entries" "[Lcom/example/orbitloom/orbitloom/core/Timeline$Entry;" .null := D63 (Or.inl w_18) (ty := (.array (.object "com/example/orbitloom/orbitloom/core/Timeline$Entry"))) (by decide)
    have F_members_b63 : Fld Z h63 b63 "com/example/orbitloom/orbitloom/core/Timeline" "members" "Ljava/util/List;" .null := D63 (Or.inr w_44) (ty := (.object "java/util/List")) (by decide)
    have F_size_b63 : Fld Z h63 b63 "com/example/orbitloom/orbitloom/core/Timeline" "size" "I" (.int (0 : Int32)) := D63 (Or.inl w_73) (ty := .int) (by decide)
    show Goes _ _ _ _ _ _ _ (T63.setTop (mkF m 41 _ [(.ref b63)]))
    refine Goes.step (fun _ k => XS.dup X63.here hx rfl (hb hby at_41) rfl rfl k) ?_
    obtain ⟨_, _, ⟨T69, L69, k69, n69⟩, -, X69, ⟨Lc69, hQ69, l69, y69, z69⟩, st69⟩ := X63.specialBack hx (y := (⟨"com/example/orbitloom/orbitloom/core/Timeline", "<init>", "()V"⟩ : MethodName)) rfl hown (mvT hZ w_9) (mvT hZ w_10) (mvT hZ w_11) (by decide) (backOf (W := 1) (rm2 l Z a0 hw [] b63 de h63 n0 Z68 S_DE XO65 F_entries_b63 F_size_b63 F_members_b63 E_b63 g_b63) hZ w_11 w_8 (by decide) (by decide)) (g := (mkF m 42 #[.val (.long p0), .second, .val (.long p1), .second, .val (.long p2), .second, .val (.long p3), .second, .val (.long p4), .second, .val (.int p5), .val (.int (1 : Int32)), .val (.long p0), .second, .val (.long r60), .second, .val (.long r61), .second, .val (.long r62), .second, .unset, .unset, .unset, .unset] [(.ref b63), (.ref b63)])) rfl (by rw [hml]; rfl) (Steps.refl _) (a := b63) (argsL := []) (rest := [(.ref b63)]) (lenOf pd_1 rfl) rfl (by show 2 * 0 + _ ≤ _; exact Nat.le_of_eq rfl) (hb hby at_42) (fun _ _ => ⟨rfl, e63, (by decide : 1 + 2 ≤ _), (by decide : 3 + 11 ≤ _)⟩)
    dsimp only [Pt.U, Pt.locs, Pt.cells, Pt.slots] at X69 l69 y69 z69 st69 hQ69
    rw [l69, y69, z69] at X69
    obtain ⟨N69, KK69, hR69⟩ := hQ69
    have NA69 := Fr.app NA62 N69
    have XO70 : Old Z n0 T69.heap := XO65.keep KK69 (allS g_b63 all0)
    have f71 := f66.keep KK69 (ninS ne64 nin0)
    have f72 := f67.keep KK69
    have f73 := E_b63.keep KK69
    have K77 : Keep h0 T69.heap [] := K68.trans KK69 (allS (Or.inr sz_b63) all0)
    have Z77 : n0 ≤ T69.heap.size := Nat.le_trans Z68 KK69.1
    obtain ⟨r69_0_0, r69_0_1, kk69_0_0, rfl, g_r69_0_0, le_r69_0_0, g_r69_0_1, le_r69_0_1, nn69_0_0, v69_0_0, v69_0_1, v69_0_2, v69_0_3, v69_0_4, v69_0_5, v69_0_6, v69_0_7, v69_0_8, oo69_0_0⟩ := hR69
    have ne78 : de ≠ r69_0_0 := Nat.ne_of_lt (Nat.lt_of_lt_of_le f66.lt le_r69_0_0)
    have ne79 : b63 ≠ r69_0_0 := Nat.ne_of_lt (Nat.lt_of_lt_of_le E_b63.lt le_r69_0_0)
    have sz_r69_0_0 : h0.size ≤ r69_0_0 := Nat.le_trans K68.1 le_r69_0_0
    have ne80 : de ≠ r69_0_1 := Nat.ne_of_lt (Nat.lt_of_lt_of_le f66.lt le_r69_0_1)
    have ne81 : b63 ≠ r69_0_1 := Nat.ne_of_lt (Nat.lt_of_lt_of_le E_b63.lt le_r69_0_1)
    have sz_r69_0_1 : h0.size ≤ r69_0_1 := Nat.le_trans K68.1 le_r69_0_1
    refine Goes.back st69 ?_
    show Goes _ _ _ _ _ _ _ (T69.setTop (mkF m 45 _ [(.ref b63)]))
    refine Goes.step (fun _ k => XS.astore X69.here hx rfl (hb hby at_45) rfl rfl (l' := #[.val (.long p0), .second, .val (.long p1), .second, .val (.long p2), .second, .val (.long p3), .second, .val (.long p4), .second, .val (.int p5), .val (.int (1 : Int32)), .val (.long p0), .second, .val (.long r60), .second, .val (.long r61), .second, .val (.long r62), .second, .val (.ref b63), .unset, .unset, .unset]) rfl k) ?_
    show Goes _ _ _ _ _ _ _ (T69.setTop (mkF m 47 _ []))
    obtain ⟨T82, h82, X82, e82, E82, A82, D82, -, st82⟩ := newO X69 hx hZ hown w_45 w_20 w_21 rfl (g := (mkF m 47 #[.val (.long p0), .second, .val (.long p1), .second, .val (.long p2), .second, .val (.long p3), .second, .val (.long p4), .second, .val (.int p5), .val (.int (1 : Int32)), .val (.long p0), .second, .val (.long r60), .second, .val (.long r61), .second, .val (.long r62), .second, .val (.ref b63), .unset, .unset, .unset] [])) rfl (hb hby at_47) (by decide) (by decide)
    obtain ⟨b82, g82⟩ : ∃ z, z = T69.heap.size := ⟨_, rfl⟩
    rw [← g82] at A82 D82 st82
    refine Goes.step st82 ?_
    have g_b82 : n0 ≤ b82 := Nat.le_trans Z77 (Nat.le_of_eq g82.symm)
    have sz_b82 : h0.size ≤ b82 := Nat.le_trans K77.1 (Nat.le_of_eq g82.symm)
    have ne83 : de ≠ b82 := Nat.ne_of_lt (Nat.lt_of_lt_of_le f71.lt (Nat.le_of_eq g82.symm))
    have ne84 : b63 ≠ b82 := Nat.ne_of_lt (Nat.lt_of_lt_of_le v69_0_3.lt (Nat.le_of_eq g82.symm))
    have ne85 : r69_0_0 ≠ b82 := Nat.ne_of_lt (Nat.lt_of_lt_of_le v69_0_4.lt (Nat.le_of_eq g82.symm))
    have ne86 : r69_0_1 ≠ b82 := Nat.ne_of_lt (Nat.lt_of_lt_of_le v69_0_5.lt (Nat.le_of_eq g82.symm))
    have XO87 : Old Z n0 h82 := XO70.ext E82
    have f88 := f71.ext E82
    have f89 := f72.ext E82
    have f90 := v69_0_3.ext E82
    have f91 := v69_0_0.ext E82
    have f92 := v69_0_1.ext E82
    have f93 := v69_0_2.ext E82
    have f94 := v69_0_4.ext E82
    have f95 := v69_0_5.ext E82
    have f96 := v69_0_6.ext E82
    have f97 := v69_0_7.ext E82
    have f98 := v69_0_8.ext E82
    have K99 : Keep h0 h82 [] := K77.ext E82
    have Z99 : n0 ≤ h82.size := Nat.le_trans Z77 E82.1
    have E_b82 := A82
    have F_modCount_b82 : Fld Z h82 b82 "java/util/AbstractList" "modCount" "I" (.int (0 : Int32)) := D82 (Or.inl w_39) (ty := .int) (by decide)
    have F_elementData_b82 : Fld Z h82 b82 "java/util/ArrayList" "elementData" "[Ljava/lang/Object;" .null := D82 (Or.inl w_42) (ty := (.array (.object "java/lang/Object"))) (by decide)
    have F_size_b82 : Fld Z h82 b82 "java/util/ArrayList" "size" "I" (.int (0 : Int32)) := D82 (Or.inl w_88) (ty := .int) (by decide)
    show Goes _ _ _ _ _ _ _ (T82.setTop (mkF m 50 _ [(.ref b82)]))
    refine Goes.step (fun _ k => XS.dup X82.here hx rfl (hb hby at_50) rfl rfl k) ?_
    obtain ⟨_, _, ⟨T100, L100, k100, n100⟩, -, X100, ⟨Lc100, hQ100, l100, y100, z100⟩, st100⟩ := X82.specialBack hx (y := (⟨"java/util/ArrayList", "<init>", "()V"⟩ : MethodName)) rfl hown (mvT hZ w_46) (mvT hZ w_23) (mvT hZ w_24) (by decide) (backOf (W := 1) (rm4 l Z a0 hw [] b82 de (0 : Int32) h82 n0 Z99 S_DE XO87 F_modCount_b82 F_elementData_b82 F_size_b82 E_b82 g_b82) hZ w_24 w_21 (by decide) (by decide)) (g := (mkF m 51 #[.val (.long p0), .second, .val (.long p1), .second, .val (.long p2), .second, .val (.long p3), .second, .val (.long p4), .second, .val (.int p5), .val (.int (1 : Int32)), .val (.long p0), .second, .val (.long r60), .second, .val (.long r61), .second, .val (.long r62), .second, .val (.ref b63), .unset, .unset, .unset] [(.ref b82), (.ref b82)])) rfl (by rw [hml]; rfl) (Steps.refl _) (a := b82) (argsL := []) (rest := [(.ref b82)]) (lenOf pd_1 rfl) rfl (by show 2 * 0 + _ ≤ _; exact Nat.le_of_eq rfl) (hb hby at_51) (fun _ _ => ⟨rfl, e82, (by decide : 4 + 0 ≤ _), (by decide : 17 + 0 ≤ _)⟩)
    dsimp only [Pt.U, Pt.locs, Pt.cells, Pt.slots] at X100 l100 y100 z100 st100 hQ100
    rw [l100, y100, z100] at X100
    obtain ⟨N100, KK100, hR100⟩ := hQ100
    have NA100 := Fr.app NA69 N100
    have XO101 : Old Z n0 T100.heap := XO87.keep KK100 (allS g_b82 all0)
    have f102 := f88.keep KK100 (ninS ne83 nin0)
    have f103 := f89.keep KK100
    have f104 := f90.keep KK100
    have f105 := f91.keep KK100 (ninS ne84 nin0)
    have f106 := f92.keep KK100 (ninS ne84 nin0)
    have f107 := f93.keep KK100 (ninS ne84 nin0)
    have f108 := f94.keep KK100 (ninS ne85 nin0)
    have f109 := f95.keep KK100
    have f110 := f96.keep KK100 (ninS ne86 nin0)
    have f111 := f97.keep KK100 (ninS ne86 nin0)
    have f112 := f98.keep KK100 (ninS ne86 nin0)
    have f113 := E_b82.keep KK100
    have K117 : Keep h0 T100.heap [] := K99.trans KK100 (allS (Or.inr sz_b82) all0)
    have Z117 : n0 ≤ T100.heap.size := Nat.le_trans Z99 KK100.1
    obtain ⟨rfl, v100_0_0, v100_0_1, v100_0_2, v100_0_3⟩ := hR100
    refine Goes.back st100 ?_
    show Goes _ _ _ _ _ _ _ (T100.setTop (mkF m 54 _ [(.ref b82)]))
    refine Goes.step (fun _ k => XS.astore X100.here hx rfl (hb hby at_54) rfl rfl (l' := #[.val (.long p0), .second, .val (.long p1), .second, .val (.long p2), .second, .val (.long p3), .second, .val (.long p4), .second, .val (.int p5), .val (.int (1 : Int32)), .val (.long p0), .second, .val (.long r60), .second, .val (.long r61), .second, .val (.long r62), .second, .val (.ref b63), .val (.ref b82), .unset, .unset]) rfl k) ?_
    show Goes _ _ _ _ _ _ _ (T100.setTop (mkF m 56 _ []))
    refine Goes.step (fun _ k => XS.iload X100.here hx rfl (hb hby at_56) rfl  k) ?_
    refine Goes.step (fun _ k => XS.ifNo X100.here hx rfl (hb hby at_58) rfl ((if0 _ _).trans (tlt (by decide : (0 : Int32) < (1 : Int32))).2.2.2) k) ?_
    show Goes _ _ _ _ _ _ _ (T100.setTop (mkF m 61 #[.val (.long p0), .second, .val (.long p1), .second, .val (.long p2), .second, .val (.long p3), .second, .val (.long p4), .second, .val (.int p5), .val (.int (1 : Int32)), .val (.long p0), .second, .val (.long r60), .second, .val (.long r61), .second, .val (.long r62), .second, .val (.ref b63), .val (.ref b82), .unset, .unset] []))
    refine Goes.step (fun _ k => XS.aload X100.here hx rfl (hb hby at_61) rfl rfl k) ?_
    obtain ⟨T118, h118, X118, e118, E118, A118, D118, -, st118⟩ := newO X100 hx hZ hown w_47 w_48 w_49 rfl (g := (mkF m 63 #[.val (.long p0), .second, .val (.long p1), .second, .val (.long p2), .second, .val (.long p3), .second, .val (.long p4), .second, .val (.int p5), .val (.int (1 : Int32)), .val (.long p0), .second, .val (.long r60), .second, .val (.long r61), .second, .val (.long r62), .second, .val (.ref b63), .val (.ref b82), .unset, .unset] [(.ref b63)])) rfl (hb hby at_63) (by decide) (by decide)
    obtain ⟨b118, g118⟩ : ∃ z, z = T100.heap.size := ⟨_, rfl⟩
    rw [← g118] at A118 D118 st118
    refine Goes.step st118 ?_
    have g_b118 : n0 ≤ b118 := Nat.le_trans Z117 (Nat.le_of_eq g118.symm)
    have sz_b118 : h0.size ≤ b118 := Nat.le_trans K117.1 (Nat.le_of_eq g118.symm)
    have ne119 : de ≠ b118 := Nat.ne_of_lt (Nat.lt_of_lt_of_le f102.lt (Nat.le_of_eq g118.symm))
    have ne120 : b63 ≠ b118 := Nat.ne_of_lt (Nat.lt_of_lt_of_le f104.lt (Nat.le_of_eq g118.symm))
    have ne121 : r69_0_0 ≠ b118 := Nat.ne_of_lt (Nat.lt_of_lt_of_le f108.lt (Nat.le_of_eq g118.symm))
    have ne122 : r69_0_1 ≠ b118 := Nat.ne_of_lt (Nat.lt_of_lt_of_le f109.lt (Nat.le_of_eq g118.symm))
    have ne123 : b82 ≠ b118 := Nat.ne_of_lt (Nat.lt_of_lt_of_le v100_0_0.lt (Nat.le_of_eq g118.symm))
    have XO124 : Old Z n0 h118 := XO101.ext E118
    have f125 := f102.ext E118
    have f126 := f103.ext E118
    have f127 := f104.ext E118
    have f128 := f105.ext E118
    have f129 := f106.ext E118
    have f130 := f107.ext E118
    have f131 := f108.ext E118
    have f132 := f109.ext E118
    have f133 := f110.ext E118
    have f134 := f111.ext E118
    have f135 := f112.ext E118
    have f136 := v100_0_0.ext E118
    have f137 := v100_0_1.ext E118
    have f138 := v100_0_2.ext E118
    have f139 := v100_0_3.ext E118
    have K140 : Keep h0 h118 [] := K117.ext E118
    have Z140 : n0 ≤ h118.size := Nat.le_trans Z117 E118.1
    have E_b118 := A118
    have F_start_b118 : Fld Z h118 b118 "com/example/orbitloom/orbitloom/core/Timeline$Entry" "start" "J" (.long (0 : Int64)) := D118 (Or.inr w_60) (ty := .long) (by decide)
    have F_end_b118 : Fld Z h118 b118 "com/example/orbitloom/orbitloom/core/Timeline$Entry" "end" "J" (.long (0 : Int64)) := D118 (Or.inr w_62) (ty := .long) (by decide)
    have F_attitude_b118 : Fld Z h118 b118 "com/example/orbitloom/orbitloom/core/Timeline$Entry" "attitude" "Lcom/example/orbitloom/orbitloom/core/Attitude;" .null := D118 (Or.inr w_64) (ty := (.object "com/example/orbitloom/orbitloom/core/Attitude")) (by decide)
    have F_rev_b118 : Fld Z h118 b118 "com/example/orbitloom/orbitloom/core/Timeline$Entry" "rev" "I" (.int (0 : Int32)) := D118 (Or.inr w_66) (ty := .int) (by decide)
    show Goes _ _ _ _ _ _ _ (T118.setTop (mkF m 66 _ [(.ref b118), (.ref b63)]))
    refine Goes.step (fun _ k => XS.dup X118.here hx rfl (hb hby at_66) rfl rfl k) ?_
    refine Goes.step (fun _ k => XS.lload X118.here hx rfl (hb hby at_67) rfl  k) ?_
    refine Goes.step (fun _ k => XS.lload X118.here hx rfl (hb hby at_69) rfl  k) ?_
    refine Goes.step (fun _ k => XS.aconstNull X118.here hx rfl (hb hby at_71) k) ?_
    show Goes _ _ _ _ _ _ _ (T118.setTop (mkF m 72 _ [.null, (.long p0), (.long p0), (.ref b118), (.ref b118), (.ref b63)]))
    refine Goes.step (fun _ k => XS.iconst X118.here hx rfl (hb hby at_72) k) ?_
    obtain ⟨_, _, ⟨T141, L141, k141, n141⟩, -, X141, ⟨Lc141, hQ141, l141, y141, z141⟩, st141⟩ := X118.specialBack hx (y := (⟨"com/example/orbitloom/orbitloom/core/Timeline$Entry", "<init>", "(JJLcom/example/orbitloom/orbitloom/core/Attitude;I)V"⟩ : MethodName)) rfl hown (mvT hZ w_50) (mvT hZ w_51) (mvT hZ w_52) (by decide) (backOf (W := 2) (rm7 l Z a0 hw [] b118 p0 p0 (0 : Int32) h118 n0 Z140 F_start_b118 F_end_b118 F_attitude_b118 F_rev_b118 E_b118 g_b118) hZ w_52 w_49 (by decide) (by decide)) (g := (mkF m 73 #[.val (.long p0), .second, .val (.long p1), .second, .val (.long p2), .second, .val (.long p3), .second, .val (.long p4), .second, .val (.int p5), .val (.int (1 : Int32)), .val (.long p0), .second, .val (.long r60), .second, .val (.long r61), .second, .val (.long r62), .second, .val (.ref b63), .val (.ref b82), .unset, .unset] [(.int (0 : Int32)), .null, (.long p0), (.long p0), (.ref b118), (.ref b118), (.ref b63)])) rfl (by rw [hml]; rfl) (Steps.refl _) (a := b118) (argsL := [(.long p0), (.long p0), .null, (.int (0 : Int32))]) (rest := [(.ref b118), (.ref b63)]) (lenOf pd_2 rfl) rfl (by show 2 * 0 + _ ≤ _; exact Nat.le_of_eq rfl) (hb hby at_73) (fun _ _ => ⟨rfl, e118, (by decide : 5 + 0 ≤ _), (by decide : 21 + 0 ≤ _)⟩)
    dsimp only [Pt.U, Pt.locs, Pt.cells, Pt.slots] at X141 l141 y141 z141 st141 hQ141
    rw [l141, y141, z141] at X141
    obtain ⟨N141, KK141, hR141⟩ := hQ141
    have NA141 := Fr.app NA100 N141
    have XO142 : Old Z n0 T141.heap := XO124.keep KK141 (allS g_b118 all0)
    have f143 := f125.keep KK141 (ninS ne119 nin0)
    have f144 := f126.keep KK141
    have f145 := f127.keep KK141
    have f146 := f128.keep KK141 (ninS ne120 nin0)
    have f147 := f129.keep KK141 (ninS ne120 nin0)
    have f148 := f130.keep KK141 (ninS ne120 nin0)
    have f149 := f131.keep KK141 (ninS ne121 nin0)
    have f150 := f132.keep KK141
    have f151 := f133.keep KK141 (ninS ne122 nin0)
    have f152 := f134.keep KK141 (ninS ne122 nin0)
    have f153 := f135.keep KK141 (ninS ne122 nin0)
    have f154 := f136.keep KK141
    have f155 := f137.keep KK141 (ninS ne123 nin0)
    have f156 := f138.keep KK141 (ninS ne123 nin0)
    have f157 := f139.keep KK141 (ninS ne123 nin0)
    have f158 := E_b118.keep KK141
    have K163 : Keep h0 T141.heap [] := K140.trans KK141 (allS (Or.inr sz_b118) all0)
    have Z163 : n0 ≤ T141.heap.size := Nat.le_trans Z140 KK141.1
    obtain ⟨rfl, v141_0_0, v141_0_1⟩ := hR141
    refine Goes.back st141 ?_
    show Goes _ _ _ _ _ _ _ (T141.setTop (mkF m 76 _ [(.ref b118), (.ref b63)]))
    refine Goes.step (fun _ k => XS.aload X141.here hx rfl (hb hby at_76) rfl rfl k) ?_
    obtain ⟨cq164, kq164, q164a, q164b, q164c⟩ := isOf hZ rfl f145
    obtain ⟨_, _, ⟨T164, L164, k164, n164⟩, -, X164, ⟨Lc164, hQ164, l164, y164, z164⟩, st164⟩ := X141.virtualBack hx (y := (⟨"com/example/orbitloom/orbitloom/core/Timeline", "append", "(Lcom/example/orbitloom/orbitloom/core/Timeline$Entry;Ljava/util/List;)V"⟩ : MethodName)) (z := (⟨"com/example/orbitloom/orbitloom/core/Timeline", "append", "(Lcom/example/orbitloom/orbitloom/core/Timeline$Entry;Ljava/util/List;)V"⟩ : MethodName)) hown (mvT hZ w_67) (mvT hZ w_68) (notFace_of_selects (args := #[]) (mvT hZ w_70)) (mvT hZ w_70) (mvT hZ w_69) (by decide) (backOf (W := 0) (rm9_0 l Z a0 hw [] b63 b118 b82 de ee r69_0_0 r69_0_1 (0 : Int32) kde kk69_0_0 mr T141.heap n0 Z163 S_DE S_EE XO142 f146 f147 f148 f151 f152 f153 f156 f157 f145 f150 v141_0_1 f154 f144 f143 f149 oo69_0_0 MR g_b63 g_r69_0_0 g_r69_0_1 ne79 ne81 nn69_0_0 (Ne.symm ne84) (Ne.symm ne86) (Ne.symm ne85) ne64 ne80 ne78 (Ne.symm ne120) (Ne.symm ne122) (Ne.symm ne121)) hZ w_71 w_8 (by decide) (by decide)) q164a q164c (g := (mkF m 78 #[.val (.long p0), .second, .val (.long p1), .second, .val (.long p2), .second, .val (.long p3), .second, .val (.long p4), .second, .val (.int p5), .val (.int (1 : Int32)), .val (.long p0), .second, .val (.long r60), .second, .val (.long r61), .second, .val (.long r62), .second, .val (.ref b63), .val (.ref b82), .unset, .unset] [(.ref b82), (.ref b118), (.ref b63)])) rfl (by rw [hml]; rfl) (Steps.refl _) (argsL := [(.ref b118), (.ref b82)]) (rest := []) (lenOf pd_3 rfl) rfl (by show 2 * 0 + _ ≤ _; exact Nat.le_of_eq rfl) (hb hby at_78) (fun _ _ => ⟨rfl, rfl, (by decide : 5 + 3 ≤ _), (by decide : 21 + 13 ≤ _)⟩)
    dsimp only [Pt.U, Pt.locs, Pt.cells, Pt.slots] at X164 l164 y164 z164 st164 hQ164
    rw [l164, y164, z164] at X164
    obtain ⟨N164, KK164, hR164⟩ := hQ164
    have NA164 := Fr.app NA141 N164
    have XO165 : Old Z n0 T164.heap := XO142.keep KK164 (allS g_b63 (allS g_r69_0_0 (allS g_r69_0_1 all0)))
    have f166 := f143.keep KK164 (ninS ne64 (ninS ne78 (ninS ne80 nin0)))
    have f167 := f144.keep KK164
    have f168 := f145.keep KK164
    have f173 := f150.keep KK164
    have f177 := f154.keep KK164
    have f178 := f155.keep KK164 (ninS (Ne.symm ne84) (ninS (Ne.symm ne85) (ninS (Ne.symm ne86) nin0)))
    have f179 := f156.keep KK164 (ninS (Ne.symm ne84) (ninS (Ne.symm ne85) (ninS (Ne.symm ne86) nin0)))
    have f180 := f157.keep KK164 (ninS (Ne.symm ne84) (ninS (Ne.symm ne85) (ninS (Ne.symm ne86) nin0)))
    have f181 := v141_0_1.keep KK164
    have f182 := v141_0_0.keep KK164 (ninS (Ne.symm ne120) (ninS (Ne.symm ne121) (ninS (Ne.symm ne122) nin0)))
    have K183 : Keep h0 T164.heap [] := K163.trans KK164 (allS (Or.inr sz_b63) (allS (Or.inr sz_r69_0_0) (allS (Or.inr sz_r69_0_1) all0)))
    have Z183 : n0 ≤ T164.heap.size := Nat.le_trans Z163 KK164.1
    obtain ⟨r164_0_0, r164_0_1, kk164_0_0, rfl, g_r164_0_0, le_r164_0_0, g_r164_0_1, le_r164_0_1, nn164_0_0, v164_0_0, v164_0_1, v164_0_2, v164_0_3, v164_0_4, v164_0_5, v164_0_6, v164_0_7, v164_0_8, v164_0_9, v164_0_10, v164_0_11, v164_0_12, v164_0_13, oo164_0_0⟩ := hR164
    have ne184 : de ≠ r164_0_0 := Nat.ne_of_lt (Nat.lt_of_lt_of_le f143.lt le_r164_0_0)
    have ne185 : b63 ≠ r164_0_0 := Nat.ne_of_lt (Nat.lt_of_lt_of_le f145.lt le_r164_0_0)
    have ne186 : r69_0_0 ≠ r164_0_0 := Nat.ne_of_lt (Nat.lt_of_lt_of_le f149.lt le_r164_0_0)
    have ne187 : r69_0_1 ≠ r164_0_0 := Nat.ne_of_lt (Nat.lt_of_lt_of_le f150.lt le_r164_0_0)
    have ne188 : b82 ≠ r164_0_0 := Nat.ne_of_lt (Nat.lt_of_lt_of_le f154.lt le_r164_0_0)
    have ne189 : b118 ≠ r164_0_0 := Nat.ne_of_lt (Nat.lt_of_lt_of_le v141_0_1.lt le_r164_0_0)
    have sz_r164_0_0 : h0.size ≤ r164_0_0 := Nat.le_trans K163.1 le_r164_0_0
    have ne190 : de ≠ r164_0_1 := Nat.ne_of_lt (Nat.lt_of_lt_of_le f143.lt le_r164_0_1)
    have ne191 : b63 ≠ r164_0_1 := Nat.ne_of_lt (Nat.lt_of_lt_of_le f145.lt le_r164_0_1)
    have ne192 : r69_0_0 ≠ r164_0_1 := Nat.ne_of_lt (Nat.lt_of_lt_of_le f149.lt le_r164_0_1)
    have ne193 : r69_0_1 ≠ r164_0_1 := Nat.ne_of_lt (Nat.lt_of_lt_of_le f150.lt le_r164_0_1)
    have ne194 : b82 ≠ r164_0_1 := Nat.ne_of_lt (Nat.lt_of_lt_of_le f154.lt le_r164_0_1)
    have ne195 : b118 ≠ r164_0_1 := Nat.ne_of_lt (Nat.lt_of_lt_of_le v141_0_1.lt le_r164_0_1)
    have sz_r164_0_1 : h0.size ≤ r164_0_1 := Nat.le_trans K163.1 le_r164_0_1
    refine Goes.back st164 ?_
    show Goes _ _ _ _ _ _ _ (T164.setTop (mkF m 81 _ []))
    refine Goes.step (fun _ k => XS.iload X164.here hx rfl (hb hby at_81) rfl  k) ?_
    refine Goes.step (fun _ k => XS.iconst X164.here hx rfl (hb hby at_83) k) ?_
    refine Goes.step (fun _ k => XS.icmpYes X164.here hx rfl (pc0 := 84) (pc' := 107) rfl (hb hby at_84) rfl (flt (by decide : ¬ ((1 : Int32) < (1 : Int32)))).2.2.2 (by decide) (by decide) k) ?_
    show Goes _ _ _ _ _ _ _ (T164.setTop (mkF m 107 _ []))
    refine Goes.step (fun _ k => XS.iload X164.here hx rfl (hb hby at_107) rfl  k) ?_
    refine Goes.step (fun _ k => XS.iconst X164.here hx rfl (hb hby at_109) k) ?_
    refine Goes.step (fun _ k => XS.icmpYes X164.here hx rfl (pc0 := 110) (pc' := 133) rfl (hb hby at_110) rfl (flt (by decide : ¬ ((2 : Int32) < (1 : Int32)))).2.2.2 (by decide) (by decide) k) ?_
    show Goes _ _ _ _ _ _ _ (T164.setTop (mkF m 133 _ []))
    refine Goes.step (fun _ k => XS.iload X164.here hx rfl (hb hby at_133) rfl  k) ?_
    refine Goes.step (fun _ k => XS.iconst X164.here hx rfl (hb hby at_135) k) ?_
    refine Goes.step (fun _ k => XS.icmpYes X164.here hx rfl (pc0 := 136) (pc' := 159) rfl (hb hby at_136) rfl (flt (by decide : ¬ ((3 : Int32) < (1 : Int32)))).2.2.2 (by decide) (by decide) k) ?_
    show Goes _ _ _ _ _ _ _ (T164.setTop (mkF m 159 #[.val (.long p0), .second, .val (.long p1), .second, .val (.long p2), .second, .val (.long p3), .second, .val (.long p4), .second, .val (.int p5), .val (.int (1 : Int32)), .val (.long p0), .second, .val (.long r60), .second, .val (.long r61), .second, .val (.long r62), .second, .val (.ref b63), .val (.ref b82), .unset, .unset] []))
    refine Goes.step (fun _ k => XS.aload X164.here hx rfl (hb hby at_159) rfl rfl k) ?_
    refine Goes.step (fun _ k => XS.lload X164.here hx rfl (hb hby at_161) rfl  k) ?_
    obtain ⟨cq196, kq196, q196a, q196b, q196c⟩ := isOf hZ rfl v164_0_3
    obtain ⟨_, _, ⟨T196, L196, k196, n196⟩, -, X196, ⟨Lc196, hQ196, l196, y196, z196⟩, st196⟩ := X164.virtualBack hx (y := (⟨"com/example/orbitloom/orbitloom/core/Timeline", "firstStartingFrom", "(J)I"⟩ : MethodName)) (z := (⟨"com/example/orbitloom/orbitloom/core/Timeline", "firstStartingFrom", "(J)I"⟩ : MethodName)) hown (mvT hZ w_145) (mvT hZ w_146) (notFace_of_selects (args := #[]) (mvT hZ w_148)) (mvT hZ w_148) (mvT hZ w_147) (by decide) (backOf (W := 0) (rm20_1 l Z a0 hw [] b63 p4 r69_0_0 kk69_0_0 b118 p0 T164.heap n0 Z183 v164_0_0 v164_0_1 v164_0_3 v164_0_5 f182 f181) hZ w_149 w_8 (by decide) (by decide)) q196a q196c (g := (mkF m 163 #[.val (.long p0), .second, .val (.long p1), .second, .val (.long p2), .second, .val (.long p3), .second, .val (.long p4), .second, .val (.int p5), .val (.int (1 : Int32)), .val (.long p0), .second, .val (.long r60), .second, .val (.long r61), .second, .val (.long r62), .second, .val (.ref b63), .val (.ref b82), .unset, .unset] [(.long p4), (.ref b63)])) rfl (by rw [hml]; rfl) (Steps.refl _) (argsL := [(.long p4)]) (rest := []) (lenOf pd_14 rfl) rfl (by show 2 * 0 + _ ≤ _; exact Nat.le_of_eq rfl) (hb hby at_163) (fun _ _ => ⟨rfl, rfl, (by decide : 8 + 0 ≤ _), (by decide : 34 + 0 ≤ _)⟩)
    dsimp only [Pt.U, Pt.locs, Pt.cells, Pt.slots] at X196 l196 y196 z196 st196 hQ196
    rw [l196, y196, z196] at X196
    obtain ⟨N196, KK196, hR196⟩ := hQ196
    have NA196 := Fr.app NA164 N196
    rcases hR196 with ⟨rfl, u196_0_0⟩ | ⟨rfl, u196_1_0⟩
    · refine Goes.back st196 ?_
      show Goes _ _ _ _ _ _ _ (T196.setTop (mkF m 166 _ [(.int (1 : Int32))]))
      refine Goes.step (fun _ k => XS.istore X196.here hx rfl (hb hby at_166) rfl (l' := #[.val (.long p0), .second, .val (.long p1), .second, .val (.long p2), .second, .val (.long p3), .second, .val (.long p4), .second, .val (.int p5), .val (.int (1 : Int32)), .val (.long p0), .second, .val (.long r60), .second, .val (.long r61), .second, .val (.long r62), .second, .val (.ref b63), .val (.ref b82), .val (.int (1 : Int32)), .unset]) rfl k) ?_
      show Goes _ _ _ _ _ _ _ (T196.setTop (mkF m 168 _ []))
      refine Goes.step (fun _ k => XS.iconst X196.here hx rfl (hb hby at_168) k) ?_
      refine Goes.step (fun _ k => XS.istore X196.here hx rfl (hb hby at_169) rfl (l' := #[.val (.long p0), .second, .val (.long p1), .second, .val (.long p2), .second, .val (.long p3), .second, .val (.long p4), .second, .val (.int p5), .val (.int (1 : Int32)), .val (.long p0), .second, .val (.long r60), .second, .val (.long r61), .second, .val (.long r62), .second, .val (.ref b63), .val (.ref b82), .val (.int (1 : Int32)), .val (.int (0 : Int32))]) rfl k) ?_
      show Goes _ _ _ _ _ _ _ (T196.setTop (mkF m 171 _ []))
      refine Goes.step (fun _ k => XS.iload X196.here hx rfl (hb hby at_171) rfl  k) ?_
      refine Goes.step (fun _ k => XS.ifNo X196.here hx rfl (hb hby at_173) rfl ((if0 _ _).trans (tlt (by decide : (0 : Int32) < (1 : Int32))).2.2.2) k) ?_
      show Goes _ _ _ _ _ _ _ (T196.setTop (mkF m 176 _ []))
      refine Goes.step (fun _ k => XS.lload X196.here hx rfl (hb hby at_176) rfl  k) ?_
      refine Goes.step (fun _ k => XS.lload X196.here hx rfl (hb hby at_178) rfl  k) ?_
      refine Goes.step (fun _ k => XS.lcmp X196.here hx rfl (hb hby at_180) rfl k) ?_
      show Goes _ _ _ _ _ _ _ (T196.setTop (mkF m 181 _ [(.int (lcmpW p0 p4))]))
      refine Goes.step (fun _ k => XS.ifNo X196.here hx rfl (hb hby at_181) rfl ((if0 _ _).trans (tlt ((lw_lt _ _).mpr u196_0_0)).2.1) k) ?_
      show Goes _ _ _ _ _ _ _ (T196.setTop (mkF m 184 _ []))
      refine Goes.step (fun _ k => XS.iinc X196.here hx rfl (hb hby at_184) rfl (l' := #[.val (.long p0), .second, .val (.long p1), .second, .val (.long p2), .second, .val (.long p3), .second, .val (.long p4), .second, .val (.int p5), .val (.int (1 : Int32)), .val (.long p0), .second, .val (.long r60), .second, .val (.long r61), .second, .val (.long r62), .second, .val (.ref b63), .val (.ref b82), .val (.int (1 : Int32)), .val (.int (1 : Int32))]) rfl k) ?_
      show Goes _ _ _ _ _ _ _ (T196.setTop (mkF m 187 #[.val (.long p0), .second, .val (.long p1), .second, .val (.long p2), .second, .val (.long p3), .second, .val (.long p4), .second, .val (.int p5), .val (.int (1 : Int32)), .val (.long p0), .second, .val (.long r60), .second, .val (.long r61), .second, .val (.long r62), .second, .val (.ref b63), .val (.ref b82), .val (.int (1 : Int32)), .val (.int (1 : Int32))] []))
      refine Goes.step (fun _ k => XS.iload X196.here hx rfl (hb hby at_187) rfl  k) ?_
      refine Goes.step (fun _ k => XS.iconst X196.here hx rfl (hb hby at_189) k) ?_
      refine Goes.step (fun _ k => XS.icmpYes X196.here hx rfl (pc0 := 190) (pc' := 204) rfl (hb hby at_190) rfl (flt (by decide : ¬ ((1 : Int32) < (1 : Int32)))).2.2.2 (by decide) (by decide) k) ?_
      show Goes _ _ _ _ _ _ _ (T196.setTop (mkF m 204 _ []))
      refine Goes.step (fun _ k => XS.iload X196.here hx rfl (hb hby at_204) rfl  k) ?_
      refine Goes.step (fun _ k => XS.iconst X196.here hx rfl (hb hby at_206) k) ?_
      refine Goes.step (fun _ k => XS.icmpYes X196.here hx rfl (pc0 := 207) (pc' := 221) rfl (hb hby at_207) rfl (flt (by decide : ¬ ((2 : Int32) < (1 : Int32)))).2.2.2 (by decide) (by decide) k) ?_
      show Goes _ _ _ _ _ _ _ (T196.setTop (mkF m 221 _ []))
      refine Goes.step (fun _ k => XS.iload X196.here hx rfl (hb hby at_221) rfl  k) ?_
      refine Goes.step (fun _ k => XS.iconst X196.here hx rfl (hb hby at_223) k) ?_
      refine Goes.step (fun _ k => XS.icmpYes X196.here hx rfl (pc0 := 224) (pc' := 238) rfl (hb hby at_224) rfl (flt (by decide : ¬ ((3 : Int32) < (1 : Int32)))).2.2.2 (by decide) (by decide) k) ?_
      show Goes _ _ _ _ _ _ _ (T196.setTop (mkF m 238 _ []))
      refine Goes.step (fun _ k => XS.iload X196.here hx rfl (hb hby at_238) rfl  k) ?_
      refine Goes.step (fun _ k => XS.iload X196.here hx rfl (hb hby at_240) rfl  k) ?_
      refine Goes.step (fun _ k => XS.icmpNo X196.here hx rfl (hb hby at_242) rfl (teq (by decide : (1 : Int32) = (1 : Int32))).2 k) ?_
      show Goes _ _ _ _ _ _ _ (T196.setTop (mkF m 245 _ []))
      refine Goes.step (fun _ k => XS.iconst X196.here hx rfl (hb hby at_245) k) ?_
      refine Goes.step (fun _ k => XS.goto X196.here hx rfl (pc0 := 246) (pc' := 250) rfl (hb hby at_246) (by decide) (by decide) k) ?_
      show Goes _ _ _ _ _ _ _ (T196.setTop (mkF m 250 _ [(.int (1 : Int32))]))
      exact Goes.ret X196 hx (BodyLoose.notSynchronized Bd) Bd.returns rfl (Or.inl ⟨rfl, by simp, _, rfl⟩) (hb hby at_250) (by show Q0 Z p0 p1 p2 p3 p4 p5 de kde ee mr h0 n0 (some (.int (1 : Int32))) T196.heap _; rw [KK196]; exact ⟨rfl, NA196⟩) (by decide) (by decide)
    · refine Goes.back st196 ?_
      show Goes _ _ _ _ _ _ _ (T196.setTop (mkF m 166 _ [(.int (0 : Int32))]))
      refine Goes.step (fun _ k => XS.istore X196.here hx rfl (hb hby at_166) rfl (l' := #[.val (.long p0), .second, .val (.long p1), .second, .val (.long p2), .second, .val (.long p3), .second, .val (.long p4), .second, .val (.int p5), .val (.int (1 : Int32)), .val (.long p0), .second, .val (.long r60), .second, .val (.long r61), .second, .val (.long r62), .second, .val (.ref b63), .val (.ref b82), .val (.int (0 : Int32)), .unset]) rfl k) ?_
      show Goes _ _ _ _ _ _ _ (T196.setTop (mkF m 168 _ []))
      refine Goes.step (fun _ k => XS.iconst X196.here hx rfl (hb hby at_168) k) ?_
      refine Goes.step (fun _ k => XS.istore X196.here hx rfl (hb hby at_169) rfl (l' := #[.val (.long p0), .second, .val (.long p1), .second, .val (.long p2), .second, .val (.long p3), .second, .val (.long p4), .second, .val (.int p5), .val (.int (1 : Int32)), .val (.long p0), .second, .val (.long r60), .second, .val (.long r61), .second, .val (.long r62), .second, .val (.ref b63), .val (.ref b82), .val (.int (0 : Int32)), .val (.int (0 : Int32))]) rfl k) ?_
      show Goes _ _ _ _ _ _ _ (T196.setTop (mkF m 171 _ []))
      refine Goes.step (fun _ k => XS.iload X196.here hx rfl (hb hby at_171) rfl  k) ?_
      refine Goes.step (fun _ k => XS.ifNo X196.here hx rfl (hb hby at_173) rfl ((if0 _ _).trans (tlt (by decide : (0 : Int32) < (1 : Int32))).2.2.2) k) ?_
      show Goes _ _ _ _ _ _ _ (T196.setTop (mkF m 176 _ []))
      refine Goes.step (fun _ k => XS.lload X196.here hx rfl (hb hby at_176) rfl  k) ?_
      refine Goes.step (fun _ k => XS.lload X196.here hx rfl (hb hby at_178) rfl  k) ?_
      refine Goes.step (fun _ k => XS.lcmp X196.here hx rfl (hb hby at_180) rfl k) ?_
      show Goes _ _ _ _ _ _ _ (T196.setTop (mkF m 181 _ [(.int (lcmpW p0 p4))]))
      refine Goes.step (fun _ k => XS.ifYes X196.here hx rfl (pc0 := 181) (pc' := 187) rfl (hb hby at_181) rfl ((if0 _ _).trans (flt (fun q => u196_1_0 ((lw_lt _ _).mp q))).2.1) (by decide) (by decide) k) ?_
      show Goes _ _ _ _ _ _ _ (T196.setTop (mkF m 187 _ []))
      refine Goes.step (fun _ k => XS.iload X196.here hx rfl (hb hby at_187) rfl  k) ?_
      refine Goes.step (fun _ k => XS.iconst X196.here hx rfl (hb hby at_189) k) ?_
      refine Goes.step (fun _ k => XS.icmpYes X196.here hx rfl (pc0 := 190) (pc' := 204) rfl (hb hby at_190) rfl (flt (by decide : ¬ ((1 : Int32) < (1 : Int32)))).2.2.2 (by decide) (by decide) k) ?_
      show Goes _ _ _ _ _ _ _ (T196.setTop (mkF m 204 #[.val (.long p0), .second, .val (.long p1), .second, .val (.long p2), .second, .val (.long p3), .second, .val (.long p4), .second, .val (.int p5), .val (.int (1 : Int32)), .val (.long p0), .second, .val (.long r60), .second, .val (.long r61), .second, .val (.long r62), .second, .val (.ref b63), .val (.ref b82), .val (.int (0 : Int32)), .val (.int (0 : Int32))] []))
      refine Goes.step (fun _ k => XS.iload X196.here hx rfl (hb hby at_204) rfl  k) ?_
      refine Goes.step (fun _ k => XS.iconst X196.here hx rfl (hb hby at_206) k) ?_
      refine Goes.step (fun _ k => XS.icmpYes X196.here hx rfl (pc0 := 207) (pc' := 221) rfl (hb hby at_207) rfl (flt (by decide : ¬ ((2 : Int32) < (1 : Int32)))).2.2.2 (by decide) (by decide) k) ?_
      show Goes _ _ _ _ _ _ _ (T196.setTop (mkF m 221 _ []))
      refine Goes.step (fun _ k => XS.iload X196.here hx rfl (hb hby at_221) rfl  k) ?_
      refine Goes.step (fun _ k => XS.iconst X196.here hx rfl (hb hby at_223) k) ?_
      refine Goes.step (fun _ k => XS.icmpYes X196.here hx rfl (pc0 := 224) (pc' := 238) rfl (hb hby at_224) rfl (flt (by decide : ¬ ((3 : Int32) < (1 : Int32)))).2.2.2 (by decide) (by decide) k) ?_
      show Goes _ _ _ _ _ _ _ (T196.setTop (mkF m 238 _ []))
      refine Goes.step (fun _ k => XS.iload X196.here hx rfl (hb hby at_238) rfl  k) ?_
      refine Goes.step (fun _ k => XS.iload X196.here hx rfl (hb hby at_240) rfl  k) ?_
      refine Goes.step (fun _ k => XS.icmpNo X196.here hx rfl (hb hby at_242) rfl (teq (by decide : (0 : Int32) = (0 : Int32))).2 k) ?_
      show Goes _ _ _ _ _ _ _ (T196.setTop (mkF m 245 _ []))
      refine Goes.step (fun _ k => XS.iconst X196.here hx rfl (hb hby at_245) k) ?_
      refine Goes.step (fun _ k => XS.goto X196.here hx rfl (pc0 := 246) (pc' := 250) rfl (hb hby at_246) (by decide) (by decide) k) ?_
      show Goes _ _ _ _ _ _ _ (T196.setTop (mkF m 250 _ [(.int (1 : Int32))]))
      exact Goes.ret X196 hx (BodyLoose.notSynchronized Bd) Bd.returns rfl (Or.inl ⟨rfl, by simp, _, rfl⟩) (hb hby at_250) (by show Q0 Z p0 p1 p2 p3 p4 p5 de kde ee mr h0 n0 (some (.int (1 : Int32))) T196.heap _; rw [KK196]; exact ⟨rfl, NA196⟩) (by decide) (by decide)
  · show Goes _ _ _ _ _ _ _ (s₁.setTop (mkF m 9 #[.val (.long p0), .second, .val (.long p1), .second, .val (.long p2), .second, .val (.long p3), .second, .val (.long p4), .second, .val (.int p5), .val (.int (2 : Int32)), .unset, .unset, .unset, .unset, .unset, .unset, .unset, .unset, .unset, .unset, .unset, .unset] []))
    refine Goes.step (fun _ k => XS.lloadN X0.here hx rfl (hb hby at_9) rfl  k) ?_
    refine Goes.step (fun _ k => XS.lstore X0.here hx rfl (hb hby at_10) rfl (l' := #[.val (.long p0), .second, .val (.long p1), .second, .val (.long p2), .second, .val (.long p3), .second, .val (.long p4), .second, .val (.int p5), .val (.int (2 : Int32)), .val (.long p0), .second, .unset, .unset, .unset, .unset, .unset, .unset, .unset, .unset, .unset, .unset]) rfl k) ?_
    show Goes _ _ _ _ _ _ _ (s₁.setTop (mkF m 12 _ []))
    refine Goes.step (fun _ k => XS.lload X0.here hx rfl (hb hby at_12) rfl  k) ?_
    refine Goes.step (fun _ k => XS.lloadN X0.here hx rfl (hb hby at_14) rfl  k) ?_
    obtain ⟨_, _, ⟨T197, L197, k197, n197⟩, -, X197, ⟨Lc197, hQ197, l197, y197, z197⟩, st197⟩ := Jvm.LawKit.callS X0 hx (y := (⟨"com/example/orbitloom/orbitloom/core/TimelineFirstStartingFromPinLaw", "step", "(JJ)J"⟩ : MethodName)) hown (mvT hZ w_1) (mvT hZ w_2) (mvT hZ w_3) (mvT hZ w_4) (by decide) (backOf (W := 0) (rm1 l Z a0 hw [] p0 p1 h0 n0 Z0) hZ w_4 w_3 (by decide) (by decide)) (g := (mkF m 15 #[.val (.long p0), .second, .val (.long p1), .second, .val (.long p2), .second, .val (.long p3), .second, .val (.long p4), .second, .val (.int p5), .val (.int (2 : Int32)), .val (.long p0), .second, .unset, .unset, .unset, .unset, .unset, .unset, .unset, .unset, .unset, .unset] [(.long p1), (.long p0)])) rfl (by rw [hml]; rfl) (argsL := [(.long p0), (.long p1)]) (rest := []) (lenOf pd_0 rfl) rfl (by show 2 * 0 + _ ≤ _; exact Nat.le_of_eq rfl) (hb hby at_15) (fun _ _ => ⟨rfl, e0, (by decide : 0 + 0 ≤ _), (by decide : 0 + 0 ≤ _)⟩)
    dsimp only [Pt.U, Pt.locs, Pt.cells, Pt.slots] at X197 l197 y197 z197 st197 hQ197
    rw [l197, y197, z197] at X197
    obtain ⟨N197, eh197, r197, rfl, mo197⟩ := hQ197
    have NA197 := Fr.app N0 N197
    refine Goes.step st197 ?_
    show Goes _ _ _ _ _ _ _ (T197.setTop (mkF m 18 _ [(.long r197)]))
    refine Goes.step (fun _ k => XS.lstore X197.here hx rfl (hb hby at_18) rfl (l' := #[.val (.long p0), .second, .val (.long p1), .second, .val (.long p2), .second, .val (.long p3), .second, .val (.long p4), .second, .val (.int p5), .val (.int (2 : Int32)), .val (.long p0), .second, .val (.long r197), .second, .unset, .unset, .unset, .unset, .unset, .unset, .unset, .unset]) rfl k) ?_
    show Goes _ _ _ _ _ _ _ (T197.setTop (mkF m 20 _ []))
    refine Goes.step (fun _ k => XS.lload X197.here hx rfl (hb hby at_20) rfl  k) ?_
    refine Goes.step (fun _ k => XS.lload X197.here hx rfl (hb hby at_22) rfl  k) ?_
    obtain ⟨_, _, ⟨T198, L198, k198, n198⟩, -, X198, ⟨Lc198, hQ198, l198, y198, z198⟩, st198⟩ := Jvm.LawKit.callS X197 hx (y := (⟨"com/example/orbitloom/orbitloom/core/TimelineFirstStartingFromPinLaw", "step", "(JJ)J"⟩ : MethodName)) hown (mvT hZ w_1) (mvT hZ w_2) (mvT hZ w_3) (mvT hZ w_4) (by decide) (backOf (W := 0) (rm1 l Z a0 hw [] r197 p2 h0 n0 Z0) hZ w_4 w_3 (by decide) (by decide)) (g := (mkF m 24 #[.val (.long p0), .second, .val (.long p1), .second, .val (.long p2), .second, .val (.long p3), .second, .val (.long p4), .second, .val (.int p5), .val (.int (2 : Int32)), .val (.long p0), .second, .val (.long r197), .second, .unset, .unset, .unset, .unset, .unset, .unset, .unset, .unset] [(.long p2), (.long r197)])) rfl (by rw [hml]; rfl) (argsL := [(.long r197), (.long p2)]) (rest := []) (lenOf pd_0 rfl) rfl (by show 2 * 0 + _ ≤ _; exact Nat.le_of_eq rfl) (hb hby at_24) (fun _ _ => ⟨rfl, eh197, (by decide : 0 + 0 ≤ _), (by decide : 0 + 0 ≤ _)⟩)
    dsimp only [Pt.U, Pt.locs, Pt.cells, Pt.slots] at X198 l198 y198 z198 st198 hQ198
    rw [l198, y198, z198] at X198
    obtain ⟨N198, eh198, r198, rfl, mo198⟩ := hQ198
    have NA198 := Fr.app NA197 N198
    refine Goes.step st198 ?_
    show Goes _ _ _ _ _ _ _ (T198.setTop (mkF m 27 _ [(.long r198)]))
    refine Goes.step (fun _ k => XS.lstore X198.here hx rfl (hb hby at_27) rfl (l' := #[.val (.long p0), .second, .val (.long p1), .second, .val (.long p2), .second, .val (.long p3), .second, .val (.long p4), .second, .val (.int p5), .val (.int (2 : Int32)), .val (.long p0), .second, .val (.long r197), .second, .val (.long r198), .second, .unset, .unset, .unset, .unset, .unset, .unset]) rfl k) ?_
    show Goes _ _ _ _ _ _ _ (T198.setTop (mkF m 29 _ []))
    refine Goes.step (fun _ k => XS.lload X198.here hx rfl (hb hby at_29) rfl  k) ?_
    refine Goes.step (fun _ k => XS.lload X198.here hx rfl (hb hby at_31) rfl  k) ?_
    obtain ⟨_, _, ⟨T199, L199, k199, n199⟩, -, X199, ⟨Lc199, hQ199, l199, y199, z199⟩, st199⟩ := Jvm.LawKit.callS X198 hx (y := (⟨"com/example/orbitloom/orbitloom/core/TimelineFirstStartingFromPinLaw", "step", "(JJ)J"⟩ : MethodName)) hown (mvT hZ w_1) (mvT hZ w_2) (mvT hZ w_3) (mvT hZ w_4) (by decide) (backOf (W := 0) (rm1 l Z a0 hw [] r198 p3 h0 n0 Z0) hZ w_4 w_3 (by decide) (by decide)) (g := (mkF m 33 #[.val (.long p0), .second, .val (.long p1), .second, .val (.long p2), .second, .val (.long p3), .second, .val (.long p4), .second, .val (.int p5), .val (.int (2 : Int32)), .val (.long p0), .second, .val (.long r197), .second, .val (.long r198), .second, .unset, .unset, .unset, .unset, .unset, .unset] [(.long p3), (.long r198)])) rfl (by rw [hml]; rfl) (argsL := [(.long r198), (.long p3)]) (rest := []) (lenOf pd_0 rfl) rfl (by show 2 * 0 + _ ≤ _; exact Nat.le_of_eq rfl) (hb hby at_33) (fun _ _ => ⟨rfl, eh198, (by decide : 0 + 0 ≤ _), (by decide : 0 + 0 ≤ _)⟩)
    dsimp only [Pt.U, Pt.locs, Pt.cells, Pt.slots] at X199 l199 y199 z199 st199 hQ199
    rw [l199, y199, z199] at X199
    obtain ⟨N199, eh199, r199, rfl, mo199⟩ := hQ199
    have NA199 := Fr.app NA198 N199
    refine Goes.step st199 ?_
    show Goes _ _ _ _ _ _ _ (T199.setTop (mkF m 36 _ [(.long r199)]))
    refine Goes.step (fun _ k => XS.lstore X199.here hx rfl (hb hby at_36) rfl (l' := #[.val (.long p0), .second, .val (.long p1), .second, .val (.long p2), .second, .val (.long p3), .second, .val (.long p4), .second, .val (.int p5), .val (.int (2 : Int32)), .val (.long p0), .second, .val (.long r197), .second, .val (.long r198), .second, .val (.long r199), .second, .unset, .unset, .unset, .unset]) rfl k) ?_
    show Goes _ _ _ _ _ _ _ (T199.setTop (mkF m 38 #[.val (.long p0), .second, .val (.long p1), .second, .val (.long p2), .second, .val (.long p3), .second, .val (.long p4), .second, .val (.int p5), .val (.int (2 : Int32)), .val (.long p0), .second, .val (.long r197), .second, .val (.long r198), .second, .val (.long r199), .second, .unset, .unset, .unset, .unset] []))
    obtain ⟨T200, h200, X200, e200, E200, A200, D200, -, st200⟩ := newO X199 hx hZ hown w_6 w_7 w_8 eh199 (g := (mkF m 38 #[.val (.long p0), .second, .val (.long p1), .second, .val (.long p2), .second, .val (.long p3), .second, .val (.long p4), .second, .val (.int p5), .val (.int (2 : Int32)), .val (.long p0), .second, .val (.long r197), .second, .val (.long r198), .second, .val (.long r199), .second, .unset, .unset, .unset, .unset] [])) rfl (hb hby at_38) (by decide) (by decide)
    obtain ⟨b200, g200⟩ : ∃ z, z = h0.size := ⟨_, rfl⟩
    rw [← g200] at A200 D200 st200
    refine Goes.step st200 ?_
    have g_b200 : n0 ≤ b200 := Nat.le_trans Z0 (Nat.le_of_eq g200.symm)
    have sz_b200 : h0.size ≤ b200 := Nat.le_trans K0.1 (Nat.le_of_eq g200.symm)
    have ne201 : de ≠ b200 := Nat.ne_of_lt (Nat.lt_of_lt_of_le V_de.lt (Nat.le_of_eq g200.symm))
    have XO202 : Old Z n0 h200 := X00.ext E200
    have f203 := V_de.ext E200
    have f204 := E_de.ext E200
    have K205 : Keep h0 h200 [] := K0.ext E200
    have Z205 : n0 ≤ h200.size := Nat.le_trans Z0 E200.1
    have E_b200 := A200
    have F_entries_b200 : Fld Z h200 b200 "com/example/orbitloom/orbitloom/core/Timeline" "entries" "[Lcom/example/orbitloom/orbitloom/core/Timeline$Entry;" .null := D200 (Or.inl w_18) (ty := (.array (.object "com/example/orbitloom/orbitloom/core/Timeline$Entry"))) (by decide)
    have F_members_b200 : Fld Z h200 b200 "com/example/orbitloom/orbitloom/core/Timeline" "members" "Ljava/util/List;" .null := D200 (Or.inr w_44) (ty := (.object "java/util/List")) (by decide)
    have F_size_b200 : Fld Z h200 b200 "com/example/orbitloom/orbitloom/core/Timeline" "size" "I" (.int (0 : Int32)) := D200 (Or.inl w_73) (ty := .int) (by decide)
    show Goes _ _ _ _ _ _ _ (T200.setTop (mkF m 41 _ [(.ref b200)]))
    refine Goes.step (fun _ k => XS.dup X200.here hx rfl (hb hby at_41) rfl rfl k) ?_
    obtain ⟨_, _, ⟨T206, L206, k206, n206⟩, -, X206, ⟨Lc206, hQ206, l206, y206, z206⟩, st206⟩ := X200.specialBack hx (y := (⟨"com/example/orbitloom/orbitloom/core/Timeline", "<init>", "()V"⟩ : MethodName)) rfl hown (mvT hZ w_9) (mvT hZ w_10) (mvT hZ w_11) (by decide) (backOf (W := 1) (rm2 l Z a0 hw [] b200 de h200 n0 Z205 S_DE XO202 F_entries_b200 F_size_b200 F_members_b200 E_b200 g_b200) hZ w_11 w_8 (by decide) (by decide)) (g := (mkF m 42 #[.val (.long p0), .second, .val (.long p1), .second, .val (.long p2), .second, .val (.long p3), .second, .val (.long p4), .second, .val (.int p5), .val (.int (2 : Int32)), .val (.long p0), .second, .val (.long r197), .second, .val (.long r198), .second, .val (.long r199), .second, .unset, .unset, .unset, .unset] [(.ref b200), (.ref b200)])) rfl (by rw [hml]; rfl) (Steps.refl _) (a := b200) (argsL := []) (rest := [(.ref b200)]) (lenOf pd_1 rfl) rfl (by show 2 * 0 + _ ≤ _; exact Nat.le_of_eq rfl) (hb hby at_42) (fun _ _ => ⟨rfl, e200, (by decide : 1 + 2 ≤ _), (by decide : 3 + 11 ≤ _)⟩)
    dsimp only [Pt.U, Pt.locs, Pt.cells, Pt.slots] at X206 l206 y206 z206 st206 hQ206
    rw [l206, y206, z206] at X206
    obtain ⟨N206, KK206, hR206⟩ := hQ206
    have NA206 := Fr.app NA199 N206
    have XO207 : Old Z n0 T206.heap := XO202.keep KK206 (allS g_b200 all0)
    have f208 := f203.keep KK206 (ninS ne201 nin0)
    have f209 := f204.keep KK206
    have f210 := E_b200.keep KK206
    have K214 : Keep h0 T206.heap [] := K205.trans KK206 (allS (Or.inr sz_b200) all0)
    have Z214 : n0 ≤ T206.heap.size := Nat.le_trans Z205 KK206.1
    obtain ⟨r206_0_0, r206_0_1, kk206_0_0, rfl, g_r206_0_0, le_r206_0_0, g_r206_0_1, le_r206_0_1, nn206_0_0, v206_0_0, v206_0_1, v206_0_2, v206_0_3, v206_0_4, v206_0_5, v206_0_6, v206_0_7, v206_0_8, oo206_0_0⟩ := hR206
    have ne215 : de ≠ r206_0_0 := Nat.ne_of_lt (Nat.lt_of_lt_of_le f203.lt le_r206_0_0)
    have ne216 : b200 ≠ r206_0_0 := Nat.ne_of_lt (Nat.lt_of_lt_of_le E_b200.lt le_r206_0_0)
    have sz_r206_0_0 : h0.size ≤ r206_0_0 := Nat.le_trans K205.1 le_r206_0_0
    have ne217 : de ≠ r206_0_1 := Nat.ne_of_lt (Nat.lt_of_lt_of_le f203.lt le_r206_0_1)
    have ne218 : b200 ≠ r206_0_1 := Nat.ne_of_lt (Nat.lt_of_lt_of_le E_b200.lt le_r206_0_1)
    have sz_r206_0_1 : h0.size ≤ r206_0_1 := Nat.le_trans K205.1 le_r206_0_1
    refine Goes.back st206 ?_
    show Goes _ _ _ _ _ _ _ (T206.setTop (mkF m 45 _ [(.ref b200)]))
    refine Goes.step (fun _ k => XS.astore X206.here hx rfl (hb hby at_45) rfl rfl (l' := #[.val (.long p0), .second, .val (.long p1), .second, .val (.long p2), .second, .val (.long p3), .second, .val (.long p4), .second, .val (.int p5), .val (.int (2 : Int32)), .val (.long p0), .second, .val (.long r197), .second, .val (.long r198), .second, .val (.long r199), .second, .val (.ref b200), .unset, .unset, .unset]) rfl k) ?_
    show Goes _ _ _ _ _ _ _ (T206.setTop (mkF m 47 _ []))
    obtain ⟨T219, h219, X219, e219, E219, A219, D219, -, st219⟩ := newO X206 hx hZ hown w_45 w_20 w_21 rfl (g := (mkF m 47 #[.val (.long p0), .second, .val (.long p1), .second, .val (.long p2), .second, .val (.long p3), .second, .val (.long p4), .second, .val (.int p5), .val (.int (2 : Int32)), .val (.long p0), .second, .val (.long r197), .second, .val (.long r198), .second, .val (.long r199), .second, .val (.ref b200), .unset, .unset, .unset] [])) rfl (hb hby at_47) (by decide) (by decide)
    obtain ⟨b219, g219⟩ : ∃ z, z = T206.heap.size := ⟨_, rfl⟩
    rw [← g219] at A219 D219 st219
    refine Goes.step st219 ?_
    have g_b219 : n0 ≤ b219 := Nat.le_trans Z214 (Nat.le_of_eq g219.symm)
    have sz_b219 : h0.size ≤ b219 := Nat.le_trans K214.1 (Nat.le_of_eq g219.symm)
    have ne220 : de ≠ b219 := Nat.ne_of_lt (Nat.lt_of_lt_of_le f208.lt (Nat.le_of_eq g219.symm))
    have ne221 : b200 ≠ b219 := Nat.ne_of_lt (Nat.lt_of_lt_of_le v206_0_3.lt (Nat.le_of_eq g219.symm))
    have ne222 : r206_0_0 ≠ b219 := Nat.ne_of_lt (Nat.lt_of_lt_of_le v206_0_4.lt (Nat.le_of_eq g219.symm))
    have ne223 : r206_0_1 ≠ b219 := Nat.ne_of_lt (Nat.lt_of_lt_of_le v206_0_5.lt (Nat.le_of_eq g219.symm))
    have XO224 : Old Z n0 h219 := XO207.ext E219
    have f225 := f208.ext E219
    have f226 := f209.ext E219
    have f227 := v206_0_3.ext E219
    have f228 := v206_0_0.ext E219
    have f229 := v206_0_1.ext E219
    have f230 := v206_0_2.ext E219
    have f231 := v206_0_4.ext E219
    have f232 := v206_0_5.ext E219
    have f233 := v206_0_6.ext E219
    have f234 := v206_0_7.ext E219
    have f235 := v206_0_8.ext E219
    have K236 : Keep h0 h219 [] := K214.ext E219
    have Z236 : n0 ≤ h219.size := Nat.le_trans Z214 E219.1
    have E_b219 := A219
    have F_modCount_b219 : Fld Z h219 b219 "java/util/AbstractList" "modCount" "I" (.int (0 : Int32)) := D219 (Or.inl w_39) (ty := .int) (by decide)
    have F_elementData_b219 : Fld Z h219 b219 "java/util/ArrayList" "elementData" "[Ljava/lang/Object;" .null := D219 (Or.inl w_42) (ty := (.array (.object "java/lang/Object"))) (by decide)
    have F_size_b219 : Fld Z h219 b219 "java/util/ArrayList" "size" "I" (.int (0 : Int32)) := D219 (Or.inl w_88) (ty := .int) (by decide)
    show Goes _ _ _ _ _ _ _ (T219.setTop (mkF m 50 _ [(.ref b219)]))
    refine Goes.step (fun _ k => XS.dup X219.here hx rfl (hb hby at_50) rfl rfl k) ?_
    obtain ⟨_, _, ⟨T237, L237, k237, n237⟩, -, X237, ⟨Lc237, hQ237, l237, y237, z237⟩, st237⟩ := X219.specialBack hx (y := (⟨"java/util/ArrayList", "<init>", "()V"⟩ : MethodName)) rfl hown (mvT hZ w_46) (mvT hZ w_23) (mvT hZ w_24) (by decide) (backOf (W := 1) (rm4 l Z a0 hw [] b219 de (0 : Int32) h219 n0 Z236 S_DE XO224 F_modCount_b219 F_elementData_b219 F_size_b219 E_b219 g_b219) hZ w_24 w_21 (by decide) (by decide)) (g := (mkF m 51 #[.val (.long p0), .second, .val (.long p1), .second, .val (.long p2), .second, .val (.long p3), .second, .val (.long p4), .second, .val (.int p5), .val (.int (2 : Int32)), .val (.long p0), .second, .val (.long r197), .second, .val (.long r198), .second, .val (.long r199), .second, .val (.ref b200), .unset, .unset, .unset] [(.ref b219), (.ref b219)])) rfl (by rw [hml]; rfl) (Steps.refl _) (a := b219) (argsL := []) (rest := [(.ref b219)]) (lenOf pd_1 rfl) rfl (by show 2 * 0 + _ ≤ _; exact Nat.le_of_eq rfl) (hb hby at_51) (fun _ _ => ⟨rfl, e219, (by decide : 4 + 0 ≤ _), (by decide : 17 + 0 ≤ _)⟩)
    dsimp only [Pt.U, Pt.locs, Pt.cells, Pt.slots] at X237 l237 y237 z237 st237 hQ237
    rw [l237, y237, z237] at X237
    obtain ⟨N237, KK237, hR237⟩ := hQ237
    have NA237 := Fr.app NA206 N237
    have XO238 : Old Z n0 T237.heap := XO224.keep KK237 (allS g_b219 all0)
    have f239 := f225.keep KK237 (ninS ne220 nin0)
    have f240 := f226.keep KK237
    have f241 := f227.keep KK237
    have f242 := f228.keep KK237 (ninS ne221 nin0)
    have f243 := f229.keep KK237 (ninS ne221 nin0)
    have f244 := f230.keep KK237 (ninS ne221 nin0)
    have f245 := f231.keep KK237 (ninS ne222 nin0)
    have f246 := f232.keep KK237
    have f247 := f233.keep KK237 (ninS ne223 nin0)
    have f248 := f234.keep KK237 (ninS ne223 nin0)
    have f249 := f235.keep KK237 (ninS ne223 nin0)
    have f250 := E_b219.keep KK237
    have K254 : Keep h0 T237.heap [] := K236.trans KK237 (allS (Or.inr sz_b219) all0)
    have Z254 : n0 ≤ T237.heap.size := Nat.le_trans Z236 KK237.1
    obtain ⟨rfl, v237_0_0, v237_0_1, v237_0_2, v237_0_3⟩ := hR237
    refine Goes.back st237 ?_
    show Goes _ _ _ _ _ _ _ (T237.setTop (mkF m 54 _ [(.ref b219)]))
    refine Goes.step (fun _ k => XS.astore X237.here hx rfl (hb hby at_54) rfl rfl (l' := #[.val (.long p0), .second, .val (.long p1), .second, .val (.long p2), .second, .val (.long p3), .second, .val (.long p4), .second, .val (.int p5), .val (.int (2 : Int32)), .val (.long p0), .second, .val (.long r197), .second, .val (.long r198), .second, .val (.long r199), .second, .val (.ref b200), .val (.ref b219), .unset, .unset]) rfl k) ?_
    show Goes _ _ _ _ _ _ _ (T237.setTop (mkF m 56 _ []))
    refine Goes.step (fun _ k => XS.iload X237.here hx rfl (hb hby at_56) rfl  k) ?_
    refine Goes.step (fun _ k => XS.ifNo X237.here hx rfl (hb hby at_58) rfl ((if0 _ _).trans (tlt (by decide : (0 : Int32) < (2 : Int32))).2.2.2) k) ?_
    show Goes _ _ _ _ _ _ _ (T237.setTop (mkF m 61 #[.val (.long p0), .second, .val (.long p1), .second, .val (.long p2), .second, .val (.long p3), .second, .val (.long p4), .second, .val (.int p5), .val (.int (2 : Int32)), .val (.long p0), .second, .val (.long r197), .second, .val (.long r198), .second, .val (.long r199), .second, .val (.ref b200), .val (.ref b219), .unset, .unset] []))
    refine Goes.step (fun _ k => XS.aload X237.here hx rfl (hb hby at_61) rfl rfl k) ?_
    obtain ⟨T255, h255, X255, e255, E255, A255, D255, -, st255⟩ := newO X237 hx hZ hown w_47 w_48 w_49 rfl (g := (mkF m 63 #[.val (.long p0), .second, .val (.long p1), .second, .val (.long p2), .second, .val (.long p3), .second, .val (.long p4), .second, .val (.int p5), .val (.int (2 : Int32)), .val (.long p0), .second, .val (.long r197), .second, .val (.long r198), .second, .val (.long r199), .second, .val (.ref b200), .val (.ref b219), .unset, .unset] [(.ref b200)])) rfl (hb hby at_63) (by decide) (by decide)
    obtain ⟨b255, g255⟩ : ∃ z, z = T237.heap.size := ⟨_, rfl⟩
    rw [← g255] at A255 D255 st255
    refine Goes.step st255 ?_
    have g_b255 : n0 ≤ b255 := Nat.le_trans Z254 (Nat.le_of_eq g255.symm)
    have sz_b255 : h0.size ≤ b255 := Nat.le_trans K254.1 (Nat.le_of_eq g255.symm)
    have ne256 : de ≠ b255 := Nat.ne_of_lt (Nat.lt_of_lt_of_le f239.lt (Nat.le_of_eq g255.symm))
    have ne257 : b200 ≠ b255 := Nat.ne_of_lt (Nat.lt_of_lt_of_le f241.lt (Nat.le_of_eq g255.symm))
    have ne258 : r206_0_0 ≠ b255 := Nat.ne_of_lt (Nat.lt_of_lt_of_le f245.lt (Nat.le_of_eq g255.symm))
    have ne259 : r206_0_1 ≠ b255 := Nat.ne_of_lt (Nat.lt_of_lt_of_le f246.lt (Nat.le_of_eq g255.symm))
    have ne260 : b219 ≠ b255 := Nat.ne_of_lt (Nat.lt_of_lt_of_le v237_0_0.lt (Nat.le_of_eq g255.symm))
    have XO261 : Old Z n0 h255 := XO238.ext E255
    have f262 := f239.ext E255
    have f263 := f240.ext E255
    have f264 := f241.ext E255
    have f265 := f242.ext E255
    have f266 := f243.ext E255
    have f267 := f244.ext E255
    have f268 := f245.ext E255
    have f269 := f246.ext E255
    have f270 := f247.ext E255
    have f271 := f248.ext E255
    have f272 := f249.ext E255
    have f273 := v237_0_0.ext E255
    have f274 := v237_0_1.ext E255
    have f275 := v237_0_2.ext E255
    have f276 := v237_0_3.ext E255
    have K277 : Keep h0 h255 [] := K254.ext E255
    have Z277 : n0 ≤ h255.size := Nat.le_trans Z254 E255.1
    have E_b255 := A255
    have F_start_b255 : Fld Z h255 b255 "com/example/orbitloom/orbitloom/core/Timeline$Entry" "start" "J" (.long (0 : Int64)) := D255 (Or.inr w_60) (ty := .long) (by decide)
    have F_end_b255 : Fld Z h255 b255 "com/example/orbitloom/orbitloom/core/Timeline$Entry" "end" "J" (.long (0 : Int64)) := D255 (Or.inr w_62) (ty := .long) (by decide)
    have F_attitude_b255 : Fld Z h255 b255 "com/example/orbitloom/orbitloom/core/Timeline$Entry" "attitude" "Lcom/example/orbitloom/orbitloom/core/Attitude;" .null := D255 (Or.inr w_64) (ty := (.object "com/example/orbitloom/orbitloom/core/Attitude")) (by decide)
    have F_rev_b255 : Fld Z h255 b255 "com/example/orbitloom/orbitloom/core/Timeline$Entry" "rev" "I" (.int (0 : Int32)) := D255 (Or.inr w_66) (ty := .int) (by decide)
    show Goes _ _ _ _ _ _ _ (T255.setTop (mkF m 66 _ [(.ref b255), (.ref b200)]))
    refine Goes.step (fun _ k => XS.dup X255.here hx rfl (hb hby at_66) rfl rfl k) ?_
    refine Goes.step (fun _ k => XS.lload X255.here hx rfl (hb hby at_67) rfl  k) ?_
    refine Goes.step (fun _ k => XS.lload X255.here hx rfl (hb hby at_69) rfl  k) ?_
    refine Goes.step (fun _ k => XS.aconstNull X255.here hx rfl (hb hby at_71) k) ?_
    show Goes _ _ _ _ _ _ _ (T255.setTop (mkF m 72 _ [.null, (.long p0), (.long p0), (.ref b255), (.ref b255), (.ref b200)]))
    refine Goes.step (fun _ k => XS.iconst X255.here hx rfl (hb hby at_72) k) ?_
    obtain ⟨_, _, ⟨T278, L278, k278, n278⟩, -, X278, ⟨Lc278, hQ278, l278, y278, z278⟩, st278⟩ := X255.specialBack hx (y := (⟨"com/example/orbitloom/orbitloom/core/Timeline$Entry", "<init>", "(JJLcom/example/orbitloom/orbitloom/core/Attitude;I)V"⟩ : MethodName)) rfl hown (mvT hZ w_50) (mvT hZ w_51) (mvT hZ w_52) (by decide) (backOf (W := 2) (rm7 l Z a0 hw [] b255 p0 p0 (0 : Int32) h255 n0 Z277 F_start_b255 F_end_b255 F_attitude_b255 F_rev_b255 E_b255 g_b255) hZ w_52 w_49 (by decide) (by decide)) (g := (mkF m 73 #[.val (.long p0), .second, .val (.long p1), .second, .val (.long p2), .second, .val (.long p3), .second, .val (.long p4), .second, .val (.int p5), .val (.int (2 : Int32)), .val (.long p0), .second, .val (.long r197), .second, .val (.long r198), .second, .val (.long r199), .second, .val (.ref b200), .val (.ref b219), .unset, .unset] [(.int (0 : Int32)), .null, (.long p0), (.long p0), (.ref b255), (.ref b255), (.ref b200)])) rfl (by rw [hml]; rfl) (Steps.refl _) (a := b255) (argsL := [(.long p0), (.long p0), .null, (.int (0 : Int32))]) (rest := [(.ref b255), (.ref b200)]) (lenOf pd_2 rfl) rfl (by show 2 * 0 + _ ≤ _; exact Nat.le_of_eq rfl) (hb hby at_73) (fun _ _ => ⟨rfl, e255, (by decide : 5 + 0 ≤ _), (by decide : 21 + 0 ≤ _)⟩)
    dsimp only [Pt.U, Pt.locs, Pt.cells, Pt.slots] at X278 l278 y278 z278 st278 hQ278
    rw [l278, y278, z278] at X278
    obtain ⟨N278, KK278, hR278⟩ := hQ278
    have NA278 := Fr.app NA237 N278
    have XO279 : Old Z n0 T278.heap := XO261.keep KK278 (allS g_b255 all0)
    have f280 := f262.keep KK278 (ninS ne256 nin0)
    have f281 := f263.keep KK278
    have f282 := f264.keep KK278
    have f283 := f265.keep KK278 (ninS ne257 nin0)
    have f284 := f266.keep KK278 (ninS ne257 nin0)
    have f285 := f267.keep KK278 (ninS ne257 nin0)
    have f286 := f268.keep KK278 (ninS ne258 nin0)
    have f287 := f269.keep KK278
    have f288 := f270.keep KK278 (ninS ne259 nin0)
    have f289 := f271.keep KK278 (ninS ne259 nin0)
    have f290 := f272.keep KK278 (ninS ne259 nin0)
    have f291 := f273.keep KK278
    have f292 := f274.keep KK278 (ninS ne260 nin0)
    have f293 := f275.keep KK278 (ninS ne260 nin0)
    have f294 := f276.keep KK278 (ninS ne260 nin0)
    have f295 := E_b255.keep KK278
    have K300 : Keep h0 T278.heap [] := K277.trans KK278 (allS (Or.inr sz_b255) all0)
    have Z300 : n0 ≤ T278.heap.size := Nat.le_trans Z277 KK278.1
    obtain ⟨rfl, v278_0_0, v278_0_1⟩ := hR278
    refine Goes.back st278 ?_
    show Goes _ _ _ _ _ _ _ (T278.setTop (mkF m 76 _ [(.ref b255), (.ref b200)]))
    refine Goes.step (fun _ k => XS.aload X278.here hx rfl (hb hby at_76) rfl rfl k) ?_
    obtain ⟨cq301, kq301, q301a, q301b, q301c⟩ := isOf hZ rfl f282
    obtain ⟨_, _, ⟨T301, L301, k301, n301⟩, -, X301, ⟨Lc301, hQ301, l301, y301, z301⟩, st301⟩ := X278.virtualBack hx (y := (⟨"com/example/orbitloom/orbitloom/core/Timeline", "append", "(Lcom/example/orbitloom/orbitloom/core/Timeline$Entry;Ljava/util/List;)V"⟩ : MethodName)) (z := (⟨"com/example/orbitloom/orbitloom/core/Timeline", "append", "(Lcom/example/orbitloom/orbitloom/core/Timeline$Entry;Ljava/util/List;)V"⟩ : MethodName)) hown (mvT hZ w_67) (mvT hZ w_68) (notFace_of_selects (args := #[]) (mvT hZ w_70)) (mvT hZ w_70) (mvT hZ w_69) (by decide) (backOf (W := 0) (rm9_0 l Z a0 hw [] b200 b255 b219 de ee r206_0_0 r206_0_1 (0 : Int32) kde kk206_0_0 mr T278.heap n0 Z300 S_DE S_EE XO279 f283 f284 f285 f288 f289 f290 f293 f294 f282 f287 v278_0_1 f291 f281 f280 f286 oo206_0_0 MR g_b200 g_r206_0_0 g_r206_0_1 ne216 ne218 nn206_0_0 (Ne.symm ne221) (Ne.symm ne223) (Ne.symm ne222) ne201 ne217 ne215 (Ne.symm ne257) (Ne.symm ne259) (Ne.symm ne258)) hZ w_71 w_8 (by decide) (by decide)) q301a q301c (g := (mkF m 78 #[.val (.long p0), .second, .val (.long p1), .second, .val (.long p2), .second, .val (.long p3), .second, .val (.long p4), .second, .val (.int p5), .val (.int (2 : Int32)), .val (.long p0), .second, .val (.long r197), .second, .val (.long r198), .second, .val (.long r199), .second, .val (.ref b200), .val (.ref b219), .unset, .unset] [(.ref b219), (.ref b255), (.ref b200)])) rfl (by rw [hml]; rfl) (Steps.refl _) (argsL := [(.ref b255), (.ref b219)]) (rest := []) (lenOf pd_3 rfl) rfl (by show 2 * 0 + _ ≤ _; exact Nat.le_of_eq rfl) (hb hby at_78) (fun _ _ => ⟨rfl, rfl, (by decide : 5 + 3 ≤ _), (by decide : 21 + 13 ≤ _)⟩)
    dsimp only [Pt.U, Pt.locs, Pt.cells, Pt.slots] at X301 l301 y301 z301 st301 hQ301
    rw [l301, y301, z301] at X301
    obtain ⟨N301, KK301, hR301⟩ := hQ301
    have NA301 := Fr.app NA278 N301
    have XO302 : Old Z n0 T301.heap := XO279.keep KK301 (allS g_b200 (allS g_r206_0_0 (allS g_r206_0_1 all0)))
    have f303 := f280.keep KK301 (ninS ne201 (ninS ne215 (ninS ne217 nin0)))
    have f304 := f281.keep KK301
    have f305 := f282.keep KK301
    have f310 := f287.keep KK301
    have f314 := f291.keep KK301
    have f315 := f292.keep KK301 (ninS (Ne.symm ne221) (ninS (Ne.symm ne222) (ninS (Ne.symm ne223) nin0)))
    have f316 := f293.keep KK301 (ninS (Ne.symm ne221) (ninS (Ne.symm ne222) (ninS (Ne.symm ne223) nin0)))
    have f317 := f294.keep KK301 (ninS (Ne.symm ne221) (ninS (Ne.symm ne222) (ninS (Ne.symm ne223) nin0)))
    have f318 := v278_0_1.keep KK301
    have f319 := v278_0_0.keep KK301 (ninS (Ne.symm ne257) (ninS (Ne.symm ne258) (ninS (Ne.symm ne259) nin0)))
    have K320 : Keep h0 T301.heap [] := K300.trans KK301 (allS (Or.inr sz_b200) (allS (Or.inr sz_r206_0_0) (allS (Or.inr sz_r206_0_1) all0)))
    have Z320 : n0 ≤ T301.heap.size := Nat.le_trans Z300 KK301.1
    obtain ⟨r301_0_0, r301_0_1, kk301_0_0, rfl, g_r301_0_0, le_r301_0_0, g_r301_0_1, le_r301_0_1, nn301_0_0, v301_0_0, v301_0_1, v301_0_2, v301_0_3, v301_0_4, v301_0_5, v301_0_6, v301_0_7, v301_0_8, v301_0_9, v301_0_10, v301_0_11, v301_0_12, v301_0_13, oo301_0_0⟩ := hR301
    have ne321 : de ≠ r301_0_0 := Nat.ne_of_lt (Nat.lt_of_lt_of_le f280.lt le_r301_0_0)
    have ne322 : b200 ≠ r301_0_0 := Nat.ne_of_lt (Nat.lt_of_lt_of_le f282.lt le_r301_0_0)
    have ne323 : r206_0_0 ≠ r301_0_0 := Nat.ne_of_lt (Nat.lt_of_lt_of_le f286.lt le_r301_0_0)
    have ne324 : r206_0_1 ≠ r301_0_0 := Nat.ne_of_lt (Nat.lt_of_lt_of_le f287.lt le_r301_0_0)
    have ne325 : b219 ≠ r301_0_0 := Nat.ne_of_lt (Nat.lt_of_lt_of_le f291.lt le_r301_0_0)
    have ne326 : b255 ≠ r301_0_0 := Nat.ne_of_lt (Nat.lt_of_lt_of_le v278_0_1.lt le_r301_0_0)
    have sz_r301_0_0 : h0.size ≤ r301_0_0 := Nat.le_trans K300.1 le_r301_0_0
    have ne327 : de ≠ r301_0_1 := Nat.ne_of_lt (Nat.lt_of_lt_of_le f280.lt le_r301_0_1)
    have ne328 : b200 ≠ r301_0_1 := Nat.ne_of_lt (Nat.lt_of_lt_of_le f282.lt le_r301_0_1)
    have ne329 : r206_0_0 ≠ r301_0_1 := Nat.ne_of_lt (Nat.lt_of_lt_of_le f286.lt le_r301_0_1)
    have ne330 : r206_0_1 ≠ r301_0_1 := Nat.ne_of_lt (Nat.lt_of_lt_of_le f287.lt le_r301_0_1)
    have ne331 : b219 ≠ r301_0_1 := Nat.ne_of_lt (Nat.lt_of_lt_of_le f291.lt le_r301_0_1)
    have ne332 : b255 ≠ r301_0_1 := Nat.ne_of_lt (Nat.lt_of_lt_of_le v278_0_1.lt le_r301_0_1)
    have sz_r301_0_1 : h0.size ≤ r301_0_1 := Nat.le_trans K300.1 le_r301_0_1
    refine Goes.back st301 ?_
    show Goes _ _ _ _ _ _ _ (T301.setTop (mkF m 81 _ []))
    refine Goes.step (fun _ k => XS.iload X301.here hx rfl (hb hby at_81) rfl  k) ?_
    refine Goes.step (fun _ k => XS.iconst X301.here hx rfl (hb hby at_83) k) ?_
    refine Goes.step (fun _ k => XS.icmpNo X301.here hx rfl (hb hby at_84) rfl (tlt (by decide : (1 : Int32) < (2 : Int32))).2.2.2 k) ?_
    show Goes _ _ _ _ _ _ _ (T301.setTop (mkF m 87 _ []))
    refine Goes.step (fun _ k => XS.aload X301.here hx rfl (hb hby at_87) rfl rfl k) ?_
    obtain ⟨T333, h333, X333, e333, E333, A333, D333, -, st333⟩ := newO X301 hx hZ hown w_47 w_48 w_49 rfl (g := (mkF m 89 #[.val (.long p0), .second, .val (.long p1), .second, .val (.long p2), .second, .val (.long p3), .second, .val (.long p4), .second, .val (.int p5), .val (.int (2 : Int32)), .val (.long p0), .second, .val (.long r197), .second, .val (.long r198), .second, .val (.long r199), .second, .val (.ref b200), .val (.ref b219), .unset, .unset] [(.ref b200)])) rfl (hb hby at_89) (by decide) (by decide)
    obtain ⟨b333, g333⟩ : ∃ z, z = T301.heap.size := ⟨_, rfl⟩
    rw [← g333] at A333 D333 st333
    refine Goes.step st333 ?_
    have g_b333 : n0 ≤ b333 := Nat.le_trans Z320 (Nat.le_of_eq g333.symm)
    have sz_b333 : h0.size ≤ b333 := Nat.le_trans K320.1 (Nat.le_of_eq g333.symm)
    have ne334 : de ≠ b333 := Nat.ne_of_lt (Nat.lt_of_lt_of_le f303.lt (Nat.le_of_eq g333.symm))
    have ne335 : b200 ≠ b333 := Nat.ne_of_lt (Nat.lt_of_lt_of_le v301_0_3.lt (Nat.le_of_eq g333.symm))
    have ne336 : r206_0_1 ≠ b333 := Nat.ne_of_lt (Nat.lt_of_lt_of_le v301_0_4.lt (Nat.le_of_eq g333.symm))
    have ne337 : b219 ≠ b333 := Nat.ne_of_lt (Nat.lt_of_lt_of_le f314.lt (Nat.le_of_eq g333.symm))
    have ne338 : b255 ≠ b333 := Nat.ne_of_lt (Nat.lt_of_lt_of_le f318.lt (Nat.le_of_eq g333.symm))
    have ne339 : r206_0_0 ≠ b333 := Nat.ne_of_lt (Nat.lt_of_lt_of_le v301_0_5.lt (Nat.le_of_eq g333.symm))
    have ne340 : r301_0_1 ≠ b333 := Nat.ne_of_lt (Nat.lt_of_lt_of_le v301_0_6.lt (Nat.le_of_eq g333.symm))
    have ne341 : r301_0_0 ≠ b333 := Nat.ne_of_lt (Nat.lt_of_lt_of_le v301_0_13.lt (Nat.le_of_eq g333.symm))
    have XO342 : Old Z n0 h333 := XO302.ext E333
    have f343 := f303.ext E333
    have f344 := f304.ext E333
    have f345 := v301_0_3.ext E333
    have f346 := v301_0_4.ext E333
    have f347 := f314.ext E333
    have f348 := f315.ext E333
    have f349 := f316.ext E333
    have f350 := f317.ext E333
    have f351 := f318.ext E333
    have f352 := f319.ext E333
    have f353 := v301_0_0.ext E333
    have f354 := v301_0_1.ext E333
    have f355 := v301_0_2.ext E333
    have f356 := v301_0_5.ext E333
    have f357 := v301_0_6.ext E333
    have f358 := v301_0_7.ext E333
    have f359 := v301_0_8.ext E333
    have f360 := v301_0_9.ext E333
    have f361 := v301_0_10.ext E333
    have f362 := v301_0_11.ext E333
    have f363 := v301_0_12.ext E333
    have f364 := v301_0_13.ext E333
    have K365 : Keep h0 h333 [] := K320.ext E333
    have Z365 : n0 ≤ h333.size := Nat.le_trans Z320 E333.1
    have E_b333 := A333
    have F_start_b333 : Fld Z h333 b333 "com/example/orbitloom/orbitloom/core/Timeline$Entry" "start" "J" (.long (0 : Int64)) := D333 (Or.inr w_60) (ty := .long) (by decide)
    have F_end_b333 : Fld Z h333 b333 "com/example/orbitloom/orbitloom/core/Timeline$Entry" "end" "J" (.long (0 : Int64)) := D333 (Or.inr w_62) (ty := .long) (by decide)
    have F_attitude_b333 : Fld Z h333 b333 "com/example/orbitloom/orbitloom/core/Timeline$Entry" "attitude" "Lcom/example/orbitloom/orbitloom/core/Attitude;" .null := D333 (Or.inr w_64) (ty := (.object "com/example/orbitloom/orbitloom/core/Attitude")) (by decide)
    have F_rev_b333 : Fld Z h333 b333 "com/example/orbitloom/orbitloom/core/Timeline$Entry" "rev" "I" (.int (0 : Int32)) := D333 (Or.inr w_66) (ty := .int) (by decide)
    show Goes _ _ _ _ _ _ _ (T333.setTop (mkF m 92 _ [(.ref b333), (.ref b200)]))
    refine Goes.step (fun _ k => XS.dup X333.here hx rfl (hb hby at_92) rfl rfl k) ?_
    refine Goes.step (fun _ k => XS.lload X333.here hx rfl (hb hby at_93) rfl  k) ?_
    refine Goes.step (fun _ k => XS.lload X333.here hx rfl (hb hby at_95) rfl  k) ?_
    refine Goes.step (fun _ k => XS.aconstNull X333.here hx rfl (hb hby at_97) k) ?_
    show Goes _ _ _ _ _ _ _ (T333.setTop (mkF m 98 #[.val (.long p0), .second, .val (.long p1), .second, .val (.long p2), .second, .val (.long p3), .second, .val (.long p4), .second, .val (.int p5), .val (.int (2 : Int32)), .val (.long p0), .second, .val (.long r197), .second, .val (.long r198), .second, .val (.long r199), .second, .val (.ref b200), .val (.ref b219), .unset, .unset] [.null, (.long r197), (.long r197), (.ref b333), (.ref b333), (.ref b200)]))
    refine Goes.step (fun _ k => XS.iconst X333.here hx rfl (hb hby at_98) k) ?_
    obtain ⟨_, _, ⟨T366, L366, k366, n366⟩, -, X366, ⟨Lc366, hQ366, l366, y366, z366⟩, st366⟩ := X333.specialBack hx (y := (⟨"com/example/orbitloom/orbitloom/core/Timeline$Entry", "<init>", "(JJLcom/example/orbitloom/orbitloom/core/Attitude;I)V"⟩ : MethodName)) rfl hown (mvT hZ w_50) (mvT hZ w_51) (mvT hZ w_52) (by decide) (backOf (W := 2) (rm7 l Z a0 hw [] b333 r197 r197 (0 : Int32) h333 n0 Z365 F_start_b333 F_end_b333 F_attitude_b333 F_rev_b333 E_b333 g_b333) hZ w_52 w_49 (by decide) (by decide)) (g := (mkF m 99 #[.val (.long p0), .second, .val (.long p1), .second, .val (.long p2), .second, .val (.long p3), .second, .val (.long p4), .second, .val (.int p5), .val (.int (2 : Int32)), .val (.long p0), .second, .val (.long r197), .second, .val (.long r198), .second, .val (.long r199), .second, .val (.ref b200), .val (.ref b219), .unset, .unset] [(.int (0 : Int32)), .null, (.long r197), (.long r197), (.ref b333), (.ref b333), (.ref b200)])) rfl (by rw [hml]; rfl) (Steps.refl _) (a := b333) (argsL := [(.long r197), (.long r197), .null, (.int (0 : Int32))]) (rest := [(.ref b333), (.ref b200)]) (lenOf pd_2 rfl) rfl (by show 2 * 0 + _ ≤ _; exact Nat.le_of_eq rfl) (hb hby at_99) (fun _ _ => ⟨rfl, e333, (by decide : 9 + 0 ≤ _), (by decide : 38 + 0 ≤ _)⟩)
    dsimp only [Pt.U, Pt.locs, Pt.cells, Pt.slots] at X366 l366 y366 z366 st366 hQ366
    rw [l366, y366, z366] at X366
    obtain ⟨N366, KK366, hR366⟩ := hQ366
    have NA366 := Fr.app NA301 N366
    have XO367 : Old Z n0 T366.heap := XO342.keep KK366 (allS g_b333 all0)
    have f368 := f343.keep KK366 (ninS ne334 nin0)
    have f369 := f344.keep KK366
    have f370 := f345.keep KK366
    have f371 := f346.keep KK366
    have f372 := f347.keep KK366
    have f373 := f348.keep KK366 (ninS ne337 nin0)
    have f374 := f349.keep KK366 (ninS ne337 nin0)
    have f375 := f350.keep KK366 (ninS ne337 nin0)
    have f376 := f351.keep KK366
    have f377 := f352.keep KK366 (ninS ne338 nin0)
    have f378 := f353.keep KK366 (ninS ne335 nin0)
    have f379 := f354.keep KK366 (ninS ne335 nin0)
    have f380 := f355.keep KK366 (ninS ne335 nin0)
    have f381 := f356.keep KK366 (ninS ne339 nin0)
    have f382 := f357.keep KK366
    have f383 := f358.keep KK366 (ninS ne340 nin0)
    have f384 := f359.keep KK366 (ninS ne340 nin0)
    have f385 := f360.keep KK366 (ninS ne340 nin0)
    have f386 := f361.keep KK366 (ninS ne336 nin0)
    have f387 := f362.keep KK366 (ninS ne336 nin0)
    have f388 := f363.keep KK366 (ninS ne336 nin0)
    have f389 := f364.keep KK366 (ninS ne341 nin0)
    have f390 := E_b333.keep KK366
    have K395 : Keep h0 T366.heap [] := K365.trans KK366 (allS (Or.inr sz_b333) all0)
    have Z395 : n0 ≤ T366.heap.size := Nat.le_trans Z365 KK366.1
    obtain ⟨rfl, v366_0_0, v366_0_1⟩ := hR366
    refine Goes.back st366 ?_
    show Goes _ _ _ _ _ _ _ (T366.setTop (mkF m 102 _ [(.ref b333), (.ref b200)]))
    refine Goes.step (fun _ k => XS.aload X366.here hx rfl (hb hby at_102) rfl rfl k) ?_
    obtain ⟨cq396, kq396, q396a, q396b, q396c⟩ := isOf hZ rfl f370
    obtain ⟨_, _, ⟨T396, L396, k396, n396⟩, -, X396, ⟨Lc396, hQ396, l396, y396, z396⟩, st396⟩ := X366.virtualBack hx (y := (⟨"com/example/orbitloom/orbitloom/core/Timeline", "append", "(Lcom/example/orbitloom/orbitloom/core/Timeline$Entry;Ljava/util/List;)V"⟩ : MethodName)) (z := (⟨"com/example/orbitloom/orbitloom/core/Timeline", "append", "(Lcom/example/orbitloom/orbitloom/core/Timeline$Entry;Ljava/util/List;)V"⟩ : MethodName)) hown (mvT hZ w_67) (mvT hZ w_68) (notFace_of_selects (args := #[]) (mvT hZ w_70)) (mvT hZ w_70) (mvT hZ w_69) (by decide) (backOf (W := 0) (rm9_1 l Z a0 hw [] b200 b333 b219 de ee r206_0_0 r206_0_1 (1 : Int32) r301_0_0 kde kk301_0_0 kk206_0_0 mr b255 T366.heap n0 Z395 S_DE S_EE XO367 f378 f379 f380 f386 f387 f388 f374 f375 f370 f371 v366_0_1 f372 f369 f368 (own_arx f389) oo301_0_0 f381 oo206_0_0 MR g_b200 g_r206_0_0 g_r206_0_1 g_r301_0_0 ne216 ne218 nn206_0_0 (Ne.symm ne221) (Ne.symm ne223) (Ne.symm ne222) ne201 ne217 ne215 (Ne.symm ne335) (Ne.symm ne336) (Ne.symm ne339) (Ne.symm ne322) (Ne.symm ne323) (Ne.symm ne324) ne325 ne321 (Ne.symm ne341)) hZ w_71 w_8 (by decide) (by decide)) q396a q396c (g := (mkF m 104 #[.val (.long p0), .second, .val (.long p1), .second, .val (.long p2), .second, .val (.long p3), .second, .val (.long p4), .second, .val (.int p5), .val (.int (2 : Int32)), .val (.long p0), .second, .val (.long r197), .second, .val (.long r198), .second, .val (.long r199), .second, .val (.ref b200), .val (.ref b219), .unset, .unset] [(.ref b219), (.ref b333), (.ref b200)])) rfl (by rw [hml]; rfl) (Steps.refl _) (argsL := [(.ref b333), (.ref b219)]) (rest := []) (lenOf pd_3 rfl) rfl (by show 2 * 0 + _ ≤ _; exact Nat.le_of_eq rfl) (hb hby at_104) (fun _ _ => ⟨rfl, rfl, (by decide : 9 + 2 ≤ _), (by decide : 38 + 3 ≤ _)⟩)
    dsimp only [Pt.U, Pt.locs, Pt.cells, Pt.slots] at X396 l396 y396 z396 st396 hQ396
    rw [l396, y396, z396] at X396
    obtain ⟨N396, KK396, hR396⟩ := hQ396
    have NA396 := Fr.app NA366 N396
    have XO397 : Old Z n0 T396.heap := XO367.keep KK396 (allS g_b200 (allS g_r206_0_0 (allS g_r206_0_1 (allS g_r301_0_0 all0))))
    have f398 := f368.keep KK396 (ninS ne201 (ninS ne215 (ninS ne217 (ninS ne321 nin0))))
    have f399 := f369.keep KK396
    have f400 := f370.keep KK396
    have f401 := f371.keep KK396
    have f402 := f372.keep KK396
    have f403 := f373.keep KK396 (ninS (Ne.symm ne221) (ninS (Ne.symm ne222) (ninS (Ne.symm ne223) (ninS ne325 nin0))))
    have f404 := f374.keep KK396 (ninS (Ne.symm ne221) (ninS (Ne.symm ne222) (ninS (Ne.symm ne223) (ninS ne325 nin0))))
    have f405 := f375.keep KK396 (ninS (Ne.symm ne221) (ninS (Ne.symm ne222) (ninS (Ne.symm ne223) (ninS ne325 nin0))))
    have f406 := f376.keep KK396
    have f407 := f377.keep KK396 (ninS (Ne.symm ne257) (ninS (Ne.symm ne258) (ninS (Ne.symm ne259) (ninS ne326 nin0))))
    have f412 := f382.keep KK396
    have f413 := f383.keep KK396 (ninS (Ne.symm ne328) (ninS (Ne.symm ne329) (ninS (Ne.symm ne330) (ninS nn301_0_0 nin0))))
    have f414 := f384.keep KK396 (ninS (Ne.symm ne328) (ninS (Ne.symm ne329) (ninS (Ne.symm ne330) (ninS nn301_0_0 nin0))))
    have f415 := f385.keep KK396 (ninS (Ne.symm ne328) (ninS (Ne.symm ne329) (ninS (Ne.symm ne330) (ninS nn301_0_0 nin0))))
    have f420 := v366_0_1.keep KK396
    have f421 := v366_0_0.keep KK396 (ninS (Ne.symm ne335) (ninS (Ne.symm ne339) (ninS (Ne.symm ne336) (ninS (Ne.symm ne341) nin0))))
    have K422 : Keep h0 T396.heap [] := K395.trans KK396 (allS (Or.inr sz_b200) (allS (Or.inr sz_r206_0_0) (allS (Or.inr sz_r206_0_1) (allS (Or.inr sz_r301_0_0) all0))))
    have Z422 : n0 ≤ T396.heap.size := Nat.le_trans Z395 KK396.1
    obtain ⟨rfl, v396_0_0, v396_0_1, v396_0_2, v396_0_3, v396_0_4, v396_0_5, v396_0_6, v396_0_7, v396_0_8, v396_0_9⟩ := hR396
    refine Goes.back st396 ?_
    show Goes _ _ _ _ _ _ _ (T396.setTop (mkF m 107 _ []))
    refine Goes.step (fun _ k => XS.iload X396.here hx rfl (hb hby at_107) rfl  k) ?_
    refine Goes.step (fun _ k => XS.iconst X396.here hx rfl (hb hby at_109) k) ?_
    refine Goes.step (fun _ k => XS.icmpYes X396.here hx rfl (pc0 := 110) (pc' := 133) rfl (hb hby at_110) rfl (flt (by decide : ¬ ((2 : Int32) < (2 : Int32)))).2.2.2 (by decide) (by decide) k) ?_
    show Goes _ _ _ _ _ _ _ (T396.setTop (mkF m 133 _ []))
    refine Goes.step (fun _ k => XS.iload X396.here hx rfl (hb hby at_133) rfl  k) ?_
    refine Goes.step (fun _ k => XS.iconst X396.here hx rfl (hb hby at_135) k) ?_
    refine Goes.step (fun _ k => XS.icmpYes X396.here hx rfl (pc0 := 136) (pc' := 159) rfl (hb hby at_136) rfl (flt (by decide : ¬ ((3 : Int32) < (2 : Int32)))).2.2.2 (by decide) (by decide) k) ?_
    show Goes _ _ _ _ _ _ _ (T396.setTop (mkF m 159 _ []))
    refine Goes.step (fun _ k => XS.aload X396.here hx rfl (hb hby at_159) rfl rfl k) ?_
    refine Goes.step (fun _ k => XS.lload X396.here hx rfl (hb hby at_161) rfl  k) ?_
    obtain ⟨cq423, kq423, q423a, q423b, q423c⟩ := isOf hZ rfl v396_0_3
    obtain ⟨_, _, ⟨T423, L423, k423, n423⟩, -, X423, ⟨Lc423, hQ423, l423, y423, z423⟩, st423⟩ := X396.virtualBack hx (y := (⟨"com/example/orbitloom/orbitloom/core/Timeline", "firstStartingFrom", "(J)I"⟩ : MethodName)) (z := (⟨"com/example/orbitloom/orbitloom/core/Timeline", "firstStartingFrom", "(J)I"⟩ : MethodName)) hown (mvT hZ w_145) (mvT hZ w_146) (notFace_of_selects (args := #[]) (mvT hZ w_148)) (mvT hZ w_148) (mvT hZ w_147) (by decide) (backOf (W := 0) (rm20_2 l Z a0 hw [] b200 p4 r206_0_0 kk206_0_0 b255 b333 p0 r197 T396.heap n0 Z422 v396_0_0 v396_0_1 v396_0_3 v396_0_5 f407 f406 f421 f420) hZ w_149 w_8 (by decide) (by decide)) q423a q423c (g := (mkF m 163 #[.val (.long p0), .second, .val (.long p1), .second, .val (.long p2), .second, .val (.long p3), .second, .val (.long p4), .second, .val (.int p5), .val (.int (2 : Int32)), .val (.long p0), .second, .val (.long r197), .second, .val (.long r198), .second, .val (.long r199), .second, .val (.ref b200), .val (.ref b219), .unset, .unset] [(.long p4), (.ref b200)])) rfl (by rw [hml]; rfl) (Steps.refl _) (argsL := [(.long p4)]) (rest := []) (lenOf pd_14 rfl) rfl (by show 2 * 0 + _ ≤ _; exact Nat.le_of_eq rfl) (hb hby at_163) (fun _ _ => ⟨rfl, rfl, (by decide : 11 + 0 ≤ _), (by decide : 41 + 0 ≤ _)⟩)
    dsimp only [Pt.U, Pt.locs, Pt.cells, Pt.slots] at X423 l423 y423 z423 st423 hQ423
    rw [l423, y423, z423] at X423
    obtain ⟨N423, KK423, hR423⟩ := hQ423
    have NA423 := Fr.app NA396 N423
    rcases hR423 with ⟨rfl, u423_0_0⟩ | ⟨rfl, u423_1_0, u423_1_1⟩ | ⟨rfl, u423_2_0, u423_2_1⟩
    · refine Goes.back st423 ?_
      show Goes _ _ _ _ _ _ _ (T423.setTop (mkF m 166 _ [(.int (2 : Int32))]))
      refine Goes.step (fun _ k => XS.istore X423.here hx rfl (hb hby at_166) rfl (l' := #[.val (.long p0), .second, .val (.long p1), .second, .val (.long p2), .second, .val (.long p3), .second, .val (.long p4), .second, .val (.int p5), .val (.int (2 : Int32)), .val (.long p0), .second, .val (.long r197), .second, .val (.long r198), .second, .val (.long r199), .second, .val (.ref b200), .val (.ref b219), .val (.int (2 : Int32)), .unset]) rfl k) ?_
      show Goes _ _ _ _ _ _ _ (T423.setTop (mkF m 168 _ []))
      refine Goes.step (fun _ k => XS.iconst X423.here hx rfl (hb hby at_168) k) ?_
      refine Goes.step (fun _ k => XS.istore X423.here hx rfl (hb hby at_169) rfl (l' := #[.val (.long p0), .second, .val (.long p1), .second, .val (.long p2), .second, .val (.long p3), .second, .val (.long p4), .second, .val (.int p5), .val (.int (2 : Int32)), .val (.long p0), .second, .val (.long r197), .second, .val (.long r198), .second, .val (.long r199), .second, .val (.ref b200), .val (.ref b219), .val (.int (2 : Int32)), .val (.int (0 : Int32))]) rfl k) ?_
      show Goes _ _ _ _ _ _ _ (T423.setTop (mkF m 171 #[.val (.long p0), .second, .val (.long p1), .second, .val (.long p2), .second, .val (.long p3), .second, .val (.long p4), .second, .val (.int p5), .val (.int (2 : Int32)), .val (.long p0), .second, .val (.long r197), .second, .val (.long r198), .second, .val (.long r199), .second, .val (.ref b200), .val (.ref b219), .val (.int (2 : Int32)), .val (.int (0 : Int32))] []))
      refine Goes.step (fun _ k => XS.iload X423.here hx rfl (hb hby at_171) rfl  k) ?_
      refine Goes.step (fun _ k => XS.ifNo X423.here hx rfl (hb hby at_173) rfl ((if0 _ _).trans (tlt (by decide : (0 : Int32) < (2 : Int32))).2.2.2) k) ?_
      show Goes _ _ _ _ _ _ _ (T423.setTop (mkF m 176 _ []))
      refine Goes.step (fun _ k => XS.lload X423.here hx rfl (hb hby at_176) rfl  k) ?_
      refine Goes.step (fun _ k => XS.lload X423.here hx rfl (hb hby at_178) rfl  k) ?_
      refine Goes.step (fun _ k => XS.lcmp X423.here hx rfl (hb hby at_180) rfl k) ?_
      show Goes _ _ _ _ _ _ _ (T423.setTop (mkF m 181 _ [(.int (lcmpW p0 p4))]))
      refine Goes.step (fun _ k => XS.ifNo X423.here hx rfl (hb hby at_181) rfl ((if0 _ _).trans (tlt ((lw_lt _ _).mpr (own_ltDown mo197 u423_0_0))).2.1) k) ?_
      show Goes _ _ _ _ _ _ _ (T423.setTop (mkF m 184 _ []))
      refine Goes.step (fun _ k => XS.iinc X423.here hx rfl (hb hby at_184) rfl (l' := #[.val (.long p0), .second, .val (.long p1), .second, .val (.long p2), .second, .val (.long p3), .second, .val (.long p4), .second, .val (.int p5), .val (.int (2 : Int32)), .val (.long p0), .second, .val (.long r197), .second, .val (.long r198), .second, .val (.long r199), .second, .val (.ref b200), .val (.ref b219), .val (.int (2 : Int32)), .val (.int (1 : Int32))]) rfl k) ?_
      show Goes _ _ _ _ _ _ _ (T423.setTop (mkF m 187 _ []))
      refine Goes.step (fun _ k => XS.iload X423.here hx rfl (hb hby at_187) rfl  k) ?_
      refine Goes.step (fun _ k => XS.iconst X423.here hx rfl (hb hby at_189) k) ?_
      refine Goes.step (fun _ k => XS.icmpNo X423.here hx rfl (hb hby at_190) rfl (tlt (by decide : (1 : Int32) < (2 : Int32))).2.2.2 k) ?_
      show Goes _ _ _ _ _ _ _ (T423.setTop (mkF m 193 _ []))
      refine Goes.step (fun _ k => XS.lload X423.here hx rfl (hb hby at_193) rfl  k) ?_
      refine Goes.step (fun _ k => XS.lload X423.here hx rfl (hb hby at_195) rfl  k) ?_
      refine Goes.step (fun _ k => XS.lcmp X423.here hx rfl (hb hby at_197) rfl k) ?_
      show Goes _ _ _ _ _ _ _ (T423.setTop (mkF m 198 _ [(.int (lcmpW r197 p4))]))
      refine Goes.step (fun _ k => XS.ifNo X423.here hx rfl (hb hby at_198) rfl ((if0 _ _).trans (tlt ((lw_lt _ _).mpr u423_0_0)).2.1) k) ?_
      show Goes _ _ _ _ _ _ _ (T423.setTop (mkF m 201 #[.val (.long p0), .second, .val (.long p1), .second, .val (.long p2), .second, .val (.long p3), .second, .val (.long p4), .second, .val (.int p5), .val (.int (2 : Int32)), .val (.long p0), .second, .val (.long r197), .second, .val (.long r198), .second, .val (.long r199), .second, .val (.ref b200), .val (.ref b219), .val (.int (2 : Int32)), .val (.int (1 : Int32))] []))
      refine Goes.step (fun _ k => XS.iinc X423.here hx rfl (hb hby at_201) rfl (l' := #[.val (.long p0), .second, .val (.long p1), .second, .val (.long p2), .second, .val (.long p3), .second, .val (.long p4), .second, .val (.int p5), .val (.int (2 : Int32)), .val (.long p0), .second, .val (.long r197), .second, .val (.long r198), .second, .val (.long r199), .second, .val (.ref b200), .val (.ref b219), .val (.int (2 : Int32)), .val (.int (2 : Int32))]) rfl k) ?_
      show Goes _ _ _ _ _ _ _ (T423.setTop (mkF m 204 _ []))
      refine Goes.step (fun _ k => XS.iload X423.here hx rfl (hb hby at_204) rfl  k) ?_
      refine Goes.step (fun _ k => XS.iconst X423.here hx rfl (hb hby at_206) k) ?_
      refine Goes.step (fun _ k => XS.icmpYes X423.here hx rfl (pc0 := 207) (pc' := 221) rfl (hb hby at_207) rfl (flt (by decide : ¬ ((2 : Int32) < (2 : Int32)))).2.2.2 (by decide) (by decide) k) ?_
      show Goes _ _ _ _ _ _ _ (T423.setTop (mkF m 221 _ []))
      refine Goes.step (fun _ k => XS.iload X423.here hx rfl (hb hby at_221) rfl  k) ?_
      refine Goes.step (fun _ k => XS.iconst X423.here hx rfl (hb hby at_223) k) ?_
      refine Goes.step (fun _ k => XS.icmpYes X423.here hx rfl (pc0 := 224) (pc' := 238) rfl (hb hby at_224) rfl (flt (by decide : ¬ ((3 : Int32) < (2 : Int32)))).2.2.2 (by decide) (by decide) k) ?_
      show Goes _ _ _ _ _ _ _ (T423.setTop (mkF m 238 _ []))
      refine Goes.step (fun _ k => XS.iload X423.here hx rfl (hb hby at_238) rfl  k) ?_
      refine Goes.step (fun _ k => XS.iload X423.here hx rfl (hb hby at_240) rfl  k) ?_
      refine Goes.step (fun _ k => XS.icmpNo X423.here hx rfl (hb hby at_242) rfl (teq (by decide : (2 : Int32) = (2 : Int32))).2 k) ?_
      show Goes _ _ _ _ _ _ _ (T423.setTop (mkF m 245 _ []))
      refine Goes.step (fun _ k => XS.iconst X423.here hx rfl (hb hby at_245) k) ?_
      refine Goes.step (fun _ k => XS.goto X423.here hx rfl (pc0 := 246) (pc' := 250) rfl (hb hby at_246) (by decide) (by decide) k) ?_
      show Goes _ _ _ _ _ _ _ (T423.setTop (mkF m 250 _ [(.int (1 : Int32))]))
      exact Goes.ret X423 hx (BodyLoose.notSynchronized Bd) Bd.returns rfl (Or.inl ⟨rfl, by simp, _, rfl⟩) (hb hby at_250) (by show Q0 Z p0 p1 p2 p3 p4 p5 de kde ee mr h0 n0 (some (.int (1 : Int32))) T423.heap _; rw [KK423]; exact ⟨rfl, NA423⟩) (by decide) (by decide)
    · refine Goes.back st423 ?_
      show Goes _ _ _ _ _ _ _ (T423.setTop (mkF m 166 _ [(.int (1 : Int32))]))
      refine Goes.step (fun _ k => XS.istore X423.here hx rfl (hb hby at_166) rfl (l' := #[.val (.long p0), .second, .val (.long p1), .second, .val (.long p2), .second, .val (.long p3), .second, .val (.long p4), .second, .val (.int p5), .val (.int (2 : Int32)), .val (.long p0), .second, .val (.long r197), .second, .val (.long r198), .second, .val (.long r199), .second, .val (.ref b200), .val (.ref b219), .val (.int (1 : Int32)), .unset]) rfl k) ?_
      show Goes _ _ _ _ _ _ _ (T423.setTop (mkF m 168 _ []))
      refine Goes.step (fun _ k => XS.iconst X423.here hx rfl (hb hby at_168) k) ?_
      refine Goes.step (fun _ k => XS.istore X423.here hx rfl (hb hby at_169) rfl (l' := #[.val (.long p0), .second, .val (.long p1), .second, .val (.long p2), .second, .val (.long p3), .second, .val (.long p4), .second, .val (.int p5), .val (.int (2 : Int32)), .val (.long p0), .second, .val (.long r197), .second, .val (.long r198), .second, .val (.long r199), .second, .val (.ref b200), .val (.ref b219), .val (.int (1 : Int32)), .val (.int (0 : Int32))]) rfl k) ?_
      show Goes _ _ _ _ _ _ _ (T423.setTop (mkF m 171 #[.val (.long p0), .second, .val (.long p1), .second, .val (.long p2), .second, .val (.long p3), .second, .val (.long p4), .second, .val (.int p5), .val (.int (2 : Int32)), .val (.long p0), .second, .val (.long r197), .second, .val (.long r198), .second, .val (.long r199), .second, .val (.ref b200), .val (.ref b219), .val (.int (1 : Int32)), .val (.int (0 : Int32))] []))
      refine Goes.step (fun _ k => XS.iload X423.here hx rfl (hb hby at_171) rfl  k) ?_
      refine Goes.step (fun _ k => XS.ifNo X423.here hx rfl (hb hby at_173) rfl ((if0 _ _).trans (tlt (by decide : (0 : Int32) < (2 : Int32))).2.2.2) k) ?_
      show Goes _ _ _ _ _ _ _ (T423.setTop (mkF m 176 _ []))
      refine Goes.step (fun _ k => XS.lload X423.here hx rfl (hb hby at_176) rfl  k) ?_
      refine Goes.step (fun _ k => XS.lload X423.here hx rfl (hb hby at_178) rfl  k) ?_
      refine Goes.step (fun _ k => XS.lcmp X423.here hx rfl (hb hby at_180) rfl k) ?_
      show Goes _ _ _ _ _ _ _ (T423.setTop (mkF m 181 _ [(.int (lcmpW p0 p4))]))
      refine Goes.step (fun _ k => XS.ifNo X423.here hx rfl (hb hby at_181) rfl ((if0 _ _).trans (tlt ((lw_lt _ _).mpr u423_1_1)).2.1) k) ?_
      show Goes _ _ _ _ _ _ _ (T423.setTop (mkF m 184 _ []))
      refine Goes.step (fun _ k => XS.iinc X423.here hx rfl (hb hby at_184) rfl (l' := #[.val (.long p0), .second, .val (.long p1), .second, .val (.long p2), .second, .val (.long p3), .second, .val (.long p4), .second, .val (.int p5), .val (.int (2 : Int32)), .val (.long p0), .second, .val (.long r197), .second, .val (.long r198), .second, .val (.long r199), .second, .val (.ref b200), .val (.ref b219), .val (.int (1 : Int32)), .val (.int (1 : Int32))]) rfl k) ?_
      show Goes _ _ _ _ _ _ _ (T423.setTop (mkF m 187 _ []))
      refine Goes.step (fun _ k => XS.iload X423.here hx rfl (hb hby at_187) rfl  k) ?_
      refine Goes.step (fun _ k => XS.iconst X423.here hx rfl (hb hby at_189) k) ?_
      refine Goes.step (fun _ k => XS.icmpNo X423.here hx rfl (hb hby at_190) rfl (tlt (by decide : (1 : Int32) < (2 : Int32))).2.2.2 k) ?_
      show Goes _ _ _ _ _ _ _ (T423.setTop (mkF m 193 _ []))
      refine Goes.step (fun _ k => XS.lload X423.here hx rfl (hb hby at_193) rfl  k) ?_
      refine Goes.step (fun _ k => XS.lload X423.here hx rfl (hb hby at_195) rfl  k) ?_
      refine Goes.step (fun _ k => XS.lcmp X423.here hx rfl (hb hby at_197) rfl k) ?_
      show Goes _ _ _ _ _ _ _ (T423.setTop (mkF m 198 _ [(.int (lcmpW r197 p4))]))
      refine Goes.step (fun _ k => XS.ifYes X423.here hx rfl (pc0 := 198) (pc' := 204) rfl (hb hby at_198) rfl ((if0 _ _).trans (flt (fun q => u423_1_0 ((lw_lt _ _).mp q))).2.1) (by decide) (by decide) k) ?_
      show Goes _ _ _ _ _ _ _ (T423.setTop (mkF m 204 #[.val (.long p0), .second, .val (.long p1), .second, .val (.long p2), .second, .val (.long p3), .second, .val (.long p4), .second, .val (.int p5), .val (.int (2 : Int32)), .val (.long p0), .second, .val (.long r197), .second, .val (.long r198), .second, .val (.long r199), .second, .val (.ref b200), .val (.ref b219), .val (.int (1 : Int32)), .val (.int (1 : Int32))] []))
      refine Goes.step (fun _ k => XS.iload X423.here hx rfl (hb hby at_204) rfl  k) ?_
      refine Goes.step (fun _ k => XS.iconst X423.here hx rfl (hb hby at_206) k) ?_
      refine Goes.step (fun _ k => XS.icmpYes X423.here hx rfl (pc0 := 207) (pc' := 221) rfl (hb hby at_207) rfl (flt (by decide : ¬ ((2 : Int32) < (2 : Int32)))).2.2.2 (by decide) (by decide) k) ?_
      show Goes _ _ _ _ _ _ _ (T423.setTop (mkF m 221 _ []))
      refine Goes.step (fun _ k => XS.iload X423.here hx rfl (hb hby at_221) rfl  k) ?_
      refine Goes.step (fun _ k => XS.iconst X423.here hx rfl (hb hby at_223) k) ?_
      refine Goes.step (fun _ k => XS.icmpYes X423.here hx rfl (pc0 := 224) (pc' := 238) rfl (hb hby at_224) rfl (flt (by decide : ¬ ((3 : Int32) < (2 : Int32)))).2.2.2 (by decide) (by decide) k) ?_
      show Goes _ _ _ _ _ _ _ (T423.setTop (mkF m 238 _ []))
      refine Goes.step (fun _ k => XS.iload X423.here hx rfl (hb hby at_238) rfl  k) ?_
      refine Goes.step (fun _ k => XS.iload X423.here hx rfl (hb hby at_240) rfl  k) ?_
      refine Goes.step (fun _ k => XS.icmpNo X423.here hx rfl (hb hby at_242) rfl (teq (by decide : (1 : Int32) = (1 : Int32))).2 k) ?_
      show Goes _ _ _ _ _ _ _ (T423.setTop (mkF m 245 _ []))
      refine Goes.step (fun _ k => XS.iconst X423.here hx rfl (hb hby at_245) k) ?_
      refine Goes.step (fun _ k => XS.goto X423.here hx rfl (pc0 := 246) (pc' := 250) rfl (hb hby at_246) (by decide) (by decide) k) ?_
      show Goes _ _ _ _ _ _ _ (T423.setTop (mkF m 250 _ [(.int (1 : Int32))]))
      exact Goes.ret X423 hx (BodyLoose.notSynchronized Bd) Bd.returns rfl (Or.inl ⟨rfl, by simp, _, rfl⟩) (hb hby at_250) (by show Q0 Z p0 p1 p2 p3 p4 p5 de kde ee mr h0 n0 (some (.int (1 : Int32))) T423.heap _; rw [KK423]; exact ⟨rfl, NA423⟩) (by decide) (by decide)
    · refine Goes.back st423 ?_
      show Goes _ _ _ _ _ _ _ (T423.setTop (mkF m 166 _ [(.int (0 : Int32))]))
      refine Goes.step (fun _ k => XS.istore X423.here hx rfl (hb hby at_166) rfl (l' := #[.val (.long p0), .second, .val (.long p1), .second, .val (.long p2), .second, .val (.long p3), .second, .val (.long p4), .second, .val (.int p5), .val (.int (2 : Int32)), .val (.long p0), .second, .val (.long r197), .second, .val (.long r198), .second, .val (.long r199), .second, .val (.ref b200), .val (.ref b219), .val (.int (0 : Int32)), .unset]) rfl k) ?_
      show Goes _ _ _ _ _ _ _ (T423.setTop (mkF m 168 _ []))
      refine Goes.step (fun _ k => XS.iconst X423.here hx rfl (hb hby at_168) k) ?_
      refine Goes.step (fun _ k => XS.istore X423.here hx rfl (hb hby at_169) rfl (l' := #[.val (.long p0), .second, .val (.long p1), .second, .val (.long p2), .second, .val (.long p3), .second, .val (.long p4), .second, .val (.int p5), .val (.int (2 : Int32)), .val (.long p0), .second, .val (.long r197), .second, .val (.long r198), .second, .val (.long r199), .second, .val (.ref b200), .val (.ref b219), .val (.int (0 : Int32)), .val (.int (0 : Int32))]) rfl k) ?_
      show Goes _ _ _ _ _ _ _ (T423.setTop (mkF m 171 #[.val (.long p0), .second, .val (.long p1), .second, .val (.long p2), .second, .val (.long p3), .second, .val (.long p4), .second, .val (.int p5), .val (.int (2 : Int32)), .val (.long p0), .second, .val (.long r197), .second, .val (.long r198), .second, .val (.long r199), .second, .val (.ref b200), .val (.ref b219), .val (.int (0 : Int32)), .val (.int (0 : Int32))] []))
      refine Goes.step (fun _ k => XS.iload X423.here hx rfl (hb hby at_171) rfl  k) ?_
      refine Goes.step (fun _ k => XS.ifNo X423.here hx rfl (hb hby at_173) rfl ((if0 _ _).trans (tlt (by decide : (0 : Int32) < (2 : Int32))).2.2.2) k) ?_
      show Goes _ _ _ _ _ _ _ (T423.setTop (mkF m 176 _ []))
      refine Goes.step (fun _ k => XS.lload X423.here hx rfl (hb hby at_176) rfl  k) ?_
      refine Goes.step (fun _ k => XS.lload X423.here hx rfl (hb hby at_178) rfl  k) ?_
      refine Goes.step (fun _ k => XS.lcmp X423.here hx rfl (hb hby at_180) rfl k) ?_
      show Goes _ _ _ _ _ _ _ (T423.setTop (mkF m 181 _ [(.int (lcmpW p0 p4))]))
      refine Goes.step (fun _ k => XS.ifYes X423.here hx rfl (pc0 := 181) (pc' := 187) rfl (hb hby at_181) rfl ((if0 _ _).trans (flt (fun q => u423_2_1 ((lw_lt _ _).mp q))).2.1) (by decide) (by decide) k) ?_
      show Goes _ _ _ _ _ _ _ (T423.setTop (mkF m 187 _ []))
      refine Goes.step (fun _ k => XS.iload X423.here hx rfl (hb hby at_187) rfl  k) ?_
      refine Goes.step (fun _ k => XS.iconst X423.here hx rfl (hb hby at_189) k) ?_
      refine Goes.step (fun _ k => XS.icmpNo X423.here hx rfl (hb hby at_190) rfl (tlt (by decide : (1 : Int32) < (2 : Int32))).2.2.2 k) ?_
      show Goes _ _ _ _ _ _ _ (T423.setTop (mkF m 193 _ []))
      refine Goes.step (fun _ k => XS.lload X423.here hx rfl (hb hby at_193) rfl  k) ?_
      refine Goes.step (fun _ k => XS.lload X423.here hx rfl (hb hby at_195) rfl  k) ?_
      refine Goes.step (fun _ k => XS.lcmp X423.here hx rfl (hb hby at_197) rfl k) ?_
      show Goes _ _ _ _ _ _ _ (T423.setTop (mkF m 198 _ [(.int (lcmpW r197 p4))]))
      refine Goes.step (fun _ k => XS.ifYes X423.here hx rfl (pc0 := 198) (pc' := 204) rfl (hb hby at_198) rfl ((if0 _ _).trans (flt (fun q => u423_2_0 ((lw_lt _ _).mp q))).2.1) (by decide) (by decide) k) ?_
      show Goes _ _ _ _ _ _ _ (T423.setTop (mkF m 204 _ []))
      refine Goes.step (fun _ k => XS.iload X423.here hx rfl (hb hby at_204) rfl  k) ?_
      refine Goes.step (fun _ k => XS.iconst X423.here hx rfl (hb hby at_206) k) ?_
      refine Goes.step (fun _ k => XS.icmpYes X423.here hx rfl (pc0 := 207) (pc' := 221) rfl (hb hby at_207) rfl (flt (by decide : ¬ ((2 : Int32) < (2 : Int32)))).2.2.2 (by decide) (by decide) k) ?_
      show Goes _ _ _ _ _ _ _ (T423.setTop (mkF m 221 #[.val (.long p0), .second, .val (.long p1), .second, .val (.long p2), .second, .val (.long p3), .second, .val (.long p4), .second, .val (.int p5), .val (.int (2 : Int32)), .val (.long p0), .second, .val (.long r197), .second, .val (.long r198), .second, .val (.long r199), .second, .val (.ref b200), .val (.ref b219), .val (.int (0 : Int32)), .val (.int (0 : Int32))] []))
      refine Goes.step (fun _ k => XS.iload X423.here hx rfl (hb hby at_221) rfl  k) ?_
      refine Goes.step (fun _ k => XS.iconst X423.here hx rfl (hb hby at_223) k) ?_
      refine Goes.step (fun _ k => XS.icmpYes X423.here hx rfl (pc0 := 224) (pc' := 238) rfl (hb hby at_224) rfl (flt (by decide : ¬ ((3 : Int32) < (2 : Int32)))).2.2.2 (by decide) (by decide) k) ?_
      show Goes _ _ _ _ _ _ _ (T423.setTop (mkF m 238 _ []))
      refine Goes.step (fun _ k => XS.iload X423.here hx rfl (hb hby at_238) rfl  k) ?_
      refine Goes.step (fun _ k => XS.iload X423.here hx rfl (hb hby at_240) rfl  k) ?_
      refine Goes.step (fun _ k => XS.icmpNo X423.here hx rfl (hb hby at_242) rfl (teq (by decide : (0 : Int32) = (0 : Int32))).2 k) ?_
      show Goes _ _ _ _ _ _ _ (T423.setTop (mkF m 245 _ []))
      refine Goes.step (fun _ k => XS.iconst X423.here hx rfl (hb hby at_245) k) ?_
      refine Goes.step (fun _ k => XS.goto X423.here hx rfl (pc0 := 246) (pc' := 250) rfl (hb hby at_246) (by decide) (by decide) k) ?_
      show Goes _ _ _ _ _ _ _ (T423.setTop (mkF m 250 _ [(.int (1 : Int32))]))
      exact Goes.ret X423 hx (BodyLoose.notSynchronized Bd) Bd.returns rfl (Or.inl ⟨rfl, by simp, _, rfl⟩) (hb hby at_250) (by show Q0 Z p0 p1 p2 p3 p4 p5 de kde ee mr h0 n0 (some (.int (1 : Int32))) T423.heap _; rw [KK423]; exact ⟨rfl, NA423⟩) (by decide) (by decide)
  · show Goes _ _ _ _ _ _ _ (s₁.setTop (mkF m 9 #[.val (.long p0), .second, .val (.long p1), .second, .val (.long p2), .second, .val (.long p3), .second, .val (.long p4), .second, .val (.int p5), .val (.int (3 : Int32)), .unset, .unset, .unset, .unset, .unset, .unset, .unset, .unset, .unset, .unset, .unset, .unset] []))
    refine Goes.step (fun _ k => XS.lloadN X0.here hx rfl (hb hby at_9) rfl  k) ?_
    refine Goes.step (fun _ k => XS.lstore X0.here hx rfl (hb hby at_10) rfl (l' := #[.val (.long p0), .second, .val (.long p1), .second, .val (.long p2), .second, .val (.long p3), .second, .val (.long p4), .second, .val (.int p5), .val (.int (3 : Int32)), .val (.long p0), .second, .unset, .unset, .unset, .unset, .unset, .unset, .unset, .unset, .unset, .unset]) rfl k) ?_
    show Goes _ _ _ _ _ _ _ (s₁.setTop (mkF m 12 _ []))
    refine Goes.step (fun _ k => XS.lload X0.here hx rfl (hb hby at_12) rfl  k) ?_
    refine Goes.step (fun _ k => XS.lloadN X0.here hx rfl (hb hby at_14) rfl  k) ?_
    obtain ⟨_, _, ⟨T424, L424, k424, n424⟩, -, X424, ⟨Lc424, hQ424, l424, y424, z424⟩, st424⟩ := Jvm.LawKit.callS X0 hx (y := (⟨"com/example/orbitloom/orbitloom/core/TimelineFirstStartingFromPinLaw", "step", "(JJ)J"⟩ : MethodName)) hown (mvT hZ w_1) (mvT hZ w_2) (mvT hZ w_3) (mvT hZ w_4) (by decide) (backOf (W := 0) (rm1 l Z a0 hw [] p0 p1 h0 n0 Z0) hZ w_4 w_3 (by decide) (by decide)) (g := (mkF m 15 #[.val (.long p0), .second, .val (.long p1), .second, .val (.long p2), .second, .val (.long p3), .second, .val (.long p4), .second, .val (.int p5), .val (.int (3 : Int32)), .val (.long p0), .second, .unset, .unset, .unset, .unset, .unset, .unset, .unset, .unset, .unset, .unset] [(.long p1), (.long p0)])) rfl (by rw [hml]; rfl) (argsL := [(.long p0), (.long p1)]) (rest := []) (lenOf pd_0 rfl) rfl (by show 2 * 0 + _ ≤ _; exact Nat.le_of_eq rfl) (hb hby at_15) (fun _ _ => ⟨rfl, e0, (by decide : 0 + 0 ≤ _), (by decide : 0 + 0 ≤ _)⟩)
    dsimp only [Pt.U, Pt.locs, Pt.cells, Pt.slots] at X424 l424 y424 z424 st424 hQ424
    rw [l424, y424, z424] at X424
    obtain ⟨N424, eh424, r424, rfl, mo424⟩ := hQ424
    have NA424 := Fr.app N0 N424
    refine Goes.step st424 ?_
    show Goes _ _ _ _ _ _ _ (T424.setTop (mkF m 18 _ [(.long r424)]))
    refine Goes.step (fun _ k => XS.lstore X424.here hx rfl (hb hby at_18) rfl (l' := #[.val (.long p0), .second, .val (.long p1), .second, .val (.long p2), .second, .val (.long p3), .second, .val (.long p4), .second, .val (.int p5), .val (.int (3 : Int32)), .val (.long p0), .second, .val (.long r424), .second, .unset, .unset, .unset, .unset, .unset, .unset, .unset, .unset]) rfl k) ?_
    show Goes _ _ _ _ _ _ _ (T424.setTop (mkF m 20 _ []))
    refine Goes.step (fun _ k => XS.lload X424.here hx rfl (hb hby at_20) rfl  k) ?_
    refine Goes.step (fun _ k => XS.lload X424.here hx rfl (hb hby at_22) rfl  k) ?_
    obtain ⟨_, _, ⟨T425, L425, k425, n425⟩, -, X425, ⟨Lc425, hQ425, l425, y425, z425⟩, st425⟩ := Jvm.LawKit.callS X424 hx (y := (⟨"com/example/orbitloom/orbitloom/core/TimelineFirstStartingFromPinLaw", "step", "(JJ)J"⟩ : MethodName)) hown (mvT hZ w_1) (mvT hZ w_2) (mvT hZ w_3) (mvT hZ w_4) (by decide) (backOf (W := 0) (rm1 l Z a0 hw [] r424 p2 h0 n0 Z0) hZ w_4 w_3 (by decide) (by decide)) (g := (mkF m 24 #[.val (.long p0), .second, .val (.long p1), .second, .val (.long p2), .second, .val (.long p3), .second, .val (.long p4), .second, .val (.int p5), .val (.int (3 : Int32)), .val (.long p0), .second, .val (.long r424), .second, .unset, .unset, .unset, .unset, .unset, .unset, .unset, .unset] [(.long p2), (.long r424)])) rfl (by rw [hml]; rfl) (argsL := [(.long r424), (.long p2)]) (rest := []) (lenOf pd_0 rfl) rfl (by show 2 * 0 + _ ≤ _; exact Nat.le_of_eq rfl) (hb hby at_24) (fun _ _ => ⟨rfl, eh424, (by decide : 0 + 0 ≤ _), (by decide : 0 + 0 ≤ _)⟩)
    dsimp only [Pt.U, Pt.locs, Pt.cells, Pt.slots] at X425 l425 y425 z425 st425 hQ425
    rw [l425, y425, z425] at X425
    obtain ⟨N425, eh425, r425, rfl, mo425⟩ := hQ425
    have NA425 := Fr.app NA424 N425
    refine Goes.step st425 ?_
    show Goes _ _ _ _ _ _ _ (T425.setTop (mkF m 27 _ [(.long r425)]))
    refine Goes.step (fun _ k => XS.lstore X425.here hx rfl (hb hby at_27) rfl (l' := #[.val (.long p0), .second, .val (.long p1), .second, .val (.long p2), .second, .val (.long p3), .second, .val (.long p4), .second, .val (.int p5), .val (.int (3 : Int32)), .val (.long p0), .second, .val (.long r424), .second, .val (.long r425), .second, .unset, .unset, .unset, .unset, .unset, .unset]) rfl k) ?_
    show Goes _ _ _ _ _ _ _ (T425.setTop (mkF m 29 _ []))
    refine Goes.step (fun _ k => XS.lload X425.here hx rfl (hb hby at_29) rfl  k) ?_
    refine Goes.step (fun _ k => XS.lload X425.here hx rfl (hb hby at_31) rfl  k) ?_
    obtain ⟨_, _, ⟨T426, L426, k426, n426⟩, -, X426, ⟨Lc426, hQ426, l426, y426, z426⟩, st426⟩ := Jvm.LawKit.callS X425 hx (y := (⟨"com/example/orbitloom/orbitloom/core/TimelineFirstStartingFromPinLaw", "step", "(JJ)J"⟩ : MethodName)) hown (mvT hZ w_1) (mvT hZ w_2) (mvT hZ w_3) (mvT hZ w_4) (by decide) (backOf (W := 0) (rm1 l Z a0 hw [] r425 p3 h0 n0 Z0) hZ w_4 w_3 (by decide) (by decide)) (g := (mkF m 33 #[.val (.long p0), .second, .val (.long p1), .second, .val (.long p2), .second, .val (.long p3), .second, .val (.long p4), .second, .val (.int p5), .val (.int (3 : Int32)), .val (.long p0), .second, .val (.long r424), .second, .val (.long r425), .second, .unset, .unset, .unset, .unset, .unset, .unset] [(.long p3), (.long r425)])) rfl (by rw [hml]; rfl) (argsL := [(.long r425), (.long p3)]) (rest := []) (lenOf pd_0 rfl) rfl (by show 2 * 0 + _ ≤ _; exact Nat.le_of_eq rfl) (hb hby at_33) (fun _ _ => ⟨rfl, eh425, (by decide : 0 + 0 ≤ _), (by decide : 0 + 0 ≤ _)⟩)
    dsimp only [Pt.U, Pt.locs, Pt.cells, Pt.slots] at X426 l426 y426 z426 st426 hQ426
    rw [l426, y426, z426] at X426
    obtain ⟨N426, eh426, r426, rfl, mo426⟩ := hQ426
    have NA426 := Fr.app NA425 N426
    refine Goes.step st426 ?_
    show Goes _ _ _ _ _ _ _ (T426.setTop (mkF m 36 _ [(.long r426)]))
    refine Goes.step (fun _ k => XS.lstore X426.here hx rfl (hb hby at_36) rfl (l' := #[.val (.long p0), .second, .val (.long p1), .second, .val (.long p2), .second, .val (.long p3), .second, .val (.long p4), .second, .val (.int p5), .val (.int (3 : Int32)), .val (.long p0), .second, .val (.long r424), .second, .val (.long r425), .second, .val (.long r426), .second, .unset, .unset, .unset, .unset]) rfl k) ?_
    show Goes _ _ _ _ _ _ _ (T426.setTop (mkF m 38 #[.val (.long p0), .second, .val (.long p1), .second, .val (.long p2), .second, .val (.long p3), .second, .val (.long p4), .second, .val (.int p5), .val (.int (3 : Int32)), .val (.long p0), .second, .val (.long r424), .second, .val (.long r425), .second, .val (.long r426), .second, .unset, .unset, .unset, .unset] []))
    obtain ⟨T427, h427, X427, e427, E427, A427, D427, -, st427⟩ := newO X426 hx hZ hown w_6 w_7 w_8 eh426 (g := (mkF m 38 #[.val (.long p0), .second, .val (.long p1), .second, .val (.long p2), .second, .val (.long p3), .second, .val (.long p4), .second, .val (.int p5), .val (.int (3 : Int32)), .val (.long p0), .second, .val (.long r424), .second, .val (.long r425), .second, .val (.long r426), .second, .unset, .unset, .unset, .unset] [])) rfl (hb hby at_38) (by decide) (by decide)
    obtain ⟨b427, g427⟩ : ∃ z, z = h0.size := ⟨_, rfl⟩
    rw [← g427] at A427 D427 st427
    refine Goes.step st427 ?_
    have g_b427 : n0 ≤ b427 := Nat.le_trans Z0 (Nat.le_of_eq g427.symm)
    have sz_b427 : h0.size ≤ b427 := Nat.le_trans K0.1 (Nat.le_of_eq g427.symm)
    have ne428 : de ≠ b427 := Nat.ne_of_lt (Nat.lt_of_lt_of_le V_de.lt (Nat.le_of_eq g427.symm))
    have XO429 : Old Z n0 h427 := X00.ext E427
    have f430 := V_de.ext E427
    have f431 := E_de.ext E427
    have K432 : Keep h0 h427 [] := K0.ext E427
    have Z432 : n0 ≤ h427.size := Nat.le_trans Z0 E427.1
    have E_b427 := A427
    have F_entries_b427 : Fld Z h427 b427 "com/example/orbitloom/orbitloom/core/Timeline" "entries" "[Lcom/example/orbitloom/orbitloom/core/Timeline$Entry;" .null := D427 (Or.inl w_18) (ty := (.array (.object "com/example/orbitloom/orbitloom/core/Timeline$Entry"))) (by decide)
    have F_members_b427 : Fld Z h427 b427 "com/example/orbitloom/orbitloom/core/Timeline" "members" "Ljava/util/List;" .null := D427 (Or.inr w_44) (ty := (.object "java/util/List")) (by decide)
    have F_size_b427 : Fld Z h427 b427 "com/example/orbitloom/orbitloom/core/Timeline" "size" "I" (.int (0 : Int32)) := D427 (Or.inl w_73) (ty := .int) (by decide)
    show Goes _ _ _ _ _ _ _ (T427.setTop (mkF m 41 _ [(.ref b427)]))
    refine Goes.step (fun _ k => XS.dup X427.here hx rfl (hb hby at_41) rfl rfl k) ?_
    obtain ⟨_, _, ⟨T433, L433, k433, n433⟩, -, X433, ⟨Lc433, hQ433, l433, y433, z433⟩, st433⟩ := X427.specialBack hx (y := (⟨"com/example/orbitloom/orbitloom/core/Timeline", "<init>", "()V"⟩ : MethodName)) rfl hown (mvT hZ w_9) (mvT hZ w_10) (mvT hZ w_11) (by decide) (backOf (W := 1) (rm2 l Z a0 hw [] b427 de h427 n0 Z432 S_DE XO429 F_entries_b427 F_size_b427 F_members_b427 E_b427 g_b427) hZ w_11 w_8 (by decide) (by decide)) (g := (mkF m 42 #[.val (.long p0), .second, .val (.long p1), .second, .val (.long p2), .second, .val (.long p3), .second, .val (.long p4), .second, .val (.int p5), .val (.int (3 : Int32)), .val (.long p0), .second, .val (.long r424), .second, .val (.long r425), .second, .val (.long r426), .second, .unset, .unset, .unset, .unset] [(.ref b427), (.ref b427)])) rfl (by rw [hml]; rfl) (Steps.refl _) (a := b427) (argsL := []) (rest := [(.ref b427)]) (lenOf pd_1 rfl) rfl (by show 2 * 0 + _ ≤ _; exact Nat.le_of_eq rfl) (hb hby at_42) (fun _ _ => ⟨rfl, e427, (by decide : 1 + 2 ≤ _), (by decide : 3 + 11 ≤ _)⟩)
    dsimp only [Pt.U, Pt.locs, Pt.cells, Pt.slots] at X433 l433 y433 z433 st433 hQ433
    rw [l433, y433, z433] at X433
    obtain ⟨N433, KK433, hR433⟩ := hQ433
    have NA433 := Fr.app NA426 N433
    have XO434 : Old Z n0 T433.heap := XO429.keep KK433 (allS g_b427 all0)
    have f435 := f430.keep KK433 (ninS ne428 nin0)
    have f436 := f431.keep KK433
    have f437 := E_b427.keep KK433
    have K441 : Keep h0 T433.heap [] := K432.trans KK433 (allS (Or.inr sz_b427) all0)
    have Z441 : n0 ≤ T433.heap.size := Nat.le_trans Z432 KK433.1
    obtain ⟨r433_0_0, r433_0_1, kk433_0_0, rfl, g_r433_0_0, le_r433_0_0, g_r433_0_1, le_r433_0_1, nn433_0_0, v433_0_0, v433_0_1, v433_0_2, v433_0_3, v433_0_4, v433_0_5, v433_0_6, v433_0_7, v433_0_8, oo433_0_0⟩ := hR433
    have ne442 : de ≠ r433_0_0 := Nat.ne_of_lt (Nat.lt_of_lt_of_le f430.lt le_r433_0_0)
    have ne443 : b427 ≠ r433_0_0 := Nat.ne_of_lt (Nat.lt_of_lt_of_le E_b427.lt le_r433_0_0)
    have sz_r433_0_0 : h0.size ≤ r433_0_0 := Nat.le_trans K432.1 le_r433_0_0
    have ne444 : de ≠ r433_0_1 := Nat.ne_of_lt (Nat.lt_of_lt_of_le f430.lt le_r433_0_1)
    have ne445 : b427 ≠ r433_0_1 := Nat.ne_of_lt (Nat.lt_of_lt_of_le E_b427.lt le_r433_0_1)
    have sz_r433_0_1 : h0.size ≤ r433_0_1 := Nat.le_trans K432.1 le_r433_0_1
    refine Goes.back st433 ?_
    show Goes _ _ _ _ _ _ _ (T433.setTop (mkF m 45 _ [(.ref b427)]))
    refine Goes.step (fun _ k => XS.astore X433.here hx rfl (hb hby at_45) rfl rfl (l' := #[.val (.long p0), .second, .val (.long p1), .second, .val (.long p2), .second, .val (.long p3), .second, .val (.long p4), .second, .val (.int p5), .val (.int (3 : Int32)), .val (.long p0), .second, .val (.long r424), .second, .val (.long r425), .second, .val (.long r426), .second, .val (.ref b427), .unset, .unset, .unset]) rfl k) ?_
    show Goes _ _ _ _ _ _ _ (T433.setTop (mkF m 47 _ []))
    obtain ⟨T446, h446, X446, e446, E446, A446, D446, -, st446⟩ := newO X433 hx hZ hown w_45 w_20 w_21 rfl (g := (mkF m 47 #[.val (.long p0), .second, .val (.long p1), .second, .val (.long p2), .second, .val (.long p3), .second, .val (.long p4), .second, .val (.int p5), .val (.int (3 : Int32)), .val (.long p0), .second, .val (.long r424), .second, .val (.long r425), .second, .val (.long r426), .second, .val (.ref b427), .unset, .unset, .unset] [])) rfl (hb hby at_47) (by decide) (by decide)
    obtain ⟨b446, g446⟩ : ∃ z, z = T433.heap.size := ⟨_, rfl⟩
    rw [← g446] at A446 D446 st446
    refine Goes.step st446 ?_
    have g_b446 : n0 ≤ b446 := Nat.le_trans Z441 (Nat.le_of_eq g446.symm)
    have sz_b446 : h0.size ≤ b446 := Nat.le_trans K441.1 (Nat.le_of_eq g446.symm)
    have ne447 : de ≠ b446 := Nat.ne_of_lt (Nat.lt_of_lt_of_le f435.lt (Nat.le_of_eq g446.symm))
    have ne448 : b427 ≠ b446 := Nat.ne_of_lt (Nat.lt_of_lt_of_le v433_0_3.lt (Nat.le_of_eq g446.symm))
    have ne449 : r433_0_0 ≠ b446 := Nat.ne_of_lt (Nat.lt_of_lt_of_le v433_0_4.lt (Nat.le_of_eq g446.symm))
    have ne450 : r433_0_1 ≠ b446 := Nat.ne_of_lt (Nat.lt_of_lt_of_le v433_0_5.lt (Nat.le_of_eq g446.symm))
    have XO451 : Old Z n0 h446 := XO434.ext E446
    have f452 := f435.ext E446
    have f453 := f436.ext E446
    have f454 := v433_0_3.ext E446
    have f455 := v433_0_0.ext E446
    have f456 := v433_0_1.ext E446
    have f457 := v433_0_2.ext E446
    have f458 := v433_0_4.ext E446
    have f459 := v433_0_5.ext E446
    have f460 := v433_0_6.ext E446
    have f461 := v433_0_7.ext E446
    have f462 := v433_0_8.ext E446
    have K463 : Keep h0 h446 [] := K441.ext E446
    have Z463 : n0 ≤ h446.size := Nat.le_trans Z441 E446.1
    have E_b446 := A446
    have F_modCount_b446 : Fld Z h446 b446 "java/util/AbstractList" "modCount" "I" (.int (0 : Int32)) := D446 (Or.inl w_39) (ty := .int) (by decide)
    have F_elementData_b446 : Fld Z h446 b446 "java/util/ArrayList" "elementData" "[Ljava/lang/Object;" .null := D446 (Or.inl w_42) (ty := (.array (.object "java/lang/Object"))) (by decide)
    have F_size_b446 : Fld Z h446 b446 "java/util/ArrayList" "size" "I" (.int (0 : Int32)) := D446 (Or.inl w_88) (ty := .int) (by decide)
    show Goes _ _ _ _ _ _ _ (T446.setTop (mkF m 50 _ [(.ref b446)]))
    refine Goes.step (fun _ k => XS.dup X446.here hx rfl (hb hby at_50) rfl rfl k) ?_
    obtain ⟨_, _, ⟨T464, L464, k464, n464⟩, -, X464, ⟨Lc464, hQ464, l464, y464, z464⟩, st464⟩ := X446.specialBack hx (y := (⟨"java/util/ArrayList", "<init>", "()V"⟩ : MethodName)) rfl hown (mvT hZ w_46) (mvT hZ w_23) (mvT hZ w_24) (by decide) (backOf (W := 1) (rm4 l Z a0 hw [] b446 de (0 : Int32) h446 n0 Z463 S_DE XO451 F_modCount_b446 F_elementData_b446 F_size_b446 E_b446 g_b446) hZ w_24 w_21 (by decide) (by decide)) (g := (mkF m 51 #[.val (.long p0), .second, .val (.long p1), .second, .val (.long p2), .second, .val (.long p3), .second, .val (.long p4), .second, .val (.int p5), .val (.int (3 : Int32)), .val (.long p0), .second, .val (.long r424), .second, .val (.long r425), .second, .val (.long r426), .second, .val (.ref b427), .unset, .unset, .unset] [(.ref b446), (.ref b446)])) rfl (by rw [hml]; rfl) (Steps.refl _) (a := b446) (argsL := []) (rest := [(.ref b446)]) (lenOf pd_1 rfl) rfl (by show 2 * 0 + _ ≤ _; exact Nat.le_of_eq rfl) (hb hby at_51) (fun _ _ => ⟨rfl, e446, (by decide : 4 + 0 ≤ _), (by decide : 17 + 0 ≤ _)⟩)
    dsimp only [Pt.U, Pt.locs, Pt.cells, Pt.slots] at X464 l464 y464 z464 st464 hQ464
    rw [l464, y464, z464] at X464
    obtain ⟨N464, KK464, hR464⟩ := hQ464
    have NA464 := Fr.app NA433 N464
    have XO465 : Old Z n0 T464.heap := XO451.keep KK464 (allS g_b446 all0)
    have f466 := f452.keep KK464 (ninS ne447 nin0)
    have f467 := f453.keep KK464
    have f468 := f454.keep KK464
    have f469 := f455.keep KK464 (ninS ne448 nin0)
    have f470 := f456.keep KK464 (ninS ne448 nin0)
    have f471 := f457.keep KK464 (ninS ne448 nin0)
    have f472 := f458.keep KK464 (ninS ne449 nin0)
    have f473 := f459.keep KK464
    have f474 := f460.keep KK464 (ninS ne450 nin0)
    have f475 := f461.keep KK464 (ninS ne450 nin0)
    have f476 := f462.keep KK464 (ninS ne450 nin0)
    have f477 := E_b446.keep KK464
    have K481 : Keep h0 T464.heap [] := K463.trans KK464 (allS (Or.inr sz_b446) all0)
    have Z481 : n0 ≤ T464.heap.size := Nat.le_trans Z463 KK464.1
    obtain ⟨rfl, v464_0_0, v464_0_1, v464_0_2, v464_0_3⟩ := hR464
    refine Goes.back st464 ?_
    show Goes _ _ _ _ _ _ _ (T464.setTop (mkF m 54 _ [(.ref b446)]))
    refine Goes.step (fun _ k => XS.astore X464.here hx rfl (hb hby at_54) rfl rfl (l' := #[.val (.long p0), .second, .val (.long p1), .second, .val (.long p2), .second, .val (.long p3), .second, .val (.long p4), .second, .val (.int p5), .val (.int (3 : Int32)), .val (.long p0), .second, .val (.long r424), .second, .val (.long r425), .second, .val (.long r426), .second, .val (.ref b427), .val (.ref b446), .unset, .unset]) rfl k) ?_
    show Goes _ _ _ _ _ _ _ (T464.setTop (mkF m 56 _ []))
    refine Goes.step (fun _ k => XS.iload X464.here hx rfl (hb hby at_56) rfl  k) ?_
    refine Goes.step (fun _ k => XS.ifNo X464.here hx rfl (hb hby at_58) rfl ((if0 _ _).trans (tlt (by decide : (0 : Int32) < (3 : Int32))).2.2.2) k) ?_
    show Goes _ _ _ _ _ _ _ (T464.setTop (mkF m 61 #[.val (.long p0), .second, .val (.long p1), .second, .val (.long p2), .second, .val (.long p3), .second, .val (.long p4), .second, .val (.int p5), .val (.int (3 : Int32)), .val (.long p0), .second, .val (.long r424), .second, .val (.long r425), .second, .val (.long r426), .second, .val (.ref b427), .val (.ref b446), .unset, .unset] []))
    refine Goes.step (fun _ k => XS.aload X464.here hx rfl (hb hby at_61) rfl rfl k) ?_
    obtain ⟨T482, h482, X482, e482, E482, A482, D482, -, st482⟩ := newO X464 hx hZ hown w_47 w_48 w_49 rfl (g := (mkF m 63 #[.val (.long p0), .second, .val (.long p1), .second, .val (.long p2), .second, .val (.long p3), .second, .val (.long p4), .second, .val (.int p5), .val (.int (3 : Int32)), .val (.long p0), .second, .val (.long r424), .second, .val (.long r425), .second, .val (.long r426), .second, .val (.ref b427), .val (.ref b446), .unset, .unset] [(.ref b427)])) rfl (hb hby at_63) (by decide) (by decide)
    obtain ⟨b482, g482⟩ : ∃ z, z = T464.heap.size := ⟨_, rfl⟩
    rw [← g482] at A482 D482 st482
    refine Goes.step st482 ?_
    have g_b482 : n0 ≤ b482 := Nat.le_trans Z481 (Nat.le_of_eq g482.symm)
    have sz_b482 : h0.size ≤ b482 := Nat.le_trans K481.1 (Nat.le_of_eq g482.symm)
    have ne483 : de ≠ b482 := Nat.ne_of_lt (Nat.lt_of_lt_of_le f466.lt (Nat.le_of_eq g482.symm))
    have ne484 : b427 ≠ b482 := Nat.ne_of_lt (Nat.lt_of_lt_of_le f468.lt (Nat.le_of_eq g482.symm))
    have ne485 : r433_0_0 ≠ b482 := Nat.ne_of_lt (Nat.lt_of_lt_of_le f472.lt (Nat.le_of_eq g482.symm))
    have ne486 : r433_0_1 ≠ b482 := Nat.ne_of_lt (Nat.lt_of_lt_of_le f473.lt (Nat.le_of_eq g482.symm))
    have ne487 : b446 ≠ b482 := Nat.ne_of_lt (Nat.lt_of_lt_of_le v464_0_0.lt (Nat.le_of_eq g482.symm))
    have XO488 : Old Z n0 h482 := XO465.ext E482
    have f489 := f466.ext E482
    have f490 := f467.ext E482
    have f491 := f468.ext E482
    have f492 := f469.ext E482
    have f493 := f470.ext E482
    have f494 := f471.ext E482
    have f495 := f472.ext E482
    have f496 := f473.ext E482
    have f497 := f474.ext E482
    have f498 := f475.ext E482
    have f499 := f476.ext E482
    have f500 := v464_0_0.ext E482
    have f501 := v464_0_1.ext E482
    have f502 := v464_0_2.ext E482
    have f503 := v464_0_3.ext E482
    have K504 : Keep h0 h482 [] := K481.ext E482
    have Z504 : n0 ≤ h482.size := Nat.le_trans Z481 E482.1
    have E_b482 := A482
    have F_start_b482 : Fld Z h482 b482 "com/example/orbitloom/orbitloom/core/Timeline$Entry" "start" "J" (.long (0 : Int64)) := D482 (Or.inr w_60) (ty := .long) (by decide)
    have F_end_b482 : Fld Z h482 b482 "com/example/orbitloom/orbitloom/core/Timeline$Entry" "end" "J" (.long (0 : Int64)) := D482 (Or.inr w_62) (ty := .long) (by decide)
    have F_attitude_b482 : Fld Z h482 b482 "com/example/orbitloom/orbitloom/core/Timeline$Entry" "attitude" "Lcom/example/orbitloom/orbitloom/core/Attitude;" .null := D482 (Or.inr w_64) (ty := (.object "com/example/orbitloom/orbitloom/core/Attitude")) (by decide)
    have F_rev_b482 : Fld Z h482 b482 "com/example/orbitloom/orbitloom/core/Timeline$Entry" "rev" "I" (.int (0 : Int32)) := D482 (Or.inr w_66) (ty := .int) (by decide)
    show Goes _ _ _ _ _ _ _ (T482.setTop (mkF m 66 _ [(.ref b482), (.ref b427)]))
    refine Goes.step (fun _ k => XS.dup X482.here hx rfl (hb hby at_66) rfl rfl k) ?_
    refine Goes.step (fun _ k => XS.lload X482.here hx rfl (hb hby at_67) rfl  k) ?_
    refine Goes.step (fun _ k => XS.lload X482.here hx rfl (hb hby at_69) rfl  k) ?_
    refine Goes.step (fun _ k => XS.aconstNull X482.here hx rfl (hb hby at_71) k) ?_
    show Goes _ _ _ _ _ _ _ (T482.setTop (mkF m 72 _ [.null, (.long p0), (.long p0), (.ref b482), (.ref b482), (.ref b427)]))
    refine Goes.step (fun _ k => XS.iconst X482.here hx rfl (hb hby at_72) k) ?_
    obtain ⟨_, _, ⟨T505, L505, k505, n505⟩, -, X505, ⟨Lc505, hQ505, l505, y505, z505⟩, st505⟩ := X482.specialBack hx (y := (⟨"com/example/orbitloom/orbitloom/core/Timeline$Entry", "<init>", "(JJLcom/example/orbitloom/orbitloom/core/Attitude;I)V"⟩ : MethodName)) rfl hown (mvT hZ w_50) (mvT hZ w_51) (mvT hZ w_52) (by decide) (backOf (W := 2) (rm7 l Z a0 hw [] b482 p0 p0 (0 : Int32) h482 n0 Z504 F_start_b482 F_end_b482 F_attitude_b482 F_rev_b482 E_b482 g_b482) hZ w_52 w_49 (by decide) (by decide)) (g := (mkF m 73 #[.val (.long p0), .second, .val (.long p1), .second, .val (.long p2), .second, .val (.long p3), .second, .val (.long p4), .second, .val (.int p5), .val (.int (3 : Int32)), .val (.long p0), .second, .val (.long r424), .second, .val (.long r425), .second, .val (.long r426), .second, .val (.ref b427), .val (.ref b446), .unset, .unset] [(.int (0 : Int32)), .null, (.long p0), (.long p0), (.ref b482), (.ref b482), (.ref b427)])) rfl (by rw [hml]; rfl) (Steps.refl _) (a := b482) (argsL := [(.long p0), (.long p0), .null, (.int (0 : Int32))]) (rest := [(.ref b482), (.ref b427)]) (lenOf pd_2 rfl) rfl (by show 2 * 0 + _ ≤ _; exact Nat.le_of_eq rfl) (hb hby at_73) (fun _ _ => ⟨rfl, e482, (by decide : 5 + 0 ≤ _), (by decide : 21 + 0 ≤ _)⟩)
    dsimp only [Pt.U, Pt.locs, Pt.cells, Pt.slots] at X505 l505 y505 z505 st505 hQ505
    rw [l505, y505, z505] at X505
    obtain ⟨N505, KK505, hR505⟩ := hQ505
    have NA505 := Fr.app NA464 N505
    have XO506 : Old Z n0 T505.heap := XO488.keep KK505 (allS g_b482 all0)
    have f507 := f489.keep KK505 (ninS ne483 nin0)
    have f508 := f490.keep KK505
    have f509 := f491.keep KK505
    have f510 := f492.keep KK505 (ninS ne484 nin0)
    have f511 := f493.keep KK505 (ninS ne484 nin0)
    have f512 := f494.keep KK505 (ninS ne484 nin0)
    have f513 := f495.keep KK505 (ninS ne485 nin0)
    have f514 := f496.keep KK505
    have f515 := f497.keep KK505 (ninS ne486 nin0)
    have f516 := f498.keep KK505 (ninS ne486 nin0)
    have f517 := f499.keep KK505 (ninS ne486 nin0)
    have f518 := f500.keep KK505
    have f519 := f501.keep KK505 (ninS ne487 nin0)
    have f520 := f502.keep KK505 (ninS ne487 nin0)
    have f521 := f503.keep KK505 (ninS ne487 nin0)
    have f522 := E_b482.keep KK505
    have K527 : Keep h0 T505.heap [] := K504.trans KK505 (allS (Or.inr sz_b482) all0)
    have Z527 : n0 ≤ T505.heap.size := Nat.le_trans Z504 KK505.1
    obtain ⟨rfl, v505_0_0, v505_0_1⟩ := hR505
    refine Goes.back st505 ?_
    show Goes _ _ _ _ _ _ _ (T505.setTop (mkF m 76 _ [(.ref b482), (.ref b427)]))
    refine Goes.step (fun _ k => XS.aload X505.here hx rfl (hb hby at_76) rfl rfl k) ?_
    obtain ⟨cq528, kq528, q528a, q528b, q528c⟩ := isOf hZ rfl f509
    obtain ⟨_, _, ⟨T528, L528, k528, n528⟩, -, X528, ⟨Lc528, hQ528, l528, y528, z528⟩, st528⟩ := X505.virtualBack hx (y := (⟨"com/example/orbitloom/orbitloom/core/Timeline", "append", "(Lcom/example/orbitloom/orbitloom/core/Timeline$Entry;Ljava/util/List;)V"⟩ : MethodName)) (z := (⟨"com/example/orbitloom/orbitloom/core/Timeline", "append", "(Lcom/example/orbitloom/orbitloom/core/Timeline$Entry;Ljava/util/List;)V"⟩ : MethodName)) hown (mvT hZ w_67) (mvT hZ w_68) (notFace_of_selects (args := #[]) (mvT hZ w_70)) (mvT hZ w_70) (mvT hZ w_69) (by decide) (backOf (W := 0) (rm9_0 l Z a0 hw [] b427 b482 b446 de ee r433_0_0 r433_0_1 (0 : Int32) kde kk433_0_0 mr T505.heap n0 Z527 S_DE S_EE XO506 f510 f511 f512 f515 f516 f517 f520 f521 f509 f514 v505_0_1 f518 f508 f507 f513 oo433_0_0 MR g_b427 g_r433_0_0 g_r433_0_1 ne443 ne445 nn433_0_0 (Ne.symm ne448) (Ne.symm ne450) (Ne.symm ne449) ne428 ne444 ne442 (Ne.symm ne484) (Ne.symm ne486) (Ne.symm ne485)) hZ w_71 w_8 (by decide) (by decide)) q528a q528c (g := (mkF m 78 #[.val (.long p0), .second, .val (.long p1), .second, .val (.long p2), .second, .val (.long p3), .second, .val (.long p4), .second, .val (.int p5), .val (.int (3 : Int32)), .val (.long p0), .second, .val (.long r424), .second, .val (.long r425), .second, .val (.long r426), .second, .val (.ref b427), .val (.ref b446), .unset, .unset] [(.ref b446), (.ref b482), (.ref b427)])) rfl (by rw [hml]; rfl) (Steps.refl _) (argsL := [(.ref b482), (.ref b446)]) (rest := []) (lenOf pd_3 rfl) rfl (by show 2 * 0 + _ ≤ _; exact Nat.le_of_eq rfl) (hb hby at_78) (fun _ _ => ⟨rfl, rfl, (by decide : 5 + 3 ≤ _), (by decide : 21 + 13 ≤ _)⟩)
    dsimp only [Pt.U, Pt.locs, Pt.cells, Pt.slots] at X528 l528 y528 z528 st528 hQ528
    rw [l528, y528, z528] at X528
    obtain ⟨N528, KK528, hR528⟩ := hQ528
    have NA528 := Fr.app NA505 N528
    have XO529 : Old Z n0 T528.heap := XO506.keep KK528 (allS g_b427 (allS g_r433_0_0 (allS g_r433_0_1 all0)))
    have f530 := f507.keep KK528 (ninS ne428 (ninS ne442 (ninS ne444 nin0)))
    have f531 := f508.keep KK528
    have f532 := f509.keep KK528
    have f537 := f514.keep KK528
    have f541 := f518.keep KK528
    have f542 := f519.keep KK528 (ninS (Ne.symm ne448) (ninS (Ne.symm ne449) (ninS (Ne.symm ne450) nin0)))
    have f543 := f520.keep KK528 (ninS (Ne.symm ne448) (ninS (Ne.symm ne449) (ninS (Ne.symm ne450) nin0)))
    have f544 := f521.keep KK528 (ninS (Ne.symm ne448) (ninS (Ne.symm ne449) (ninS (Ne.symm ne450) nin0)))
    have f545 := v505_0_1.keep KK528
    have f546 := v505_0_0.keep KK528 (ninS (Ne.symm ne484) (ninS (Ne.symm ne485) (ninS (Ne.symm ne486) nin0)))
    have K547 : Keep h0 T528.heap [] := K527.trans KK528 (allS (Or.inr sz_b427) (allS (Or.inr sz_r433_0_0) (allS (Or.inr sz_r433_0_1) all0)))
    have Z547 : n0 ≤ T528.heap.size := Nat.le_trans Z527 KK528.1
    obtain ⟨r528_0_0, r528_0_1, kk528_0_0, rfl, g_r528_0_0, le_r528_0_0, g_r528_0_1, le_r528_0_1, nn528_0_0, v528_0_0, v528_0_1, v528_0_2, v528_0_3, v528_0_4, v528_0_5, v528_0_6, v528_0_7, v528_0_8, v528_0_9, v528_0_10, v528_0_11, v528_0_12, v528_0_13, oo528_0_0⟩ := hR528
    have ne548 : de ≠ r528_0_0 := Nat.ne_of_lt (Nat.lt_of_lt_of_le f507.lt le_r528_0_0)
    have ne549 : b427 ≠ r528_0_0 := Nat.ne_of_lt (Nat.lt_of_lt_of_le f509.lt le_r528_0_0)
    have ne550 : r433_0_0 ≠ r528_0_0 := Nat.ne_of_lt (Nat.lt_of_lt_of_le f513.lt le_r528_0_0)
    have ne551 : r433_0_1 ≠ r528_0_0 := Nat.ne_of_lt (Nat.lt_of_lt_of_le f514.lt le_r528_0_0)
    have ne552 : b446 ≠ r528_0_0 := Nat.ne_of_lt (Nat.lt_of_lt_of_le f518.lt le_r528_0_0)
    have ne553 : b482 ≠ r528_0_0 := Nat.ne_of_lt (Nat.lt_of_lt_of_le v505_0_1.lt le_r528_0_0)
    have sz_r528_0_0 : h0.size ≤ r528_0_0 := Nat.le_trans K527.1 le_r528_0_0
    have ne554 : de ≠ r528_0_1 := Nat.ne_of_lt (Nat.lt_of_lt_of_le f507.lt le_r528_0_1)
    have ne555 : b427 ≠ r528_0_1 := Nat.ne_of_lt (Nat.lt_of_lt_of_le f509.lt le_r528_0_1)
    have ne556 : r433_0_0 ≠ r528_0_1 := Nat.ne_of_lt (Nat.lt_of_lt_of_le f513.lt le_r528_0_1)
    have ne557 : r433_0_1 ≠ r528_0_1 := Nat.ne_of_lt (Nat.lt_of_lt_of_le f514.lt le_r528_0_1)
    have ne558 : b446 ≠ r528_0_1 := Nat.ne_of_lt (Nat.lt_of_lt_of_le f518.lt le_r528_0_1)
    have ne559 : b482 ≠ r528_0_1 := Nat.ne_of_lt (Nat.lt_of_lt_of_le v505_0_1.lt le_r528_0_1)
    have sz_r528_0_1 : h0.size ≤ r528_0_1 := Nat.le_trans K527.1 le_r528_0_1
    refine Goes.back st528 ?_
    show Goes _ _ _ _ _ _ _ (T528.setTop (mkF m 81 _ []))
    refine Goes.step (fun _ k => XS.iload X528.here hx rfl (hb hby at_81) rfl  k) ?_
    refine Goes.step (fun _ k => XS.iconst X528.here hx rfl (hb hby at_83) k) ?_
    refine Goes.step (fun _ k => XS.icmpNo X528.here hx rfl (hb hby at_84) rfl (tlt (by decide : (1 : Int32) < (3 : Int32))).2.2.2 k) ?_
    show Goes _ _ _ _ _ _ _ (T528.setTop (mkF m 87 _ []))
    refine Goes.step (fun _ k => XS.aload X528.here hx rfl (hb hby at_87) rfl rfl k) ?_
    obtain ⟨T560, h560, X560, e560, E560, A560, D560, -, st560⟩ := newO X528 hx hZ hown w_47 w_48 w_49 rfl (g := (mkF m 89 #[.val (.long p0), .second, .val (.long p1), .second, .val (.long p2), .second, .val (.long p3), .second, .val (.long p4), .second, .val (.int p5), .val (.int (3 : Int32)), .val (.long p0), .second, .val (.long r424), .second, .val (.long r425), .second, .val (.long r426), .second, .val (.ref b427), .val (.ref b446), .unset, .unset] [(.ref b427)])) rfl (hb hby at_89) (by decide) (by decide)
    obtain ⟨b560, g560⟩ : ∃ z, z = T528.heap.size := ⟨_, rfl⟩
    rw [← g560] at A560 D560 st560
    refine Goes.step st560 ?_
    have g_b560 : n0 ≤ b560 := Nat.le_trans Z547 (Nat.le_of_eq g560.symm)
    have sz_b560 : h0.size ≤ b560 := Nat.le_trans K547.1 (Nat.le_of_eq g560.symm)
    have ne561 : de ≠ b560 := Nat.ne_of_lt (Nat.lt_of_lt_of_le f530.lt (Nat.le_of_eq g560.symm))
    have ne562 : b427 ≠ b560 := Nat.ne_of_lt (Nat.lt_of_lt_of_le v528_0_3.lt (Nat.le_of_eq g560.symm))
    have ne563 : r433_0_1 ≠ b560 := Nat.ne_of_lt (Nat.lt_of_lt_of_le v528_0_4.lt (Nat.le_of_eq g560.symm))
    have ne564 : b446 ≠ b560 := Nat.ne_of_lt (Nat.lt_of_lt_of_le f541.lt (Nat.le_of_eq g560.symm))
    have ne565 : b482 ≠ b560 := Nat.ne_of_lt (Nat.lt_of_lt_of_le f545.lt (Nat.le_of_eq g560.symm))
    have ne566 : r433_0_0 ≠ b560 := Nat.ne_of_lt (Nat.lt_of_lt_of_le v528_0_5.lt (Nat.le_of_eq g560.symm))
    have ne567 : r528_0_1 ≠ b560 := Nat.ne_of_lt (Nat.lt_of_lt_of_le v528_0_6.lt (Nat.le_of_eq g560.symm))
    have ne568 : r528_0_0 ≠ b560 := Nat.ne_of_lt (Nat.lt_of_lt_of_le v528_0_13.lt (Nat.le_of_eq g560.symm))
    have XO569 : Old Z n0 h560 := XO529.ext E560
    have f570 := f530.ext E560
    have f571 := f531.ext E560
    have f572 := v528_0_3.ext E560
    have f573 := v528_0_4.ext E560
    have f574 := f541.ext E560
    have f575 := f542.ext E560
    have f576 := f543.ext E560
    have f577 := f544.ext E560
    have f578 := f545.ext E560
    have f579 := f546.ext E560
    have f580 := v528_0_0.ext E560
    have f581 := v528_0_1.ext E560
    have f582 := v528_0_2.ext E560
    have f583 := v528_0_5.ext E560
    have f584 := v528_0_6.ext E560
    have f585 := v528_0_7.ext E560
    have f586 := v528_0_8.ext E560
    have f587 := v528_0_9.ext E560
    have f588 := v528_0_10.ext E560
    have f589 := v528_0_11.ext E560
    have f590 := v528_0_12.ext E560
    have f591 := v528_0_13.ext E560
    have K592 : Keep h0 h560 [] := K547.ext E560
    have Z592 : n0 ≤ h560.size := Nat.le_trans Z547 E560.1
    have E_b560 := A560
    have F_start_b560 : Fld Z h560 b560 "com/example/orbitloom/orbitloom/core/Timeline$Entry" "start" "J" (.long (0 : Int64)) := D560 (Or.inr w_60) (ty := .long) (by decide)
    have F_end_b560 : Fld Z h560 b560 "com/example/orbitloom/orbitloom/core/Timeline$Entry" "end" "J" (.long (0 : Int64)) := D560 (Or.inr w_62) (ty := .long) (by decide)
    have F_attitude_b560 : Fld Z h560 b560 "com/example/orbitloom/orbitloom/core/Timeline$Entry" "attitude" "Lcom/example/orbitloom/orbitloom/core/Attitude;" .null := D560 (Or.inr w_64) (ty := (.object "com/example/orbitloom/orbitloom/core/Attitude")) (by decide)
    have F_rev_b560 : Fld Z h560 b560 "com/example/orbitloom/orbitloom/core/Timeline$Entry" "rev" "I" (.int (0 : Int32)) := D560 (Or.inr w_66) (ty := .int) (by decide)
    show Goes _ _ _ _ _ _ _ (T560.setTop (mkF m 92 _ [(.ref b560), (.ref b427)]))
    refine Goes.step (fun _ k => XS.dup X560.here hx rfl (hb hby at_92) rfl rfl k) ?_
    refine Goes.step (fun _ k => XS.lload X560.here hx rfl (hb hby at_93) rfl  k) ?_
    refine Goes.step (fun _ k => XS.lload X560.here hx rfl (hb hby at_95) rfl  k) ?_
    refine Goes.step (fun _ k => XS.aconstNull X560.here hx rfl (hb hby at_97) k) ?_
    show Goes _ _ _ _ _ _ _ (T560.setTop (mkF m 98 #[.val (.long p0), .second, .val (.long p1), .second, .val (.long p2), .second, .val (.long p3), .second, .val (.long p4), .second, .val (.int p5), .val (.int (3 : Int32)), .val (.long p0), .second, .val (.long r424), .second, .val (.long r425), .second, .val (.long r426), .second, .val (.ref b427), .val (.ref b446), .unset, .unset] [.null, (.long r424), (.long r424), (.ref b560), (.ref b560), (.ref b427)]))
    refine Goes.step (fun _ k => XS.iconst X560.here hx rfl (hb hby at_98) k) ?_
    obtain ⟨_, _, ⟨T593, L593, k593, n593⟩, -, X593, ⟨Lc593, hQ593, l593, y593, z593⟩, st593⟩ := X560.specialBack hx (y := (⟨"com/example/orbitloom/orbitloom/core/Timeline$Entry", "<init>", "(JJLcom/example/orbitloom/orbitloom/core/Attitude;I)V"⟩ : MethodName)) rfl hown (mvT hZ w_50) (mvT hZ w_51) (mvT hZ w_52) (by decide) (backOf (W := 2) (rm7 l Z a0 hw [] b560 r424 r424 (0 : Int32) h560 n0 Z592 F_start_b560 F_end_b560 F_attitude_b560 F_rev_b560 E_b560 g_b560) hZ w_52 w_49 (by decide) (by decide)) (g := (mkF m 99 #[.val (.long p0), .second, .val (.long p1), .second, .val (.long p2), .second, .val (.long p3), .second, .val (.long p4), .second, .val (.int p5), .val (.int (3 : Int32)), .val (.long p0), .second, .val (.long r424), .second, .val (.long r425), .second, .val (.long r426), .second, .val (.ref b427), .val (.ref b446), .unset, .unset] [(.int (0 : Int32)), .null, (.long r424), (.long r424), (.ref b560), (.ref b560), (.ref b427)])) rfl (by rw [hml]; rfl) (Steps.refl _) (a := b560) (argsL := [(.long r424), (.long r424), .null, (.int (0 : Int32))]) (rest := [(.ref b560), (.ref b427)]) (lenOf pd_2 rfl) rfl (by show 2 * 0 + _ ≤ _; exact Nat.le_of_eq rfl) (hb hby at_99) (fun _ _ => ⟨rfl, e560, (by decide : 9 + 0 ≤ _), (by decide : 38 + 0 ≤ _)⟩)
    dsimp only [Pt.U, Pt.locs, Pt.cells, Pt.slots] at X593 l593 y593 z593 st593 hQ593
    rw [l593, y593, z593] at X593
    obtain ⟨N593, KK593, hR593⟩ := hQ593
    have NA593 := Fr.app NA528 N593
    have XO594 : Old Z n0 T593.heap := XO569.keep KK593 (allS g_b560 all0)
    have f595 := f570.keep KK593 (ninS ne561 nin0)
    have f596 := f571.keep KK593
    have f597 := f572.keep KK593
    have f598 := f573.keep KK593
    have f599 := f574.keep KK593
    have f600 := f575.keep KK593 (ninS ne564 nin0)
    have f601 := f576.keep KK593 (ninS ne564 nin0)
    have f602 := f577.keep KK593 (ninS ne564 nin0)
    have f603 := f578.keep KK593
    have f604 := f579.keep KK593 (ninS ne565 nin0)
    have f605 := f580.keep KK593 (ninS ne562 nin0)
    have f606 := f581.keep KK593 (ninS ne562 nin0)
    have f607 := f582.keep KK593 (ninS ne562 nin0)
    have f608 := f583.keep KK593 (ninS ne566 nin0)
    have f609 := f584.keep KK593
    have f610 := f585.keep KK593 (ninS ne567 nin0)
    have f611 := f586.keep KK593 (ninS ne567 nin0)
    have f612 := f587.keep KK593 (ninS ne567 nin0)
    have f613 := f588.keep KK593 (ninS ne563 nin0)
    have f614 := f589.keep KK593 (ninS ne563 nin0)
    have f615 := f590.keep KK593 (ninS ne563 nin0)
    have f616 := f591.keep KK593 (ninS ne568 nin0)
    have f617 := E_b560.keep KK593
    have K622 : Keep h0 T593.heap [] := K592.trans KK593 (allS (Or.inr sz_b560) all0)
    have Z622 : n0 ≤ T593.heap.size := Nat.le_trans Z592 KK593.1
    obtain ⟨rfl, v593_0_0, v593_0_1⟩ := hR593
    refine Goes.back st593 ?_
    show Goes _ _ _ _ _ _ _ (T593.setTop (mkF m 102 _ [(.ref b560), (.ref b427)]))
    refine Goes.step (fun _ k => XS.aload X593.here hx rfl (hb hby at_102) rfl rfl k) ?_
    obtain ⟨cq623, kq623, q623a, q623b, q623c⟩ := isOf hZ rfl f597
    obtain ⟨_, _, ⟨T623, L623, k623, n623⟩, -, X623, ⟨Lc623, hQ623, l623, y623, z623⟩, st623⟩ := X593.virtualBack hx (y := (⟨"com/example/orbitloom/orbitloom/core/Timeline", "append", "(Lcom/example/orbitloom/orbitloom/core/Timeline$Entry;Ljava/util/List;)V"⟩ : MethodName)) (z := (⟨"com/example/orbitloom/orbitloom/core/Timeline", "append", "(Lcom/example/orbitloom/orbitloom/core/Timeline$Entry;Ljava/util/List;)V"⟩ : MethodName)) hown (mvT hZ w_67) (mvT hZ w_68) (notFace_of_selects (args := #[]) (mvT hZ w_70)) (mvT hZ w_70) (mvT hZ w_69) (by decide) (backOf (W := 0) (rm9_1 l Z a0 hw [] b427 b560 b446 de ee r433_0_0 r433_0_1 (1 : Int32) r528_0_0 kde kk528_0_0 kk433_0_0 mr b482 T593.heap n0 Z622 S_DE S_EE XO594 f605 f606 f607 f613 f614 f615 f601 f602 f597 f598 v593_0_1 f599 f596 f595 (own_arx f616) oo528_0_0 f608 oo433_0_0 MR g_b427 g_r433_0_0 g_r433_0_1 g_r528_0_0 ne443 ne445 nn433_0_0 (Ne.symm ne448) (Ne.symm ne450) (Ne.symm ne449) ne428 ne444 ne442 (Ne.symm ne562) (Ne.symm ne563) (Ne.symm ne566) (Ne.symm ne549) (Ne.symm ne550) (Ne.symm ne551) ne552 ne548 (Ne.symm ne568)) hZ w_71 w_8 (by decide) (by decide)) q623a q623c (g := (mkF m 104 #[.val (.long p0), .second, .val (.long p1), .second, .val (.long p2), .second, .val (.long p3), .second, .val (.long p4), .second, .val (.int p5), .val (.int (3 : Int32)), .val (.long p0), .second, .val (.long r424), .second, .val (.long r425), .second, .val (.long r426), .second, .val (.ref b427), .val (.ref b446), .unset, .unset] [(.ref b446), (.ref b560), (.ref b427)])) rfl (by rw [hml]; rfl) (Steps.refl _) (argsL := [(.ref b560), (.ref b446)]) (rest := []) (lenOf pd_3 rfl) rfl (by show 2 * 0 + _ ≤ _; exact Nat.le_of_eq rfl) (hb hby at_104) (fun _ _ => ⟨rfl, rfl, (by decide : 9 + 2 ≤ _), (by decide : 38 + 3 ≤ _)⟩)
    dsimp only [Pt.U, Pt.locs, Pt.cells, Pt.slots] at X623 l623 y623 z623 st623 hQ623
    rw [l623, y623, z623] at X623
    obtain ⟨N623, KK623, hR623⟩ := hQ623
    have NA623 := Fr.app NA593 N623
    have XO624 : Old Z n0 T623.heap := XO594.keep KK623 (allS g_b427 (allS g_r433_0_0 (allS g_r433_0_1 (allS g_r528_0_0 all0))))
    have f625 := f595.keep KK623 (ninS ne428 (ninS ne442 (ninS ne444 (ninS ne548 nin0))))
    have f626 := f596.keep KK623
    have f627 := f597.keep KK623
    have f628 := f598.keep KK623
    have f629 := f599.keep KK623
    have f630 := f600.keep KK623 (ninS (Ne.symm ne448) (ninS (Ne.symm ne449) (ninS (Ne.symm ne450) (ninS ne552 nin0))))
    have f631 := f601.keep KK623 (ninS (Ne.symm ne448) (ninS (Ne.symm ne449) (ninS (Ne.symm ne450) (ninS ne552 nin0))))
    have f632 := f602.keep KK623 (ninS (Ne.symm ne448) (ninS (Ne.symm ne449) (ninS (Ne.symm ne450) (ninS ne552 nin0))))
    have f633 := f603.keep KK623
    have f634 := f604.keep KK623 (ninS (Ne.symm ne484) (ninS (Ne.symm ne485) (ninS (Ne.symm ne486) (ninS ne553 nin0))))
    have f639 := f609.keep KK623
    have f640 := f610.keep KK623 (ninS (Ne.symm ne555) (ninS (Ne.symm ne556) (ninS (Ne.symm ne557) (ninS nn528_0_0 nin0))))
    have f641 := f611.keep KK623 (ninS (Ne.symm ne555) (ninS (Ne.symm ne556) (ninS (Ne.symm ne557) (ninS nn528_0_0 nin0))))
    have f642 := f612.keep KK623 (ninS (Ne.symm ne555) (ninS (Ne.symm ne556) (ninS (Ne.symm ne557) (ninS nn528_0_0 nin0))))
    have f647 := v593_0_1.keep KK623
    have f648 := v593_0_0.keep KK623 (ninS (Ne.symm ne562) (ninS (Ne.symm ne566) (ninS (Ne.symm ne563) (ninS (Ne.symm ne568) nin0))))
    have K649 : Keep h0 T623.heap [] := K622.trans KK623 (allS (Or.inr sz_b427) (allS (Or.inr sz_r433_0_0) (allS (Or.inr sz_r433_0_1) (allS (Or.inr sz_r528_0_0) all0))))
    have Z649 : n0 ≤ T623.heap.size := Nat.le_trans Z622 KK623.1
    obtain ⟨rfl, v623_0_0, v623_0_1, v623_0_2, v623_0_3, v623_0_4, v623_0_5, v623_0_6, v623_0_7, v623_0_8, v623_0_9⟩ := hR623
    refine Goes.back st623 ?_
    show Goes _ _ _ _ _ _ _ (T623.setTop (mkF m 107 _ []))
    refine Goes.step (fun _ k => XS.iload X623.here hx rfl (hb hby at_107) rfl  k) ?_
    refine Goes.step (fun _ k => XS.iconst X623.here hx rfl (hb hby at_109) k) ?_
    refine Goes.step (fun _ k => XS.icmpNo X623.here hx rfl (hb hby at_110) rfl (tlt (by decide : (2 : Int32) < (3 : Int32))).2.2.2 k) ?_
    show Goes _ _ _ _ _ _ _ (T623.setTop (mkF m 113 _ []))
    refine Goes.step (fun _ k => XS.aload X623.here hx rfl (hb hby at_113) rfl rfl k) ?_
    obtain ⟨T650, h650, X650, e650, E650, A650, D650, -, st650⟩ := newO X623 hx hZ hown w_47 w_48 w_49 rfl (g := (mkF m 115 #[.val (.long p0), .second, .val (.long p1), .second, .val (.long p2), .second, .val (.long p3), .second, .val (.long p4), .second, .val (.int p5), .val (.int (3 : Int32)), .val (.long p0), .second, .val (.long r424), .second, .val (.long r425), .second, .val (.long r426), .second, .val (.ref b427), .val (.ref b446), .unset, .unset] [(.ref b427)])) rfl (hb hby at_115) (by decide) (by decide)
    obtain ⟨b650, g650⟩ : ∃ z, z = T623.heap.size := ⟨_, rfl⟩
    rw [← g650] at A650 D650 st650
    refine Goes.step st650 ?_
    have g_b650 : n0 ≤ b650 := Nat.le_trans Z649 (Nat.le_of_eq g650.symm)
    have sz_b650 : h0.size ≤ b650 := Nat.le_trans K649.1 (Nat.le_of_eq g650.symm)
    have ne651 : de ≠ b650 := Nat.ne_of_lt (Nat.lt_of_lt_of_le f625.lt (Nat.le_of_eq g650.symm))
    have ne652 : b427 ≠ b650 := Nat.ne_of_lt (Nat.lt_of_lt_of_le v623_0_3.lt (Nat.le_of_eq g650.symm))
    have ne653 : r433_0_1 ≠ b650 := Nat.ne_of_lt (Nat.lt_of_lt_of_le v623_0_4.lt (Nat.le_of_eq g650.symm))
    have ne654 : b446 ≠ b650 := Nat.ne_of_lt (Nat.lt_of_lt_of_le f629.lt (Nat.le_of_eq g650.symm))
    have ne655 : b482 ≠ b650 := Nat.ne_of_lt (Nat.lt_of_lt_of_le f633.lt (Nat.le_of_eq g650.symm))
    have ne656 : r528_0_1 ≠ b650 := Nat.ne_of_lt (Nat.lt_of_lt_of_le f639.lt (Nat.le_of_eq g650.symm))
    have ne657 : b560 ≠ b650 := Nat.ne_of_lt (Nat.lt_of_lt_of_le f647.lt (Nat.le_of_eq g650.symm))
    have ne658 : r433_0_0 ≠ b650 := Nat.ne_of_lt (Nat.lt_of_lt_of_le v623_0_5.lt (Nat.le_of_eq g650.symm))
    have ne659 : r528_0_0 ≠ b650 := Nat.ne_of_lt (Nat.lt_of_lt_of_le v623_0_9.lt (Nat.le_of_eq g650.symm))
    have XO660 : Old Z n0 h650 := XO624.ext E650
    have f661 := f625.ext E650
    have f662 := f626.ext E650
    have f663 := v623_0_3.ext E650
    have f664 := v623_0_4.ext E650
    have f665 := f629.ext E650
    have f666 := f630.ext E650
    have f667 := f631.ext E650
    have f668 := f632.ext E650
    have f669 := f633.ext E650
    have f670 := f634.ext E650
    have f671 := f639.ext E650
    have f672 := f640.ext E650
    have f673 := f641.ext E650
    have f674 := f642.ext E650
    have f675 := f647.ext E650
    have f676 := f648.ext E650
    have f677 := v623_0_0.ext E650
    have f678 := v623_0_1.ext E650
    have f679 := v623_0_2.ext E650
    have f680 := v623_0_5.ext E650
    have f681 := v623_0_6.ext E650
    have f682 := v623_0_7.ext E650
    have f683 := v623_0_8.ext E650
    have f684 := v623_0_9.ext E650
    have K685 : Keep h0 h650 [] := K649.ext E650
    have Z685 : n0 ≤ h650.size := Nat.le_trans Z649 E650.1
    have E_b650 := A650
    have F_start_b650 : Fld Z h650 b650 "com/example/orbitloom/orbitloom/core/Timeline$Entry" "start" "J" (.long (0 : Int64)) := D650 (Or.inr w_60) (ty := .long) (by decide)
    have F_end_b650 : Fld Z h650 b650 "com/example/orbitloom/orbitloom/core/Timeline$Entry" "end" "J" (.long (0 : Int64)) := D650 (Or.inr w_62) (ty := .long) (by decide)
    have F_attitude_b650 : Fld Z h650 b650 "com/example/orbitloom/orbitloom/core/Timeline$Entry" "attitude" "Lcom/example/orbitloom/orbitloom/core/Attitude;" .null := D650 (Or.inr w_64) (ty := (.object "com/example/orbitloom/orbitloom/core/Attitude")) (by decide)
    have F_rev_b650 : Fld Z h650 b650 "com/example/orbitloom/orbitloom/core/Timeline$Entry" "rev" "I" (.int (0 : Int32)) := D650 (Or.inr w_66) (ty := .int) (by decide)
    show Goes _ _ _ _ _ _ _ (T650.setTop (mkF m 118 _ [(.ref b650), (.ref b427)]))
    refine Goes.step (fun _ k => XS.dup X650.here hx rfl (hb hby at_118) rfl rfl k) ?_
    refine Goes.step (fun _ k => XS.lload X650.here hx rfl (hb hby at_119) rfl  k) ?_
    refine Goes.step (fun _ k => XS.lload X650.here hx rfl (hb hby at_121) rfl  k) ?_
    refine Goes.step (fun _ k => XS.aconstNull X650.here hx rfl (hb hby at_123) k) ?_
    show Goes _ _ _ _ _ _ _ (T650.setTop (mkF m 124 _ [.null, (.long r425), (.long r425), (.ref b650), (.ref b650), (.ref b427)]))
    refine Goes.step (fun _ k => XS.iconst X650.here hx rfl (hb hby at_124) k) ?_
    obtain ⟨_, _, ⟨T686, L686, k686, n686⟩, -, X686, ⟨Lc686, hQ686, l686, y686, z686⟩, st686⟩ := X650.specialBack hx (y := (⟨"com/example/orbitloom/orbitloom/core/Timeline$Entry", "<init>", "(JJLcom/example/orbitloom/orbitloom/core/Attitude;I)V"⟩ : MethodName)) rfl hown (mvT hZ w_50) (mvT hZ w_51) (mvT hZ w_52) (by decide) (backOf (W := 2) (rm7 l Z a0 hw [] b650 r425 r425 (0 : Int32) h650 n0 Z685 F_start_b650 F_end_b650 F_attitude_b650 F_rev_b650 E_b650 g_b650) hZ w_52 w_49 (by decide) (by decide)) (g := (mkF m 125 #[.val (.long p0), .second, .val (.long p1), .second, .val (.long p2), .second, .val (.long p3), .second, .val (.long p4), .second, .val (.int p5), .val (.int (3 : Int32)), .val (.long p0), .second, .val (.long r424), .second, .val (.long r425), .second, .val (.long r426), .second, .val (.ref b427), .val (.ref b446), .unset, .unset] [(.int (0 : Int32)), .null, (.long r425), (.long r425), (.ref b650), (.ref b650), (.ref b427)])) rfl (by rw [hml]; rfl) (Steps.refl _) (a := b650) (argsL := [(.long r425), (.long r425), .null, (.int (0 : Int32))]) (rest := [(.ref b650), (.ref b427)]) (lenOf pd_2 rfl) rfl (by show 2 * 0 + _ ≤ _; exact Nat.le_of_eq rfl) (hb hby at_125) (fun _ _ => ⟨rfl, e650, (by decide : 12 + 0 ≤ _), (by decide : 45 + 0 ≤ _)⟩)
    dsimp only [Pt.U, Pt.locs, Pt.cells, Pt.slots] at X686 l686 y686 z686 st686 hQ686
    rw [l686, y686, z686] at X686
    obtain ⟨N686, KK686, hR686⟩ := hQ686
    have NA686 := Fr.app NA623 N686
    have XO687 : Old Z n0 T686.heap := XO660.keep KK686 (allS g_b650 all0)
    have f688 := f661.keep KK686 (ninS ne651 nin0)
    have f689 := f662.keep KK686
    have f690 := f663.keep KK686
    have f691 := f664.keep KK686
    have f692 := f665.keep KK686
    have f693 := f666.keep KK686 (ninS ne654 nin0)
    have f694 := f667.keep KK686 (ninS ne654 nin0)
    have f695 := f668.keep KK686 (ninS ne654 nin0)
    have f696 := f669.keep KK686
    have f697 := f670.keep KK686 (ninS ne655 nin0)
    have f698 := f671.keep KK686
    have f699 := f672.keep KK686 (ninS ne656 nin0)
    have f700 := f673.keep KK686 (ninS ne656 nin0)
    have f701 := f674.keep KK686 (ninS ne656 nin0)
    have f702 := f675.keep KK686
    have f703 := f676.keep KK686 (ninS ne657 nin0)
    have f704 := f677.keep KK686 (ninS ne652 nin0)
    have f705 := f678.keep KK686 (ninS ne652 nin0)
    have f706 := f679.keep KK686 (ninS ne652 nin0)
    have f707 := f680.keep KK686 (ninS ne658 nin0)
    have f708 := f681.keep KK686 (ninS ne653 nin0)
    have f709 := f682.keep KK686 (ninS ne653 nin0)
    have f710 := f683.keep KK686 (ninS ne653 nin0)
    have f711 := f684.keep KK686 (ninS ne659 nin0)
    have f712 := E_b650.keep KK686
    have K717 : Keep h0 T686.heap [] := K685.trans KK686 (allS (Or.inr sz_b650) all0)
    have Z717 : n0 ≤ T686.heap.size := Nat.le_trans Z685 KK686.1
    obtain ⟨rfl, v686_0_0, v686_0_1⟩ := hR686
    refine Goes.back st686 ?_
    show Goes _ _ _ _ _ _ _ (T686.setTop (mkF m 128 _ [(.ref b650), (.ref b427)]))
    refine Goes.step (fun _ k => XS.aload X686.here hx rfl (hb hby at_128) rfl rfl k) ?_
    obtain ⟨cq718, kq718, q718a, q718b, q718c⟩ := isOf hZ rfl f690
    obtain ⟨_, _, ⟨T718, L718, k718, n718⟩, -, X718, ⟨Lc718, hQ718, l718, y718, z718⟩, st718⟩ := X686.virtualBack hx (y := (⟨"com/example/orbitloom/orbitloom/core/Timeline", "append", "(Lcom/example/orbitloom/orbitloom/core/Timeline$Entry;Ljava/util/List;)V"⟩ : MethodName)) (z := (⟨"com/example/orbitloom/orbitloom/core/Timeline", "append", "(Lcom/example/orbitloom/orbitloom/core/Timeline$Entry;Ljava/util/List;)V"⟩ : MethodName)) hown (mvT hZ w_67) (mvT hZ w_68) (notFace_of_selects (args := #[]) (mvT hZ w_70)) (mvT hZ w_70) (mvT hZ w_69) (by decide) (backOf (W := 0) (rm9_2 l Z a0 hw [] b427 b650 b446 de ee r433_0_0 r433_0_1 (2 : Int32) r528_0_0 kde kk528_0_0 kk433_0_0 mr b482 b560 T686.heap n0 Z717 S_DE S_EE XO687 f704 f705 f706 f708 f709 f710 f694 f695 f690 f691 v686_0_1 f692 f689 f688 f711 oo528_0_0 f707 oo433_0_0 MR g_b427 g_r433_0_0 g_r433_0_1 g_r528_0_0 ne443 ne445 nn433_0_0 (Ne.symm ne448) (Ne.symm ne450) (Ne.symm ne449) ne428 ne444 ne442 (Ne.symm ne652) (Ne.symm ne653) (Ne.symm ne658) (Ne.symm ne549) (Ne.symm ne550) (Ne.symm ne551) ne552 ne548 (Ne.symm ne659)) hZ w_71 w_8 (by decide) (by decide)) q718a q718c (g := (mkF m 130 #[.val (.long p0), .second, .val (.long p1), .second, .val (.long p2), .second, .val (.long p3), .second, .val (.long p4), .second, .val (.int p5), .val (.int (3 : Int32)), .val (.long p0), .second, .val (.long r424), .second, .val (.long r425), .second, .val (.long r426), .second, .val (.ref b427), .val (.ref b446), .unset, .unset] [(.ref b446), (.ref b650), (.ref b427)])) rfl (by rw [hml]; rfl) (Steps.refl _) (argsL := [(.ref b650), (.ref b446)]) (rest := []) (lenOf pd_3 rfl) rfl (by show 2 * 0 + _ ≤ _; exact Nat.le_of_eq rfl) (hb hby at_130) (fun _ _ => ⟨rfl, rfl, (by decide : 12 + 2 ≤ _), (by decide : 45 + 3 ≤ _)⟩)
    dsimp only [Pt.U, Pt.locs, Pt.cells, Pt.slots] at X718 l718 y718 z718 st718 hQ718
    rw [l718, y718, z718] at X718
    obtain ⟨N718, KK718, hR718⟩ := hQ718
    have NA718 := Fr.app NA686 N718
    have XO719 : Old Z n0 T718.heap := XO687.keep KK718 (allS g_b427 (allS g_r433_0_0 (allS g_r433_0_1 (allS g_r528_0_0 all0))))
    have f720 := f688.keep KK718 (ninS ne428 (ninS ne442 (ninS ne444 (ninS ne548 nin0))))
    have f721 := f689.keep KK718
    have f722 := f690.keep KK718
    have f723 := f691.keep KK718
    have f724 := f692.keep KK718
    have f725 := f693.keep KK718 (ninS (Ne.symm ne448) (ninS (Ne.symm ne449) (ninS (Ne.symm ne450) (ninS ne552 nin0))))
    have f726 := f694.keep KK718 (ninS (Ne.symm ne448) (ninS (Ne.symm ne449) (ninS (Ne.symm ne450) (ninS ne552 nin0))))
    have f727 := f695.keep KK718 (ninS (Ne.symm ne448) (ninS (Ne.symm ne449) (ninS (Ne.symm ne450) (ninS ne552 nin0))))
    have f728 := f696.keep KK718
    have f729 := f697.keep KK718 (ninS (Ne.symm ne484) (ninS (Ne.symm ne485) (ninS (Ne.symm ne486) (ninS ne553 nin0))))
    have f730 := f698.keep KK718
    have f731 := f699.keep KK718 (ninS (Ne.symm ne555) (ninS (Ne.symm ne556) (ninS (Ne.symm ne557) (ninS nn528_0_0 nin0))))
    have f732 := f700.keep KK718 (ninS (Ne.symm ne555) (ninS (Ne.symm ne556) (ninS (Ne.symm ne557) (ninS nn528_0_0 nin0))))
    have f733 := f701.keep KK718 (ninS (Ne.symm ne555) (ninS (Ne.symm ne556) (ninS (Ne.symm ne557) (ninS nn528_0_0 nin0))))
    have f734 := f702.keep KK718
    have f735 := f703.keep KK718 (ninS (Ne.symm ne562) (ninS (Ne.symm ne566) (ninS (Ne.symm ne563) (ninS (Ne.symm ne568) nin0))))
    have f744 := v686_0_1.keep KK718
    have f745 := v686_0_0.keep KK718 (ninS (Ne.symm ne652) (ninS (Ne.symm ne658) (ninS (Ne.symm ne653) (ninS (Ne.symm ne659) nin0))))
    have K746 : Keep h0 T718.heap [] := K717.trans KK718 (allS (Or.inr sz_b427) (allS (Or.inr sz_r433_0_0) (allS (Or.inr sz_r433_0_1) (allS (Or.inr sz_r528_0_0) all0))))
    have Z746 : n0 ≤ T718.heap.size := Nat.le_trans Z717 KK718.1
    obtain ⟨rfl, v718_0_0, v718_0_1, v718_0_2, v718_0_3, v718_0_4, v718_0_5, v718_0_6, v718_0_7, v718_0_8, v718_0_9⟩ := hR718
    refine Goes.back st718 ?_
    show Goes _ _ _ _ _ _ _ (T718.setTop (mkF m 133 #[.val (.long p0), .second, .val (.long p1), .second, .val (.long p2), .second, .val (.long p3), .second, .val (.long p4), .second, .val (.int p5), .val (.int (3 : Int32)), .val (.long p0), .second, .val (.long r424), .second, .val (.long r425), .second, .val (.long r426), .second, .val (.ref b427), .val (.ref b446), .unset, .unset] []))
    refine Goes.step (fun _ k => XS.iload X718.here hx rfl (hb hby at_133) rfl  k) ?_
    refine Goes.step (fun _ k => XS.iconst X718.here hx rfl (hb hby at_135) k) ?_
    refine Goes.step (fun _ k => XS.icmpYes X718.here hx rfl (pc0 := 136) (pc' := 159) rfl (hb hby at_136) rfl (flt (by decide : ¬ ((3 : Int32) < (3 : Int32)))).2.2.2 (by decide) (by decide) k) ?_
    show Goes _ _ _ _ _ _ _ (T718.setTop (mkF m 159 _ []))
    refine Goes.step (fun _ k => XS.aload X718.here hx rfl (hb hby at_159) rfl rfl k) ?_
    refine Goes.step (fun _ k => XS.lload X718.here hx rfl (hb hby at_161) rfl  k) ?_
    obtain ⟨cq747, kq747, q747a, q747b, q747c⟩ := isOf hZ rfl v718_0_3
    obtain ⟨_, _, ⟨T747, L747, k747, n747⟩, -, X747, ⟨Lc747, hQ747, l747, y747, z747⟩, st747⟩ := X718.virtualBack hx (y := (⟨"com/example/orbitloom/orbitloom/core/Timeline", "firstStartingFrom", "(J)I"⟩ : MethodName)) (z := (⟨"com/example/orbitloom/orbitloom/core/Timeline", "firstStartingFrom", "(J)I"⟩ : MethodName)) hown (mvT hZ w_145) (mvT hZ w_146) (notFace_of_selects (args := #[]) (mvT hZ w_148)) (mvT hZ w_148) (mvT hZ w_147) (by decide) (backOf (W := 0) (rm20_3 l Z a0 hw [] b427 p4 r433_0_0 kk433_0_0 b482 b560 b650 p0 r424 r425 T718.heap n0 Z746 v718_0_0 v718_0_1 v718_0_3 v718_0_5 f729 f728 f735 f734 f745 f744) hZ w_149 w_8 (by decide) (by decide)) q747a q747c (g := (mkF m 163 #[.val (.long p0), .second, .val (.long p1), .second, .val (.long p2), .second, .val (.long p3), .second, .val (.long p4), .second, .val (.int p5), .val (.int (3 : Int32)), .val (.long p0), .second, .val (.long r424), .second, .val (.long r425), .second, .val (.long r426), .second, .val (.ref b427), .val (.ref b446), .unset, .unset] [(.long p4), (.ref b427)])) rfl (by rw [hml]; rfl) (Steps.refl _) (argsL := [(.long p4)]) (rest := []) (lenOf pd_14 rfl) rfl (by show 2 * 0 + _ ≤ _; exact Nat.le_of_eq rfl) (hb hby at_163) (fun _ _ => ⟨rfl, rfl, (by decide : 14 + 0 ≤ _), (by decide : 48 + 0 ≤ _)⟩)
    dsimp only [Pt.U, Pt.locs, Pt.cells, Pt.slots] at X747 l747 y747 z747 st747 hQ747
    rw [l747, y747, z747] at X747
    obtain ⟨N747, KK747, hR747⟩ := hQ747
    have NA747 := Fr.app NA718 N747
    rcases hR747 with ⟨rfl, u747_0_0, u747_0_1⟩ | ⟨rfl, u747_1_0, u747_1_1⟩ | ⟨rfl, u747_2_0, u747_2_1⟩ | ⟨rfl, u747_3_0, u747_3_1⟩
    · refine Goes.back st747 ?_
      show Goes _ _ _ _ _ _ _ (T747.setTop (mkF m 166 _ [(.int (3 : Int32))]))
      refine Goes.step (fun _ k => XS.istore X747.here hx rfl (hb hby at_166) rfl (l' := #[.val (.long p0), .second, .val (.long p1), .second, .val (.long p2), .second, .val (.long p3), .second, .val (.long p4), .second, .val (.int p5), .val (.int (3 : Int32)), .val (.long p0), .second, .val (.long r424), .second, .val (.long r425), .second, .val (.long r426), .second, .val (.ref b427), .val (.ref b446), .val (.int (3 : Int32)), .unset]) rfl k) ?_
      show Goes _ _ _ _ _ _ _ (T747.setTop (mkF m 168 _ []))
      refine Goes.step (fun _ k => XS.iconst X747.here hx rfl (hb hby at_168) k) ?_
      refine Goes.step (fun _ k => XS.istore X747.here hx rfl (hb hby at_169) rfl (l' := #[.val (.long p0), .second, .val (.long p1), .second, .val (.long p2), .second, .val (.long p3), .second, .val (.long p4), .second, .val (.int p5), .val (.int (3 : Int32)), .val (.long p0), .second, .val (.long r424), .second, .val (.long r425), .second, .val (.long r426), .second, .val (.ref b427), .val (.ref b446), .val (.int (3 : Int32)), .val (.int (0 : Int32))]) rfl k) ?_
      show Goes _ _ _ _ _ _ _ (T747.setTop (mkF m 171 _ []))
      refine Goes.step (fun _ k => XS.iload X747.here hx rfl (hb hby at_171) rfl  k) ?_
      refine Goes.step (fun _ k => XS.ifNo X747.here hx rfl (hb hby at_173) rfl ((if0 _ _).trans (tlt (by decide : (0 : Int32) < (3 : Int32))).2.2.2) k) ?_
      show Goes _ _ _ _ _ _ _ (T747.setTop (mkF m 176 _ []))
      refine Goes.step (fun _ k => XS.lload X747.here hx rfl (hb hby at_176) rfl  k) ?_
      refine Goes.step (fun _ k => XS.lload X747.here hx rfl (hb hby at_178) rfl  k) ?_
      refine Goes.step (fun _ k => XS.lcmp X747.here hx rfl (hb hby at_180) rfl k) ?_
      show Goes _ _ _ _ _ _ _ (T747.setTop (mkF m 181 _ [(.int (lcmpW p0 p4))]))
      refine Goes.step (fun _ k => XS.ifNo X747.here hx rfl (hb hby at_181) rfl ((if0 _ _).trans (tlt ((lw_lt _ _).mpr (own_ltDown mo424 u747_0_0))).2.1) k) ?_
      show Goes _ _ _ _ _ _ _ (T747.setTop (mkF m 184 #[.val (.long p0), .second, .val (.long p1), .second, .val (.long p2), .second, .val (.long p3), .second, .val (.long p4), .second, .val (.int p5), .val (.int (3 : Int32)), .val (.long p0), .second, .val (.long r424), .second, .val (.long r425), .second, .val (.long r426), .second, .val (.ref b427), .val (.ref b446), .val (.int (3 : Int32)), .val (.int (0 : Int32))] []))
      refine Goes.step (fun _ k => XS.iinc X747.here hx rfl (hb hby at_184) rfl (l' := #[.val (.long p0), .second, .val (.long p1), .second, .val (.long p2), .second, .val (.long p3), .second, .val (.long p4), .second, .val (.int p5), .val (.int (3 : Int32)), .val (.long p0), .second, .val (.long r424), .second, .val (.long r425), .second, .val (.long r426), .second, .val (.ref b427), .val (.ref b446), .val (.int (3 : Int32)), .val (.int (1 : Int32))]) rfl k) ?_
      show Goes _ _ _ _ _ _ _ (T747.setTop (mkF m 187 _ []))
      refine Goes.step (fun _ k => XS.iload X747.here hx rfl (hb hby at_187) rfl  k) ?_
      refine Goes.step (fun _ k => XS.iconst X747.here hx rfl (hb hby at_189) k) ?_
      refine Goes.step (fun _ k => XS.icmpNo X747.here hx rfl (hb hby at_190) rfl (tlt (by decide : (1 : Int32) < (3 : Int32))).2.2.2 k) ?_
      show Goes _ _ _ _ _ _ _ (T747.setTop (mkF m 193 _ []))
      refine Goes.step (fun _ k => XS.lload X747.here hx rfl (hb hby at_193) rfl  k) ?_
      refine Goes.step (fun _ k => XS.lload X747.here hx rfl (hb hby at_195) rfl  k) ?_
      refine Goes.step (fun _ k => XS.lcmp X747.here hx rfl (hb hby at_197) rfl k) ?_
      show Goes _ _ _ _ _ _ _ (T747.setTop (mkF m 198 _ [(.int (lcmpW r424 p4))]))
      refine Goes.step (fun _ k => XS.ifNo X747.here hx rfl (hb hby at_198) rfl ((if0 _ _).trans (tlt ((lw_lt _ _).mpr u747_0_0)).2.1) k) ?_
      show Goes _ _ _ _ _ _ _ (T747.setTop (mkF m 201 _ []))
      refine Goes.step (fun _ k => XS.iinc X747.here hx rfl (hb hby at_201) rfl (l' := #[.val (.long p0), .second, .val (.long p1), .second, .val (.long p2), .second, .val (.long p3), .second, .val (.long p4), .second, .val (.int p5), .val (.int (3 : Int32)), .val (.long p0), .second, .val (.long r424), .second, .val (.long r425), .second, .val (.long r426), .second, .val (.ref b427), .val (.ref b446), .val (.int (3 : Int32)), .val (.int (2 : Int32))]) rfl k) ?_
      show Goes _ _ _ _ _ _ _ (T747.setTop (mkF m 204 _ []))
      refine Goes.step (fun _ k => XS.iload X747.here hx rfl (hb hby at_204) rfl  k) ?_
      refine Goes.step (fun _ k => XS.iconst X747.here hx rfl (hb hby at_206) k) ?_
      refine Goes.step (fun _ k => XS.icmpNo X747.here hx rfl (hb hby at_207) rfl (tlt (by decide : (2 : Int32) < (3 : Int32))).2.2.2 k) ?_
      show Goes _ _ _ _ _ _ _ (T747.setTop (mkF m 210 _ []))
      refine Goes.step (fun _ k => XS.lload X747.here hx rfl (hb hby at_210) rfl  k) ?_
      refine Goes.step (fun _ k => XS.lload X747.here hx rfl (hb hby at_212) rfl  k) ?_
      refine Goes.step (fun _ k => XS.lcmp X747.here hx rfl (hb hby at_214) rfl k) ?_
      show Goes _ _ _ _ _ _ _ (T747.setTop (mkF m 215 #[.val (.long p0), .second, .val (.long p1), .second, .val (.long p2), .second, .val (.long p3), .second, .val (.long p4), .second, .val (.int p5), .val (.int (3 : Int32)), .val (.long p0), .second, .val (.long r424), .second, .val (.long r425), .second, .val (.long r426), .second, .val (.ref b427), .val (.ref b446), .val (.int (3 : Int32)), .val (.int (2 : Int32))] [(.int (lcmpW r425 p4))]))
      refine Goes.step (fun _ k => XS.ifNo X747.here hx rfl (hb hby at_215) rfl ((if0 _ _).trans (tlt ((lw_lt _ _).mpr u747_0_1)).2.1) k) ?_
      show Goes _ _ _ _ _ _ _ (T747.setTop (mkF m 218 _ []))
      refine Goes.step (fun _ k => XS.iinc X747.here hx rfl (hb hby at_218) rfl (l' := #[.val (.long p0), .second, .val (.long p1), .second, .val (.long p2), .second, .val (.long p3), .second, .val (.long p4), .second, .val (.int p5), .val (.int (3 : Int32)), .val (.long p0), .second, .val (.long r424), .second, .val (.long r425), .second, .val (.long r426), .second, .val (.ref b427), .val (.ref b446), .val (.int (3 : Int32)), .val (.int (3 : Int32))]) rfl k) ?_
      show Goes _ _ _ _ _ _ _ (T747.setTop (mkF m 221 _ []))
      refine Goes.step (fun _ k => XS.iload X747.here hx rfl (hb hby at_221) rfl  k) ?_
      refine Goes.step (fun _ k => XS.iconst X747.here hx rfl (hb hby at_223) k) ?_
      refine Goes.step (fun _ k => XS.icmpYes X747.here hx rfl (pc0 := 224) (pc' := 238) rfl (hb hby at_224) rfl (flt (by decide : ¬ ((3 : Int32) < (3 : Int32)))).2.2.2 (by decide) (by decide) k) ?_
      show Goes _ _ _ _ _ _ _ (T747.setTop (mkF m 238 _ []))
      refine Goes.step (fun _ k => XS.iload X747.here hx rfl (hb hby at_238) rfl  k) ?_
      refine Goes.step (fun _ k => XS.iload X747.here hx rfl (hb hby at_240) rfl  k) ?_
      refine Goes.step (fun _ k => XS.icmpNo X747.here hx rfl (hb hby at_242) rfl (teq (by decide : (3 : Int32) = (3 : Int32))).2 k) ?_
      show Goes _ _ _ _ _ _ _ (T747.setTop (mkF m 245 _ []))
      refine Goes.step (fun _ k => XS.iconst X747.here hx rfl (hb hby at_245) k) ?_
      refine Goes.step (fun _ k => XS.goto X747.here hx rfl (pc0 := 246) (pc' := 250) rfl (hb hby at_246) (by decide) (by decide) k) ?_
      show Goes _ _ _ _ _ _ _ (T747.setTop (mkF m 250 _ [(.int (1 : Int32))]))
      exact Goes.ret X747 hx (BodyLoose.notSynchronized Bd) Bd.returns rfl (Or.inl ⟨rfl, by simp, _, rfl⟩) (hb hby at_250) (by show Q0 Z p0 p1 p2 p3 p4 p5 de kde ee mr h0 n0 (some (.int (1 : Int32))) T747.heap _; rw [KK747]; exact ⟨rfl, NA747⟩) (by decide) (by decide)
    · refine Goes.back st747 ?_
      show Goes _ _ _ _ _ _ _ (T747.setTop (mkF m 166 _ [(.int (2 : Int32))]))
      refine Goes.step (fun _ k => XS.istore X747.here hx rfl (hb hby at_166) rfl (l' := #[.val (.long p0), .second, .val (.long p1), .second, .val (.long p2), .second, .val (.long p3), .second, .val (.long p4), .second, .val (.int p5), .val (.int (3 : Int32)), .val (.long p0), .second, .val (.long r424), .second, .val (.long r425), .second, .val (.long r426), .second, .val (.ref b427), .val (.ref b446), .val (.int (2 : Int32)), .unset]) rfl k) ?_
      show Goes _ _ _ _ _ _ _ (T747.setTop (mkF m 168 _ []))
      refine Goes.step (fun _ k => XS.iconst X747.here hx rfl (hb hby at_168) k) ?_
      refine Goes.step (fun _ k => XS.istore X747.here hx rfl (hb hby at_169) rfl (l' := #[.val (.long p0), .second, .val (.long p1), .second, .val (.long p2), .second, .val (.long p3), .second, .val (.long p4), .second, .val (.int p5), .val (.int (3 : Int32)), .val (.long p0), .second, .val (.long r424), .second, .val (.long r425), .second, .val (.long r426), .second, .val (.ref b427), .val (.ref b446), .val (.int (2 : Int32)), .val (.int (0 : Int32))]) rfl k) ?_
      show Goes _ _ _ _ _ _ _ (T747.setTop (mkF m 171 _ []))
      refine Goes.step (fun _ k => XS.iload X747.here hx rfl (hb hby at_171) rfl  k) ?_
      refine Goes.step (fun _ k => XS.ifNo X747.here hx rfl (hb hby at_173) rfl ((if0 _ _).trans (tlt (by decide : (0 : Int32) < (3 : Int32))).2.2.2) k) ?_
      show Goes _ _ _ _ _ _ _ (T747.setTop (mkF m 176 _ []))
      refine Goes.step (fun _ k => XS.lload X747.here hx rfl (hb hby at_176) rfl  k) ?_
      refine Goes.step (fun _ k => XS.lload X747.here hx rfl (hb hby at_178) rfl  k) ?_
      refine Goes.step (fun _ k => XS.lcmp X747.here hx rfl (hb hby at_180) rfl k) ?_
      show Goes _ _ _ _ _ _ _ (T747.setTop (mkF m 181 _ [(.int (lcmpW p0 p4))]))
      refine Goes.step (fun _ k => XS.ifNo X747.here hx rfl (hb hby at_181) rfl ((if0 _ _).trans (tlt ((lw_lt _ _).mpr (own_ltDown mo424 u747_1_0))).2.1) k) ?_
      show Goes _ _ _ _ _ _ _ (T747.setTop (mkF m 184 #[.val (.long p0), .second, .val (.long p1), .second, .val (.long p2), .second, .val (.long p3), .second, .val (.long p4), .second, .val (.int p5), .val (.int (3 : Int32)), .val (.long p0), .second, .val (.long r424), .second, .val (.long r425), .second, .val (.long r426), .second, .val (.ref b427), .val (.ref b446), .val (.int (2 : Int32)), .val (.int (0 : Int32))] []))
      refine Goes.step (fun _ k => XS.iinc X747.here hx rfl (hb hby at_184) rfl (l' := #[.val (.long p0), .second, .val (.long p1), .second, .val (.long p2), .second, .val (.long p3), .second, .val (.long p4), .second, .val (.int p5), .val (.int (3 : Int32)), .val (.long p0), .second, .val (.long r424), .second, .val (.long r425), .second, .val (.long r426), .second, .val (.ref b427), .val (.ref b446), .val (.int (2 : Int32)), .val (.int (1 : Int32))]) rfl k) ?_
      show Goes _ _ _ _ _ _ _ (T747.setTop (mkF m 187 _ []))
      refine Goes.step (fun _ k => XS.iload X747.here hx rfl (hb hby at_187) rfl  k) ?_
      refine Goes.step (fun _ k => XS.iconst X747.here hx rfl (hb hby at_189) k) ?_
      refine Goes.step (fun _ k => XS.icmpNo X747.here hx rfl (hb hby at_190) rfl (tlt (by decide : (1 : Int32) < (3 : Int32))).2.2.2 k) ?_
      show Goes _ _ _ _ _ _ _ (T747.setTop (mkF m 193 _ []))
      refine Goes.step (fun _ k => XS.lload X747.here hx rfl (hb hby at_193) rfl  k) ?_
      refine Goes.step (fun _ k => XS.lload X747.here hx rfl (hb hby at_195) rfl  k) ?_
      refine Goes.step (fun _ k => XS.lcmp X747.here hx rfl (hb hby at_197) rfl k) ?_
      show Goes _ _ _ _ _ _ _ (T747.setTop (mkF m 198 _ [(.int (lcmpW r424 p4))]))
      refine Goes.step (fun _ k => XS.ifNo X747.here hx rfl (hb hby at_198) rfl ((if0 _ _).trans (tlt ((lw_lt _ _).mpr u747_1_0)).2.1) k) ?_
      show Goes _ _ _ _ _ _ _ (T747.setTop (mkF m 201 _ []))
      refine Goes.step (fun _ k => XS.iinc X747.here hx rfl (hb hby at_201) rfl (l' := #[.val (.long p0), .second, .val (.long p1), .second, .val (.long p2), .second, .val (.long p3), .second, .val (.long p4), .second, .val (.int p5), .val (.int (3 : Int32)), .val (.long p0), .second, .val (.long r424), .second, .val (.long r425), .second, .val (.long r426), .second, .val (.ref b427), .val (.ref b446), .val (.int (2 : Int32)), .val (.int (2 : Int32))]) rfl k) ?_
      show Goes _ _ _ _ _ _ _ (T747.setTop (mkF m 204 _ []))
      refine Goes.step (fun _ k => XS.iload X747.here hx rfl (hb hby at_204) rfl  k) ?_
      refine Goes.step (fun _ k => XS.iconst X747.here hx rfl (hb hby at_206) k) ?_
      refine Goes.step (fun _ k => XS.icmpNo X747.here hx rfl (hb hby at_207) rfl (tlt (by decide : (2 : Int32) < (3 : Int32))).2.2.2 k) ?_
      show Goes _ _ _ _ _ _ _ (T747.setTop (mkF m 210 _ []))
      refine Goes.step (fun _ k => XS.lload X747.here hx rfl (hb hby at_210) rfl  k) ?_
      refine Goes.step (fun _ k => XS.lload X747.here hx rfl (hb hby at_212) rfl  k) ?_
      refine Goes.step (fun _ k => XS.lcmp X747.here hx rfl (hb hby at_214) rfl k) ?_
      show Goes _ _ _ _ _ _ _ (T747.setTop (mkF m 215 #[.val (.long p0), .second, .val (.long p1), .second, .val (.long p2), .second, .val (.long p3), .second, .val (.long p4), .second, .val (.int p5), .val (.int (3 : Int32)), .val (.long p0), .second, .val (.long r424), .second, .val (.long r425), .second, .val (.long r426), .second, .val (.ref b427), .val (.ref b446), .val (.int (2 : Int32)), .val (.int (2 : Int32))] [(.int (lcmpW r425 p4))]))
      refine Goes.step (fun _ k => XS.ifYes X747.here hx rfl (pc0 := 215) (pc' := 221) rfl (hb hby at_215) rfl ((if0 _ _).trans (flt (fun q => u747_1_1 ((lw_lt _ _).mp q))).2.1) (by decide) (by decide) k) ?_
      show Goes _ _ _ _ _ _ _ (T747.setTop (mkF m 221 _ []))
      refine Goes.step (fun _ k => XS.iload X747.here hx rfl (hb hby at_221) rfl  k) ?_
      refine Goes.step (fun _ k => XS.iconst X747.here hx rfl (hb hby at_223) k) ?_
      refine Goes.step (fun _ k => XS.icmpYes X747.here hx rfl (pc0 := 224) (pc' := 238) rfl (hb hby at_224) rfl (flt (by decide : ¬ ((3 : Int32) < (3 : Int32)))).2.2.2 (by decide) (by decide) k) ?_
      show Goes _ _ _ _ _ _ _ (T747.setTop (mkF m 238 _ []))
      refine Goes.step (fun _ k => XS.iload X747.here hx rfl (hb hby at_238) rfl  k) ?_
      refine Goes.step (fun _ k => XS.iload X747.here hx rfl (hb hby at_240) rfl  k) ?_
      refine Goes.step (fun _ k => XS.icmpNo X747.here hx rfl (hb hby at_242) rfl (teq (by decide : (2 : Int32) = (2 : Int32))).2 k) ?_
      show Goes _ _ _ _ _ _ _ (T747.setTop (mkF m 245 _ []))
      refine Goes.step (fun _ k => XS.iconst X747.here hx rfl (hb hby at_245) k) ?_
      refine Goes.step (fun _ k => XS.goto X747.here hx rfl (pc0 := 246) (pc' := 250) rfl (hb hby at_246) (by decide) (by decide) k) ?_
      show Goes _ _ _ _ _ _ _ (T747.setTop (mkF m 250 _ [(.int (1 : Int32))]))
      exact Goes.ret X747 hx (BodyLoose.notSynchronized Bd) Bd.returns rfl (Or.inl ⟨rfl, by simp, _, rfl⟩) (hb hby at_250) (by show Q0 Z p0 p1 p2 p3 p4 p5 de kde ee mr h0 n0 (some (.int (1 : Int32))) T747.heap _; rw [KK747]; exact ⟨rfl, NA747⟩) (by decide) (by decide)
    · refine Goes.back st747 ?_
      show Goes _ _ _ _ _ _ _ (T747.setTop (mkF m 166 _ [(.int (1 : Int32))]))
      refine Goes.step (fun _ k => XS.istore X747.here hx rfl (hb hby at_166) rfl (l' := #[.val (.long p0), .second, .val (.long p1), .second, .val (.long p2), .second, .val (.long p3), .second, .val (.long p4), .second, .val (.int p5), .val (.int (3 : Int32)), .val (.long p0), .second, .val (.long r424), .second, .val (.long r425), .second, .val (.long r426), .second, .val (.ref b427), .val (.ref b446), .val (.int (1 : Int32)), .unset]) rfl k) ?_
      show Goes _ _ _ _ _ _ _ (T747.setTop (mkF m 168 _ []))
      refine Goes.step (fun _ k => XS.iconst X747.here hx rfl (hb hby at_168) k) ?_
      refine Goes.step (fun _ k => XS.istore X747.here hx rfl (hb hby at_169) rfl (l' := #[.val (.long p0), .second, .val (.long p1), .second, .val (.long p2), .second, .val (.long p3), .second, .val (.long p4), .second, .val (.int p5), .val (.int (3 : Int32)), .val (.long p0), .second, .val (.long r424), .second, .val (.long r425), .second, .val (.long r426), .second, .val (.ref b427), .val (.ref b446), .val (.int (1 : Int32)), .val (.int (0 : Int32))]) rfl k) ?_
      show Goes _ _ _ _ _ _ _ (T747.setTop (mkF m 171 _ []))
      refine Goes.step (fun _ k => XS.iload X747.here hx rfl (hb hby at_171) rfl  k) ?_
      refine Goes.step (fun _ k => XS.ifNo X747.here hx rfl (hb hby at_173) rfl ((if0 _ _).trans (tlt (by decide : (0 : Int32) < (3 : Int32))).2.2.2) k) ?_
      show Goes _ _ _ _ _ _ _ (T747.setTop (mkF m 176 _ []))
      refine Goes.step (fun _ k => XS.lload X747.here hx rfl (hb hby at_176) rfl  k) ?_
      refine Goes.step (fun _ k => XS.lload X747.here hx rfl (hb hby at_178) rfl  k) ?_
      refine Goes.step (fun _ k => XS.lcmp X747.here hx rfl (hb hby at_180) rfl k) ?_
      show Goes _ _ _ _ _ _ _ (T747.setTop (mkF m 181 _ [(.int (lcmpW p0 p4))]))
      refine Goes.step (fun _ k => XS.ifNo X747.here hx rfl (hb hby at_181) rfl ((if0 _ _).trans (tlt ((lw_lt _ _).mpr u747_2_1)).2.1) k) ?_
      show Goes _ _ _ _ _ _ _ (T747.setTop (mkF m 184 #[.val (.long p0), .second, .val (.long p1), .second, .val (.long p2), .second, .val (.long p3), .second, .val (.long p4), .second, .val (.int p5), .val (.int (3 : Int32)), .val (.long p0), .second, .val (.long r424), .second, .val (.long r425), .second, .val (.long r426), .second, .val (.ref b427), .val (.ref b446), .val (.int (1 : Int32)), .val (.int (0 : Int32))] []))
      refine Goes.step (fun _ k => XS.iinc X747.here hx rfl (hb hby at_184) rfl (l' := #[.val (.long p0), .second, .val (.long p1), .second, .val (.long p2), .second, .val (.long p3), .second, .val (.long p4), .second, .val (.int p5), .val (.int (3 : Int32)), .val (.long p0), .second, .val (.long r424), .second, .val (.long r425), .second, .val (.long r426), .second, .val (.ref b427), .val (.ref b446), .val (.int (1 : Int32)), .val (.int (1 : Int32))]) rfl k) ?_
      show Goes _ _ _ _ _ _ _ (T747.setTop (mkF m 187 _ []))
      refine Goes.step (fun _ k => XS.iload X747.here hx rfl (hb hby at_187) rfl  k) ?_
      refine Goes.step (fun _ k => XS.iconst X747.here hx rfl (hb hby at_189) k) ?_
      refine Goes.step (fun _ k => XS.icmpNo X747.here hx rfl (hb hby at_190) rfl (tlt (by decide : (1 : Int32) < (3 : Int32))).2.2.2 k) ?_
      show Goes _ _ _ _ _ _ _ (T747.setTop (mkF m 193 _ []))
      refine Goes.step (fun _ k => XS.lload X747.here hx rfl (hb hby at_193) rfl  k) ?_
      refine Goes.step (fun _ k => XS.lload X747.here hx rfl (hb hby at_195) rfl  k) ?_
      refine Goes.step (fun _ k => XS.lcmp X747.here hx rfl (hb hby at_197) rfl k) ?_
      show Goes _ _ _ _ _ _ _ (T747.setTop (mkF m 198 _ [(.int (lcmpW r424 p4))]))
      refine Goes.step (fun _ k => XS.ifYes X747.here hx rfl (pc0 := 198) (pc' := 204) rfl (hb hby at_198) rfl ((if0 _ _).trans (flt (fun q => u747_2_0 ((lw_lt _ _).mp q))).2.1) (by decide) (by decide) k) ?_
      show Goes _ _ _ _ _ _ _ (T747.setTop (mkF m 204 _ []))
      refine Goes.step (fun _ k => XS.iload X747.here hx rfl (hb hby at_204) rfl  k) ?_
      refine Goes.step (fun _ k => XS.iconst X747.here hx rfl (hb hby at_206) k) ?_
      refine Goes.step (fun _ k => XS.icmpNo X747.here hx rfl (hb hby at_207) rfl (tlt (by decide : (2 : Int32) < (3 : Int32))).2.2.2 k) ?_
      show Goes _ _ _ _ _ _ _ (T747.setTop (mkF m 210 _ []))
      refine Goes.step (fun _ k => XS.lload X747.here hx rfl (hb hby at_210) rfl  k) ?_
      refine Goes.step (fun _ k => XS.lload X747.here hx rfl (hb hby at_212) rfl  k) ?_
      refine Goes.step (fun _ k => XS.lcmp X747.here hx rfl (hb hby at_214) rfl k) ?_
      show Goes _ _ _ _ _ _ _ (T747.setTop (mkF m 215 _ [(.int (lcmpW r425 p4))]))
      refine Goes.step (fun _ k => XS.ifYes X747.here hx rfl (pc0 := 215) (pc' := 221) rfl (hb hby at_215) rfl ((if0 _ _).trans (flt (fun q => (own_ltUp mo425 u747_2_0) ((lw_lt _ _).mp q))).2.1) (by decide) (by decide) k) ?_
      show Goes _ _ _ _ _ _ _ (T747.setTop (mkF m 221 #[.val (.long p0), .second, .val (.long p1), .second, .val (.long p2), .second, .val (.long p3), .second, .val (.long p4), .second, .val (.int p5), .val (.int (3 : Int32)), .val (.long p0), .second, .val (.long r424), .second, .val (.long r425), .second, .val (.long r426), .second, .val (.ref b427), .val (.ref b446), .val (.int (1 : Int32)), .val (.int (1 : Int32))] []))
      refine Goes.step (fun _ k => XS.iload X747.here hx rfl (hb hby at_221) rfl  k) ?_
      refine Goes.step (fun _ k => XS.iconst X747.here hx rfl (hb hby at_223) k) ?_
      refine Goes.step (fun _ k => XS.icmpYes X747.here hx rfl (pc0 := 224) (pc' := 238) rfl (hb hby at_224) rfl (flt (by decide : ¬ ((3 : Int32) < (3 : Int32)))).2.2.2 (by decide) (by decide) k) ?_
      show Goes _ _ _ _ _ _ _ (T747.setTop (mkF m 238 _ []))
      refine Goes.step (fun _ k => XS.iload X747.here hx rfl (hb hby at_238) rfl  k) ?_
      refine Goes.step (fun _ k => XS.iload X747.here hx rfl (hb hby at_240) rfl  k) ?_
      refine Goes.step (fun _ k => XS.icmpNo X747.here hx rfl (hb hby at_242) rfl (teq (by decide : (1 : Int32) = (1 : Int32))).2 k) ?_
      show Goes _ _ _ _ _ _ _ (T747.setTop (mkF m 245 _ []))
      refine Goes.step (fun _ k => XS.iconst X747.here hx rfl (hb hby at_245) k) ?_
      refine Goes.step (fun _ k => XS.goto X747.here hx rfl (pc0 := 246) (pc' := 250) rfl (hb hby at_246) (by decide) (by decide) k) ?_
      show Goes _ _ _ _ _ _ _ (T747.setTop (mkF m 250 _ [(.int (1 : Int32))]))
      exact Goes.ret X747 hx (BodyLoose.notSynchronized Bd) Bd.returns rfl (Or.inl ⟨rfl, by simp, _, rfl⟩) (hb hby at_250) (by show Q0 Z p0 p1 p2 p3 p4 p5 de kde ee mr h0 n0 (some (.int (1 : Int32))) T747.heap _; rw [KK747]; exact ⟨rfl, NA747⟩) (by decide) (by decide)
    · refine Goes.back st747 ?_
      show Goes _ _ _ _ _ _ _ (T747.setTop (mkF m 166 _ [(.int (0 : Int32))]))
      refine Goes.step (fun _ k => XS.istore X747.here hx rfl (hb hby at_166) rfl (l' := #[.val (.long p0), .second, .val (.long p1), .second, .val (.long p2), .second, .val (.long p3), .second, .val (.long p4), .second, .val (.int p5), .val (.int (3 : Int32)), .val (.long p0), .second, .val (.long r424), .second, .val (.long r425), .second, .val (.long r426), .second, .val (.ref b427), .val (.ref b446), .val (.int (0 : Int32)), .unset]) rfl k) ?_
      show Goes _ _ _ _ _ _ _ (T747.setTop (mkF m 168 _ []))
      refine Goes.step (fun _ k => XS.iconst X747.here hx rfl (hb hby at_168) k) ?_
      refine Goes.step (fun _ k => XS.istore X747.here hx rfl (hb hby at_169) rfl (l' := #[.val (.long p0), .second, .val (.long p1), .second, .val (.long p2), .second, .val (.long p3), .second, .val (.long p4), .second, .val (.int p5), .val (.int (3 : Int32)), .val (.long p0), .second, .val (.long r424), .second, .val (.long r425), .second, .val (.long r426), .second, .val (.ref b427), .val (.ref b446), .val (.int (0 : Int32)), .val (.int (0 : Int32))]) rfl k) ?_
      show Goes _ _ _ _ _ _ _ (T747.setTop (mkF m 171 _ []))
      refine Goes.step (fun _ k => XS.iload X747.here hx rfl (hb hby at_171) rfl  k) ?_
      refine Goes.step (fun _ k => XS.ifNo X747.here hx rfl (hb hby at_173) rfl ((if0 _ _).trans (tlt (by decide : (0 : Int32) < (3 : Int32))).2.2.2) k) ?_
      show Goes _ _ _ _ _ _ _ (T747.setTop (mkF m 176 _ []))
      refine Goes.step (fun _ k => XS.lload X747.here hx rfl (hb hby at_176) rfl  k) ?_
      refine Goes.step (fun _ k => XS.lload X747.here hx rfl (hb hby at_178) rfl  k) ?_
      refine Goes.step (fun _ k => XS.lcmp X747.here hx rfl (hb hby at_180) rfl k) ?_
      show Goes _ _ _ _ _ _ _ (T747.setTop (mkF m 181 _ [(.int (lcmpW p0 p4))]))
      refine Goes.step (fun _ k => XS.ifYes X747.here hx rfl (pc0 := 181) (pc' := 187) rfl (hb hby at_181) rfl ((if0 _ _).trans (flt (fun q => u747_3_1 ((lw_lt _ _).mp q))).2.1) (by decide) (by decide) k) ?_
      show Goes _ _ _ _ _ _ _ (T747.setTop (mkF m 187 #[.val (.long p0), .second, .val (.long p1), .second, .val (.long p2), .second, .val (.long p3), .second, .val (.long p4), .second, .val (.int p5), .val (.int (3 : Int32)), .val (.long p0), .second, .val (.long r424), .second, .val (.long r425), .second, .val (.long r426), .second, .val (.ref b427), .val (.ref b446), .val (.int (0 : Int32)), .val (.int (0 : Int32))] []))
      refine Goes.step (fun _ k => XS.iload X747.here hx rfl (hb hby at_187) rfl  k) ?_
      refine Goes.step (fun _ k => XS.iconst X747.here hx rfl (hb hby at_189) k) ?_
      refine Goes.step (fun _ k => XS.icmpNo X747.here hx rfl (hb hby at_190) rfl (tlt (by decide : (1 : Int32) < (3 : Int32))).2.2.2 k) ?_
      show Goes _ _ _ _ _ _ _ (T747.setTop (mkF m 193 _ []))
      refine Goes.step (fun _ k => XS.lload X747.here hx rfl (hb hby at_193) rfl  k) ?_
      refine Goes.step (fun _ k => XS.lload X747.here hx rfl (hb hby at_195) rfl  k) ?_
      refine Goes.step (fun _ k => XS.lcmp X747.here hx rfl (hb hby at_197) rfl k) ?_
      show Goes _ _ _ _ _ _ _ (T747.setTop (mkF m 198 _ [(.int (lcmpW r424 p4))]))
      refine Goes.step (fun _ k => XS.ifYes X747.here hx rfl (pc0 := 198) (pc' := 204) rfl (hb hby at_198) rfl ((if0 _ _).trans (flt (fun q => u747_3_0 ((lw_lt _ _).mp q))).2.1) (by decide) (by decide) k) ?_
      show Goes _ _ _ _ _ _ _ (T747.setTop (mkF m 204 _ []))
      refine Goes.step (fun _ k => XS.iload X747.here hx rfl (hb hby at_204) rfl  k) ?_
      refine Goes.step (fun _ k => XS.iconst X747.here hx rfl (hb hby at_206) k) ?_
      refine Goes.step (fun _ k => XS.icmpNo X747.here hx rfl (hb hby at_207) rfl (tlt (by decide : (2 : Int32) < (3 : Int32))).2.2.2 k) ?_
      show Goes _ _ _ _ _ _ _ (T747.setTop (mkF m 210 _ []))
      refine Goes.step (fun _ k => XS.lload X747.here hx rfl (hb hby at_210) rfl  k) ?_
      refine Goes.step (fun _ k => XS.lload X747.here hx rfl (hb hby at_212) rfl  k) ?_
      refine Goes.step (fun _ k => XS.lcmp X747.here hx rfl (hb hby at_214) rfl k) ?_
      show Goes _ _ _ _ _ _ _ (T747.setTop (mkF m 215 _ [(.int (lcmpW r425 p4))]))
      refine Goes.step (fun _ k => XS.ifYes X747.here hx rfl (pc0 := 215) (pc' := 221) rfl (hb hby at_215) rfl ((if0 _ _).trans (flt (fun q => (own_ltUp (own_tr mo424 mo425) u747_3_1) ((lw_lt _ _).mp q))).2.1) (by decide) (by decide) k) ?_
      show Goes _ _ _ _ _ _ _ (T747.setTop (mkF m 221 _ []))
      refine Goes.step (fun _ k => XS.iload X747.here hx rfl (hb hby at_221) rfl  k) ?_
      refine Goes.step (fun _ k => XS.iconst X747.here hx rfl (hb hby at_223) k) ?_
      refine Goes.step (fun _ k => XS.icmpYes X747.here hx rfl (pc0 := 224) (pc' := 238) rfl (hb hby at_224) rfl (flt (by decide : ¬ ((3 : Int32) < (3 : Int32)))).2.2.2 (by decide) (by decide) k) ?_
      show Goes _ _ _ _ _ _ _ (T747.setTop (mkF m 238 #[.val (.long p0), .second, .val (.long p1), .second, .val (.long p2), .second, .val (.long p3), .second, .val (.long p4), .second, .val (.int p5), .val (.int (3 : Int32)), .val (.long p0), .second, .val (.long r424), .second, .val (.long r425), .second, .val (.long r426), .second, .val (.ref b427), .val (.ref b446), .val (.int (0 : Int32)), .val (.int (0 : Int32))] []))
      refine Goes.step (fun _ k => XS.iload X747.here hx rfl (hb hby at_238) rfl  k) ?_
      refine Goes.step (fun _ k => XS.iload X747.here hx rfl (hb hby at_240) rfl  k) ?_
      refine Goes.step (fun _ k => XS.icmpNo X747.here hx rfl (hb hby at_242) rfl (teq (by decide : (0 : Int32) = (0 : Int32))).2 k) ?_
      show Goes _ _ _ _ _ _ _ (T747.setTop (mkF m 245 _ []))
      refine Goes.step (fun _ k => XS.iconst X747.here hx rfl (hb hby at_245) k) ?_
      refine Goes.step (fun _ k => XS.goto X747.here hx rfl (pc0 := 246) (pc' := 250) rfl (hb hby at_246) (by decide) (by decide) k) ?_
      show Goes _ _ _ _ _ _ _ (T747.setTop (mkF m 250 _ [(.int (1 : Int32))]))
      exact Goes.ret X747 hx (BodyLoose.notSynchronized Bd) Bd.returns rfl (Or.inl ⟨rfl, by simp, _, rfl⟩) (hb hby at_250) (by show Q0 Z p0 p1 p2 p3 p4 p5 de kde ee mr h0 n0 (some (.int (1 : Int32))) T747.heap _; rw [KK747]; exact ⟨rfl, NA747⟩) (by decide) (by decide)
  · show Goes _ _ _ _ _ _ _ (s₁.setTop (mkF m 9 #[.val (.long p0), .second, .val (.long p1), .second, .val (.long p2), .second, .val (.long p3), .second, .val (.long p4), .second, .val (.int p5), .val (.int (4 : Int32)), .unset, .unset, .unset, .unset, .unset, .unset, .unset, .unset, .unset, .unset, .unset, .unset] []))
    refine Goes.step (fun _ k => XS.lloadN X0.here hx rfl (hb hby at_9) rfl  k) ?_
    refine Goes.step (fun _ k => XS.lstore X0.here hx rfl (hb hby at_10) rfl (l' := #[.val (.long p0), .second, .val (.long p1), .second, .val (.long p2), .second, .val (.long p3), .second, .val (.long p4), .second, .val (.int p5), .val (.int (4 : Int32)), .val (.long p0), .second, .unset, .unset, .unset, .unset, .unset, .unset, .unset, .unset, .unset, .unset]) rfl k) ?_
    show Goes _ _ _ _ _ _ _ (s₁.setTop (mkF m 12 _ []))
    refine Goes.step (fun _ k => XS.lload X0.here hx rfl (hb hby at_12) rfl  k) ?_
    refine Goes.step (fun _ k => XS.lloadN X0.here hx rfl (hb hby at_14) rfl  k) ?_
    obtain ⟨_, _, ⟨T748, L748, k748, n748⟩, -, X748, ⟨Lc748, hQ748, l748, y748, z748⟩, st748⟩ := Jvm.LawKit.callS X0 hx (y := (⟨"com/example/orbitloom/orbitloom/core/TimelineFirstStartingFromPinLaw", "step", "(JJ)J"⟩ : MethodName)) hown (mvT hZ w_1) (mvT hZ w_2) (mvT hZ w_3) (mvT hZ w_4) (by decide) (backOf (W := 0) (rm1 l Z a0 hw [] p0 p1 h0 n0 Z0) hZ w_4 w_3 (by decide) (by decide)) (g := (mkF m 15 #[.val (.long p0), .second, .val (.long p1), .second, .val (.long p2), .second, .val (.long p3), .second, .val (.long p4), .second, .val (.int p5), .val (.int (4 : Int32)), .val (.long p0), .second, .unset, .unset, .unset, .unset, .unset, .unset, .unset, .unset, .unset, .unset] [(.long p1), (.long p0)])) rfl (by rw [hml]; rfl) (argsL := [(.long p0), (.long p1)]) (rest := []) (lenOf pd_0 rfl) rfl (by show 2 * 0 + _ ≤ _; exact Nat.le_of_eq rfl) (hb hby at_15) (fun _ _ => ⟨rfl, e0, (by decide : 0 + 0 ≤ _), (by decide : 0 + 0 ≤ _)⟩)
    dsimp only [Pt.U, Pt.locs, Pt.cells, Pt.slots] at X748 l748 y748 z748 st748 hQ748
    rw [l748, y748, z748] at X748
    obtain ⟨N748, eh748, r748, rfl, mo748⟩ := hQ748
    have NA748 := Fr.app N0 N748
    refine Goes.step st748 ?_
    show Goes _ _ _ _ _ _ _ (T748.setTop (mkF m 18 _ [(.long r748)]))
    refine Goes.step (fun _ k => XS.lstore X748.here hx rfl (hb hby at_18) rfl (l' := #[.val (.long p0), .second, .val (.long p1), .second, .val (.long p2), .second, .val (.long p3), .second, .val (.long p4), .second, .val (.int p5), .val (.int (4 : Int32)), .val (.long p0), .second, .val (.long r748), .second, .unset, .unset, .unset, .unset, .unset, .unset, .unset, .unset]) rfl k) ?_
    show Goes _ _ _ _ _ _ _ (T748.setTop (mkF m 20 _ []))
    refine Goes.step (fun _ k => XS.lload X748.here hx rfl (hb hby at_20) rfl  k) ?_
    refine Goes.step (fun _ k => XS.lload X748.here hx rfl (hb hby at_22) rfl  k) ?_
    obtain ⟨_, _, ⟨T749, L749, k749, n749⟩, -, X749, ⟨Lc749, hQ749, l749, y749, z749⟩, st749⟩ := Jvm.LawKit.callS X748 hx (y := (⟨"com/example/orbitloom/orbitloom/core/TimelineFirstStartingFromPinLaw", "step", "(JJ)J"⟩ : MethodName)) hown (mvT hZ w_1) (mvT hZ w_2) (mvT hZ w_3) (mvT hZ w_4) (by decide) (backOf (W := 0) (rm1 l Z a0 hw [] r748 p2 h0 n0 Z0) hZ w_4 w_3 (by decide) (by decide)) (g := (mkF m 24 #[.val (.long p0), .second, .val (.long p1), .second, .val (.long p2), .second, .val (.long p3), .second, .val (.long p4), .second, .val (.int p5), .val (.int (4 : Int32)), .val (.long p0), .second, .val (.long r748), .second, .unset, .unset, .unset, .unset, .unset, .unset, .unset, .unset] [(.long p2), (.long r748)])) rfl (by rw [hml]; rfl) (argsL := [(.long r748), (.long p2)]) (rest := []) (lenOf pd_0 rfl) rfl (by show 2 * 0 + _ ≤ _; exact Nat.le_of_eq rfl) (hb hby at_24) (fun _ _ => ⟨rfl, eh748, (by decide : 0 + 0 ≤ _), (by decide : 0 + 0 ≤ _)⟩)
    dsimp only [Pt.U, Pt.locs, Pt.cells, Pt.slots] at X749 l749 y749 z749 st749 hQ749
    rw [l749, y749, z749] at X749
    obtain ⟨N749, eh749, r749, rfl, mo749⟩ := hQ749
    have NA749 := Fr.app NA748 N749
    refine Goes.step st749 ?_
    show Goes _ _ _ _ _ _ _ (T749.setTop (mkF m 27 _ [(.long r749)]))
    refine Goes.step (fun _ k => XS.lstore X749.here hx rfl (hb hby at_27) rfl (l' := #[.val (.long p0), .second, .val (.long p1), .second, .val (.long p2), .second, .val (.long p3), .second, .val (.long p4), .second, .val (.int p5), .val (.int (4 : Int32)), .val (.long p0), .second, .val (.long r748), .second, .val (.long r749), .second, .unset, .unset, .unset, .unset, .unset, .unset]) rfl k) ?_
    show Goes _ _ _ _ _ _ _ (T749.setTop (mkF m 29 _ []))
    refine Goes.step (fun _ k => XS.lload X749.here hx rfl (hb hby at_29) rfl  k) ?_
    refine Goes.step (fun _ k => XS.lload X749.here hx rfl (hb hby at_31) rfl  k) ?_
    obtain ⟨_, _, ⟨T750, L750, k750, n750⟩, -, X750, ⟨Lc750, hQ750, l750, y750, z750⟩, st750⟩ := Jvm.LawKit.callS X749 hx (y := (⟨"com/example/orbitloom/orbitloom/core/TimelineFirstStartingFromPinLaw", "step", "(JJ)J"⟩ : MethodName)) hown (mvT hZ w_1) (mvT hZ w_2) (mvT hZ w_3) (mvT hZ w_4) (by decide) (backOf (W := 0) (rm1 l Z a0 hw [] r749 p3 h0 n0 Z0) hZ w_4 w_3 (by decide) (by decide)) (g := (mkF m 33 #[.val (.long p0), .second, .val (.long p1), .second, .val (.long p2), .second, .val (.long p3), .second, .val (.long p4), .second, .val (.int p5), .val (.int (4 : Int32)), .val (.long p0), .second, .val (.long r748), .second, .val (.long r749), .second, .unset, .unset, .unset, .unset, .unset, .unset] [(.long p3), (.long r749)])) rfl (by rw [hml]; rfl) (argsL := [(.long r749), (.long p3)]) (rest := []) (lenOf pd_0 rfl) rfl (by show 2 * 0 + _ ≤ _; exact Nat.le_of_eq rfl) (hb hby at_33) (fun _ _ => ⟨rfl, eh749, (by decide : 0 + 0 ≤ _), (by decide : 0 + 0 ≤ _)⟩)
    dsimp only [Pt.U, Pt.locs, Pt.cells, Pt.slots] at X750 l750 y750 z750 st750 hQ750
    rw [l750, y750, z750] at X750
    obtain ⟨N750, eh750, r750, rfl, mo750⟩ := hQ750
    have NA750 := Fr.app NA749 N750
    refine Goes.step st750 ?_
    show Goes _ _ _ _ _ _ _ (T750.setTop (mkF m 36 _ [(.long r750)]))
    refine Goes.step (fun _ k => XS.lstore X750.here hx rfl (hb hby at_36) rfl (l' := #[.val (.long p0), .second, .val (.long p1), .second, .val (.long p2), .second, .val (.long p3), .second, .val (.long p4), .second, .val (.int p5), .val (.int (4 : Int32)), .val (.long p0), .second, .val (.long r748), .second, .val (.long r749), .second, .val (.long r750), .second, .unset, .unset, .unset, .unset]) rfl k) ?_
    show Goes _ _ _ _ _ _ _ (T750.setTop (mkF m 38 #[.val (.long p0), .second, .val (.long p1), .second, .val (.long p2), .second, .val (.long p3), .second, .val (.long p4), .second, .val (.int p5), .val (.int (4 : Int32)), .val (.long p0), .second, .val (.long r748), .second, .val (.long r749), .second, .val (.long r750), .second, .unset, .unset, .unset, .unset] []))
    obtain ⟨T751, h751, X751, e751, E751, A751, D751, -, st751⟩ := newO X750 hx hZ hown w_6 w_7 w_8 eh750 (g := (mkF m 38 #[.val (.long p0), .second, .val (.long p1), .second, .val (.long p2), .second, .val (.long p3), .second, .val (.long p4), .second, .val (.int p5), .val (.int (4 : Int32)), .val (.long p0), .second, .val (.long r748), .second, .val (.long r749), .second, .val (.long r750), .second, .unset, .unset, .unset, .unset] [])) rfl (hb hby at_38) (by decide) (by decide)
    obtain ⟨b751, g751⟩ : ∃ z, z = h0.size := ⟨_, rfl⟩
    rw [← g751] at A751 D751 st751
    refine Goes.step st751 ?_
    have g_b751 : n0 ≤ b751 := Nat.le_trans Z0 (Nat.le_of_eq g751.symm)
    have sz_b751 : h0.size ≤ b751 := Nat.le_trans K0.1 (Nat.le_of_eq g751.symm)
    have ne752 : de ≠ b751 := Nat.ne_of_lt (Nat.lt_of_lt_of_le V_de.lt (Nat.le_of_eq g751.symm))
    have XO753 : Old Z n0 h751 := X00.ext E751
    have f754 := V_de.ext E751
    have f755 := E_de.ext E751
    have K756 : Keep h0 h751 [] := K0.ext E751
    have Z756 : n0 ≤ h751.size := Nat.le_trans Z0 E751.1
    have E_b751 := A751
    have F_entries_b751 : Fld Z h751 b751 "com/example/orbitloom/orbitloom/core/Timeline" "entries" "[Lcom/example/orbitloom/orbitloom/core/Timeline$Entry;" .null := D751 (Or.inl w_18) (ty := (.array (.object "com/example/orbitloom/orbitloom/core/Timeline$Entry"))) (by decide)
    have F_members_b751 : Fld Z h751 b751 "com/example/orbitloom/orbitloom/core/Timeline" "members" "Ljava/util/List;" .null := D751 (Or.inr w_44) (ty := (.object "java/util/List")) (by decide)
    have F_size_b751 : Fld Z h751 b751 "com/example/orbitloom/orbitloom/core/Timeline" "size" "I" (.int (0 : Int32)) := D751 (Or.inl w_73) (ty := .int) (by decide)
    show Goes _ _ _ _ _ _ _ (T751.setTop (mkF m 41 _ [(.ref b751)]))
    refine Goes.step (fun _ k => XS.dup X751.here hx rfl (hb hby at_41) rfl rfl k) ?_
    obtain ⟨_, _, ⟨T757, L757, k757, n757⟩, -, X757, ⟨Lc757, hQ757, l757, y757, z757⟩, st757⟩ := X751.specialBack hx (y := (⟨"com/example/orbitloom/orbitloom/core/Timeline", "<init>", "()V"⟩ : MethodName)) rfl hown (mvT hZ w_9) (mvT hZ w_10) (mvT hZ w_11) (by decide) (backOf (W := 1) (rm2 l Z a0 hw [] b751 de h751 n0 Z756 S_DE XO753 F_entries_b751 F_size_b751 F_members_b751 E_b751 g_b751) hZ w_11 w_8 (by decide) (by decide)) (g := (mkF m 42 #[.val (.long p0), .second, .val (.long p1), .second, .val (.long p2), .second, .val (.long p3), .second, .val (.long p4), .second, .val (.int p5), .val (.int (4 : Int32)), .val (.long p0), .second, .val (.long r748), .second, .val (.long r749), .second, .val (.long r750), .second, .unset, .unset, .unset, .unset] [(.ref b751), (.ref b751)])) rfl (by rw [hml]; rfl) (Steps.refl _) (a := b751) (argsL := []) (rest := [(.ref b751)]) (lenOf pd_1 rfl) rfl (by show 2 * 0 + _ ≤ _; exact Nat.le_of_eq rfl) (hb hby at_42) (fun _ _ => ⟨rfl, e751, (by decide : 1 + 2 ≤ _), (by decide : 3 + 11 ≤ _)⟩)
    dsimp only [Pt.U, Pt.locs, Pt.cells, Pt.slots] at X757 l757 y757 z757 st757 hQ757
    rw [l757, y757, z757] at X757
    obtain ⟨N757, KK757, hR757⟩ := hQ757
    have NA757 := Fr.app NA750 N757
    have XO758 : Old Z n0 T757.heap := XO753.keep KK757 (allS g_b751 all0)
    have f759 := f754.keep KK757 (ninS ne752 nin0)
    have f760 := f755.keep KK757
    have f761 := E_b751.keep KK757
    have K765 : Keep h0 T757.heap [] := K756.trans KK757 (allS (Or.inr sz_b751) all0)
    have Z765 : n0 ≤ T757.heap.size := Nat.le_trans Z756 KK757.1
    obtain ⟨r757_0_0, r757_0_1, kk757_0_0, rfl, g_r757_0_0, le_r757_0_0, g_r757_0_1, le_r757_0_1, nn757_0_0, v757_0_0, v757_0_1, v757_0_2, v757_0_3, v757_0_4, v757_0_5, v757_0_6, v757_0_7, v757_0_8, oo757_0_0⟩ := hR757
    have ne766 : de ≠ r757_0_0 := Nat.ne_of_lt (Nat.lt_of_lt_of_le f754.lt le_r757_0_0)
    have ne767 : b751 ≠ r757_0_0 := Nat.ne_of_lt (Nat.lt_of_lt_of_le E_b751.lt le_r757_0_0)
    have sz_r757_0_0 : h0.size ≤ r757_0_0 := Nat.le_trans K756.1 le_r757_0_0
    have ne768 : de ≠ r757_0_1 := Nat.ne_of_lt (Nat.lt_of_lt_of_le f754.lt le_r757_0_1)
    have ne769 : b751 ≠ r757_0_1 := Nat.ne_of_lt (Nat.lt_of_lt_of_le E_b751.lt le_r757_0_1)
    have sz_r757_0_1 : h0.size ≤ r757_0_1 := Nat.le_trans K756.1 le_r757_0_1
    refine Goes.back st757 ?_
    show Goes _ _ _ _ _ _ _ (T757.setTop (mkF m 45 _ [(.ref b751)]))
    refine Goes.step (fun _ k => XS.astore X757.here hx rfl (hb hby at_45) rfl rfl (l' := #[.val (.long p0), .second, .val (.long p1), .second, .val (.long p2), .second, .val (.long p3), .second, .val (.long p4), .second, .val (.int p5), .val (.int (4 : Int32)), .val (.long p0), .second, .val (.long r748), .second, .val (.long r749), .second, .val (.long r750), .second, .val (.ref b751), .unset, .unset, .unset]) rfl k) ?_
    show Goes _ _ _ _ _ _ _ (T757.setTop (mkF m 47 _ []))
    obtain ⟨T770, h770, X770, e770, E770, A770, D770, -, st770⟩ := newO X757 hx hZ hown w_45 w_20 w_21 rfl (g := (mkF m 47 #[.val (.long p0), .second, .val (.long p1), .second, .val (.long p2), .second, .val (.long p3), .second, .val (.long p4), .second, .val (.int p5), .val (.int (4 : Int32)), .val (.long p0), .second, .val (.long r748), .second, .val (.long r749), .second, .val (.long r750), .second, .val (.ref b751), .unset, .unset, .unset] [])) rfl (hb hby at_47) (by decide) (by decide)
    obtain ⟨b770, g770⟩ : ∃ z, z = T757.heap.size := ⟨_, rfl⟩
    rw [← g770] at A770 D770 st770
    refine Goes.step st770 ?_
    have g_b770 : n0 ≤ b770 := Nat.le_trans Z765 (Nat.le_of_eq g770.symm)
    have sz_b770 : h0.size ≤ b770 := Nat.le_trans K765.1 (Nat.le_of_eq g770.symm)
    have ne771 : de ≠ b770 := Nat.ne_of_lt (Nat.lt_of_lt_of_le f759.lt (Nat.le_of_eq g770.symm))
    have ne772 : b751 ≠ b770 := Nat.ne_of_lt (Nat.lt_of_lt_of_le v757_0_3.lt (Nat.le_of_eq g770.symm))
    have ne773 : r757_0_0 ≠ b770 := Nat.ne_of_lt (Nat.lt_of_lt_of_le v757_0_4.lt (Nat.le_of_eq g770.symm))
    have ne774 : r757_0_1 ≠ b770 := Nat.ne_of_lt (Nat.lt_of_lt_of_le v757_0_5.lt (Nat.le_of_eq g770.symm))
    have XO775 : Old Z n0 h770 := XO758.ext E770
    have f776 := f759.ext E770
    have f777 := f760.ext E770
    have f778 := v757_0_3.ext E770
    have f779 := v757_0_0.ext E770
    have f780 := v757_0_1.ext E770
    have f781 := v757_0_2.ext E770
    have f782 := v757_0_4.ext E770
    have f783 := v757_0_5.ext E770
    have f784 := v757_0_6.ext E770
    have f785 := v757_0_7.ext E770
    have f786 := v757_0_8.ext E770
    have K787 : Keep h0 h770 [] := K765.ext E770
    have Z787 : n0 ≤ h770.size := Nat.le_trans Z765 E770.1
    have E_b770 := A770
    have F_modCount_b770 : Fld Z h770 b770 "java/util/AbstractList" "modCount" "I" (.int (0 : Int32)) := D770 (Or.inl w_39) (ty := .int) (by decide)
    have F_elementData_b770 : Fld Z h770 b770 "java/util/ArrayList" "elementData" "[Ljava/lang/Object;" .null := D770 (Or.inl w_42) (ty := (.array (.object "java/lang/Object"))) (by decide)
    have F_size_b770 : Fld Z h770 b770 "java/util/ArrayList" "size" "I" (.int (0 : Int32)) := D770 (Or.inl w_88) (ty := .int) (by decide)
    show Goes _ _ _ _ _ _ _ (T770.setTop (mkF m 50 _ [(.ref b770)]))
    refine Goes.step (fun _ k => XS.dup X770.here hx rfl (hb hby at_50) rfl rfl k) ?_
    obtain ⟨_, _, ⟨T788, L788, k788, n788⟩, -, X788, ⟨Lc788, hQ788, l788, y788, z788⟩, st788⟩ := X770.specialBack hx (y := (⟨"java/util/ArrayList", "<init>", "()V"⟩ : MethodName)) rfl hown (mvT hZ w_46) (mvT hZ w_23) (mvT hZ w_24) (by decide) (backOf (W := 1) (rm4 l Z a0 hw [] b770 de (0 : Int32) h770 n0 Z787 S_DE XO775 F_modCount_b770 F_elementData_b770 F_size_b770 E_b770 g_b770) hZ w_24 w_21 (by decide) (by decide)) (g := (mkF m 51 #[.val (.long p0), .second, .val (.long p1), .second, .val (.long p2), .second, .val (.long p3), .second, .val (.long p4), .second, .val (.int p5), .val (.int (4 : Int32)), .val (.long p0), .second, .val (.long r748), .second, .val (.long r749), .second, .val (.long r750), .second, .val (.ref b751), .unset, .unset, .unset] [(.ref b770), (.ref b770)])) rfl (by rw [hml]; rfl) (Steps.refl _) (a := b770) (argsL := []) (rest := [(.ref b770)]) (lenOf pd_1 rfl) rfl (by show 2 * 0 + _ ≤ _; exact Nat.le_of_eq rfl) (hb hby at_51) (fun _ _ => ⟨rfl, e770, (by decide : 4 + 0 ≤ _), (by decide : 17 + 0 ≤ _)⟩)
    dsimp only [Pt.U, Pt.locs, Pt.cells, Pt.slots] at X788 l788 y788 z788 st788 hQ788
    rw [l788, y788, z788] at X788
    obtain ⟨N788, KK788, hR788⟩ := hQ788
    have NA788 := Fr.app NA757 N788
    have XO789 : Old Z n0 T788.heap := XO775.keep KK788 (allS g_b770 all0)
    have f790 := f776.keep KK788 (ninS ne771 nin0)
    have f791 := f777.keep KK788
    have f792 := f778.keep KK788
    have f793 := f779.keep KK788 (ninS ne772 nin0)
    have f794 := f780.keep KK788 (ninS ne772 nin0)
    have f795 := f781.keep KK788 (ninS ne772 nin0)
    have f796 := f782.keep KK788 (ninS ne773 nin0)
    have f797 := f783.keep KK788
    have f798 := f784.keep KK788 (ninS ne774 nin0)
    have f799 := f785.keep KK788 (ninS ne774 nin0)
    have f800 := f786.keep KK788 (ninS ne774 nin0)
    have f801 := E_b770.keep KK788
    have K805 : Keep h0 T788.heap [] := K787.trans KK788 (allS (Or.inr sz_b770) all0)
    have Z805 : n0 ≤ T788.heap.size := Nat.le_trans Z787 KK788.1
    obtain ⟨rfl, v788_0_0, v788_0_1, v788_0_2, v788_0_3⟩ := hR788
    refine Goes.back st788 ?_
    show Goes _ _ _ _ _ _ _ (T788.setTop (mkF m 54 _ [(.ref b770)]))
    refine Goes.step (fun _ k => XS.astore X788.here hx rfl (hb hby at_54) rfl rfl (l' := #[.val (.long p0), .second, .val (.long p1), .second, .val (.long p2), .second, .val (.long p3), .second, .val (.long p4), .second, .val (.int p5), .val (.int (4 : Int32)), .val (.long p0), .second, .val (.long r748), .second, .val (.long r749), .second, .val (.long r750), .second, .val (.ref b751), .val (.ref b770), .unset, .unset]) rfl k) ?_
    show Goes _ _ _ _ _ _ _ (T788.setTop (mkF m 56 _ []))
    refine Goes.step (fun _ k => XS.iload X788.here hx rfl (hb hby at_56) rfl  k) ?_
    refine Goes.step (fun _ k => XS.ifNo X788.here hx rfl (hb hby at_58) rfl ((if0 _ _).trans (tlt (by decide : (0 : Int32) < (4 : Int32))).2.2.2) k) ?_
    show Goes _ _ _ _ _ _ _ (T788.setTop (mkF m 61 #[.val (.long p0), .second, .val (.long p1), .second, .val (.long p2), .second, .val (.long p3), .second, .val (.long p4), .second, .val (.int p5), .val (.int (4 : Int32)), .val (.long p0), .second, .val (.long r748), .second, .val (.long r749), .second, .val (.long r750), .second, .val (.ref b751), .val (.ref b770), .unset, .unset] []))
    refine Goes.step (fun _ k => XS.aload X788.here hx rfl (hb hby at_61) rfl rfl k) ?_
    obtain ⟨T806, h806, X806, e806, E806, A806, D806, -, st806⟩ := newO X788 hx hZ hown w_47 w_48 w_49 rfl (g := (mkF m 63 #[.val (.long p0), .second, .val (.long p1), .second, .val (.long p2), .second, .val (.long p3), .second, .val (.long p4), .second, .val (.int p5), .val (.int (4 : Int32)), .val (.long p0), .second, .val (.long r748), .second, .val (.long r749), .second, .val (.long r750), .second, .val (.ref b751), .val (.ref b770), .unset, .unset] [(.ref b751)])) rfl (hb hby at_63) (by decide) (by decide)
    obtain ⟨b806, g806⟩ : ∃ z, z = T788.heap.size := ⟨_, rfl⟩
    rw [← g806] at A806 D806 st806
    refine Goes.step st806 ?_
    have g_b806 : n0 ≤ b806 := Nat.le_trans Z805 (Nat.le_of_eq g806.symm)
    have sz_b806 : h0.size ≤ b806 := Nat.le_trans K805.1 (Nat.le_of_eq g806.symm)
    have ne807 : de ≠ b806 := Nat.ne_of_lt (Nat.lt_of_lt_of_le f790.lt (Nat.le_of_eq g806.symm))
    have ne808 : b751 ≠ b806 := Nat.ne_of_lt (Nat.lt_of_lt_of_le f792.lt (Nat.le_of_eq g806.symm))
    have ne809 : r757_0_0 ≠ b806 := Nat.ne_of_lt (Nat.lt_of_lt_of_le f796.lt (Nat.le_of_eq g806.symm))
    have ne810 : r757_0_1 ≠ b806 := Nat.ne_of_lt (Nat.lt_of_lt_of_le f797.lt (Nat.le_of_eq g806.symm))
    have ne811 : b770 ≠ b806 := Nat.ne_of_lt (Nat.lt_of_lt_of_le v788_0_0.lt (Nat.le_of_eq g806.symm))
    have XO812 : Old Z n0 h806 := XO789.ext E806
    have f813 := f790.ext E806
    have f814 := f791.ext E806
    have f815 := f792.ext E806
    have f816 := f793.ext E806
    have f817 := f794.ext E806
    have f818 := f795.ext E806
    have f819 := f796.ext E806
    have f820 := f797.ext E806
    have f821 := f798.ext E806
    have f822 := f799.ext E806
    have f823 := f800.ext E806
    have f824 := v788_0_0.ext E806
    have f825 := v788_0_1.ext E806
    have f826 := v788_0_2.ext E806
    have f827 := v788_0_3.ext E806
    have K828 : Keep h0 h806 [] := K805.ext E806
    have Z828 : n0 ≤ h806.size := Nat.le_trans Z805 E806.1
    have E_b806 := A806
    have F_start_b806 : Fld Z h806 b806 "com/example/orbitloom/orbitloom/core/Timeline$Entry" "start" "J" (.long (0 : Int64)) := D806 (Or.inr w_60) (ty := .long) (by decide)
    have F_end_b806 : Fld Z h806 b806 "com/example/orbitloom/orbitloom/core/Timeline$Entry" "end" "J" (.long (0 : Int64)) := D806 (Or.inr w_62) (ty := .long) (by decide)
    have F_attitude_b806 : Fld Z h806 b806 "com/example/orbitloom/orbitloom/core/Timeline$Entry" "attitude" "Lcom/example/orbitloom/orbitloom/core/Attitude;" .null := D806 (Or.inr w_64) (ty := (.object "com/example/orbitloom/orbitloom/core/Attitude")) (by decide)
    have F_rev_b806 : Fld Z h806 b806 "com/example/orbitloom/orbitloom/core/Timeline$Entry" "rev" "I" (.int (0 : Int32)) := D806 (Or.inr w_66) (ty := .int) (by decide)
    show Goes _ _ _ _ _ _ _ (T806.setTop (mkF m 66 _ [(.ref b806), (.ref b751)]))
    refine Goes.step (fun _ k => XS.dup X806.here hx rfl (hb hby at_66) rfl rfl k) ?_
    refine Goes.step (fun _ k => XS.lload X806.here hx rfl (hb hby at_67) rfl  k) ?_
    refine Goes.step (fun _ k => XS.lload X806.here hx rfl (hb hby at_69) rfl  k) ?_
    refine Goes.step (fun _ k => XS.aconstNull X806.here hx rfl (hb hby at_71) k) ?_
    show Goes _ _ _ _ _ _ _ (T806.setTop (mkF m 72 _ [.null, (.long p0), (.long p0), (.ref b806), (.ref b806), (.ref b751)]))
    refine Goes.step (fun _ k => XS.iconst X806.here hx rfl (hb hby at_72) k) ?_
    obtain ⟨_, _, ⟨T829, L829, k829, n829⟩, -, X829, ⟨Lc829, hQ829, l829, y829, z829⟩, st829⟩ := X806.specialBack hx (y := (⟨"com/example/orbitloom/orbitloom/core/Timeline$Entry", "<init>", "(JJLcom/example/orbitloom/orbitloom/core/Attitude;I)V"⟩ : MethodName)) rfl hown (mvT hZ w_50) (mvT hZ w_51) (mvT hZ w_52) (by decide) (backOf (W := 2) (rm7 l Z a0 hw [] b806 p0 p0 (0 : Int32) h806 n0 Z828 F_start_b806 F_end_b806 F_attitude_b806 F_rev_b806 E_b806 g_b806) hZ w_52 w_49 (by decide) (by decide)) (g := (mkF m 73 #[.val (.long p0), .second, .val (.long p1), .second, .val (.long p2), .second, .val (.long p3), .second, .val (.long p4), .second, .val (.int p5), .val (.int (4 : Int32)), .val (.long p0), .second, .val (.long r748), .second, .val (.long r749), .second, .val (.long r750), .second, .val (.ref b751), .val (.ref b770), .unset, .unset] [(.int (0 : Int32)), .null, (.long p0), (.long p0), (.ref b806), (.ref b806), (.ref b751)])) rfl (by rw [hml]; rfl) (Steps.refl _) (a := b806) (argsL := [(.long p0), (.long p0), .null, (.int (0 : Int32))]) (rest := [(.ref b806), (.ref b751)]) (lenOf pd_2 rfl) rfl (by show 2 * 0 + _ ≤ _; exact Nat.le_of_eq rfl) (hb hby at_73) (fun _ _ => ⟨rfl, e806, (by decide : 5 + 0 ≤ _), (by decide : 21 + 0 ≤ _)⟩)
    dsimp only [Pt.U, Pt.locs, Pt.cells, Pt.slots] at X829 l829 y829 z829 st829 hQ829
    rw [l829, y829, z829] at X829
    obtain ⟨N829, KK829, hR829⟩ := hQ829
    have NA829 := Fr.app NA788 N829
    have XO830 : Old Z n0 T829.heap := XO812.keep KK829 (allS g_b806 all0)
    have f831 := f813.keep KK829 (ninS ne807 nin0)
    have f832 := f814.keep KK829
    have f833 := f815.keep KK829
    have f834 := f816.keep KK829 (ninS ne808 nin0)
    have f835 := f817.keep KK829 (ninS ne808 nin0)
    have f836 := f818.keep KK829 (ninS ne808 nin0)
    have f837 := f819.keep KK829 (ninS ne809 nin0)
    have f838 := f820.keep KK829
    have f839 := f821.keep KK829 (ninS ne810 nin0)
    have f840 := f822.keep KK829 (ninS ne810 nin0)
    have f841 := f823.keep KK829 (ninS ne810 nin0)
    have f842 := f824.keep KK829
    have f843 := f825.keep KK829 (ninS ne811 nin0)
    have f844 := f826.keep KK829 (ninS ne811 nin0)
    have f845 := f827.keep KK829 (ninS ne811 nin0)
    have f846 := E_b806.keep KK829
    have K851 : Keep h0 T829.heap [] := K828.trans KK829 (allS (Or.inr sz_b806) all0)
    have Z851 : n0 ≤ T829.heap.size := Nat.le_trans Z828 KK829.1
    obtain ⟨rfl, v829_0_0, v829_0_1⟩ := hR829
    refine Goes.back st829 ?_
    show Goes _ _ _ _ _ _ _ (T829.setTop (mkF m 76 _ [(.ref b806), (.ref b751)]))
    refine Goes.step (fun _ k => XS.aload X829.here hx rfl (hb hby at_76) rfl rfl k) ?_
    obtain ⟨cq852, kq852, q852a, q852b, q852c⟩ := isOf hZ rfl f833
    obtain ⟨_, _, ⟨T852, L852, k852, n852⟩, -, X852, ⟨Lc852, hQ852, l852, y852, z852⟩, st852⟩ := X829.virtualBack hx (y := (⟨"com/example/orbitloom/orbitloom/core/Timeline", "append", "(Lcom/example/orbitloom/orbitloom/core/Timeline$Entry;Ljava/util/List;)V"⟩ : MethodName)) (z := (⟨"com/example/orbitloom/orbitloom/core/Timeline", "append", "(Lcom/example/orbitloom/orbitloom/core/Timeline$Entry;Ljava/util/List;)V"⟩ : MethodName)) hown (mvT hZ w_67) (mvT hZ w_68) (notFace_of_selects (args := #[]) (mvT hZ w_70)) (mvT hZ w_70) (mvT hZ w_69) (by decide) (backOf (W := 0) (rm9_0 l Z a0 hw [] b751 b806 b770 de ee r757_0_0 r757_0_1 (0 : Int32) kde kk757_0_0 mr T829.heap n0 Z851 S_DE S_EE XO830 f834 f835 f836 f839 f840 f841 f844 f845 f833 f838 v829_0_1 f842 f832 f831 f837 oo757_0_0 MR g_b751 g_r757_0_0 g_r757_0_1 ne767 ne769 nn757_0_0 (Ne.symm ne772) (Ne.symm ne774) (Ne.symm ne773) ne752 ne768 ne766 (Ne.symm ne808) (Ne.symm ne810) (Ne.symm ne809)) hZ w_71 w_8 (by decide) (by decide)) q852a q852c (g := (mkF m 78 #[.val (.long p0), .second, .val (.long p1), .second, .val (.long p2), .second, .val (.long p3), .second, .val (.long p4), .second, .val (.int p5), .val (.int (4 : Int32)), .val (.long p0), .second, .val (.long r748), .second, .val (.long r749), .second, .val (.long r750), .second, .val (.ref b751), .val (.ref b770), .unset, .unset] [(.ref b770), (.ref b806), (.ref b751)])) rfl (by rw [hml]; rfl) (Steps.refl _) (argsL := [(.ref b806), (.ref b770)]) (rest := []) (lenOf pd_3 rfl) rfl (by show 2 * 0 + _ ≤ _; exact Nat.le_of_eq rfl) (hb hby at_78) (fun _ _ => ⟨rfl, rfl, (by decide : 5 + 3 ≤ _), (by decide : 21 + 13 ≤ _)⟩)
    dsimp only [Pt.U, Pt.locs, Pt.cells, Pt.slots] at X852 l852 y852 z852 st852 hQ852
    rw [l852, y852, z852] at X852
    obtain ⟨N852, KK852, hR852⟩ := hQ852
    have NA852 := Fr.app NA829 N852
    have XO853 : Old Z n0 T852.heap := XO830.keep KK852 (allS g_b751 (allS g_r757_0_0 (allS g_r757_0_1 all0)))
    have f854 := f831.keep KK852 (ninS ne752 (ninS ne766 (ninS ne768 nin0)))
    have f855 := f832.keep KK852
    have f856 := f833.keep KK852
    have f861 := f838.keep KK852
    have f865 := f842.keep KK852
    have f866 := f843.keep KK852 (ninS (Ne.symm ne772) (ninS (Ne.symm ne773) (ninS (Ne.symm ne774) nin0)))
    have f867 := f844.keep KK852 (ninS (Ne.symm ne772) (ninS (Ne.symm ne773) (ninS (Ne.symm ne774) nin0)))
    have f868 := f845.keep KK852 (ninS (Ne.symm ne772) (ninS (Ne.symm ne773) (ninS (Ne.symm ne774) nin0)))
    have f869 := v829_0_1.keep KK852
    have f870 := v829_0_0.keep KK852 (ninS (Ne.symm ne808) (ninS (Ne.symm ne809) (ninS (Ne.symm ne810) nin0)))
    have K871 : Keep h0 T852.heap [] := K851.trans KK852 (allS (Or.inr sz_b751) (allS (Or.inr sz_r757_0_0) (allS (Or.inr sz_r757_0_1) all0)))
    have Z871 : n0 ≤ T852.heap.size := Nat.le_trans Z851 KK852.1
    obtain ⟨r852_0_0, r852_0_1, kk852_0_0, rfl, g_r852_0_0, le_r852_0_0, g_r852_0_1, le_r852_0_1, nn852_0_0, v852_0_0, v852_0_1, v852_0_2, v852_0_3, v852_0_4, v852_0_5, v852_0_6, v852_0_7, v852_0_8, v852_0_9, v852_0_10, v852_0_11, v852_0_12, v852_0_13, oo852_0_0⟩ := hR852
    have ne872 : de ≠ r852_0_0 := Nat.ne_of_lt (Nat.lt_of_lt_of_le f831.lt le_r852_0_0)
    have ne873 : b751 ≠ r852_0_0 := Nat.ne_of_lt (Nat.lt_of_lt_of_le f833.lt le_r852_0_0)
    have ne874 : r757_0_0 ≠ r852_0_0 := Nat.ne_of_lt (Nat.lt_of_lt_of_le f837.lt le_r852_0_0)
    have ne875 : r757_0_1 ≠ r852_0_0 := Nat.ne_of_lt (Nat.lt_of_lt_of_le f838.lt le_r852_0_0)
    have ne876 : b770 ≠ r852_0_0 := Nat.ne_of_lt (Nat.lt_of_lt_of_le f842.lt le_r852_0_0)
    have ne877 : b806 ≠ r852_0_0 := Nat.ne_of_lt (Nat.lt_of_lt_of_le v829_0_1.lt le_r852_0_0)
    have sz_r852_0_0 : h0.size ≤ r852_0_0 := Nat.le_trans K851.1 le_r852_0_0
    have ne878 : de ≠ r852_0_1 := Nat.ne_of_lt (Nat.lt_of_lt_of_le f831.lt le_r852_0_1)
    have ne879 : b751 ≠ r852_0_1 := Nat.ne_of_lt (Nat.lt_of_lt_of_le f833.lt le_r852_0_1)
    have ne880 : r757_0_0 ≠ r852_0_1 := Nat.ne_of_lt (Nat.lt_of_lt_of_le f837.lt le_r852_0_1)
    have ne881 : r757_0_1 ≠ r852_0_1 := Nat.ne_of_lt (Nat.lt_of_lt_of_le f838.lt le_r852_0_1)
    have ne882 : b770 ≠ r852_0_1 := Nat.ne_of_lt (Nat.lt_of_lt_of_le f842.lt le_r852_0_1)
    have ne883 : b806 ≠ r852_0_1 := Nat.ne_of_lt (Nat.lt_of_lt_of_le v829_0_1.lt le_r852_0_1)
    have sz_r852_0_1 : h0.size ≤ r852_0_1 := Nat.le_trans K851.1 le_r852_0_1
    refine Goes.back st852 ?_
    show Goes _ _ _ _ _ _ _ (T852.setTop (mkF m 81 _ []))
    refine Goes.step (fun _ k => XS.iload X852.here hx rfl (hb hby at_81) rfl  k) ?_
    refine Goes.step (fun _ k => XS.iconst X852.here hx rfl (hb hby at_83) k) ?_
    refine Goes.step (fun _ k => XS.icmpNo X852.here hx rfl (hb hby at_84) rfl (tlt (by decide : (1 : Int32) < (4 : Int32))).2.2.2 k) ?_
    show Goes _ _ _ _ _ _ _ (T852.setTop (mkF m 87 _ []))
    refine Goes.step (fun _ k => XS.aload X852.here hx rfl (hb hby at_87) rfl rfl k) ?_
    obtain ⟨T884, h884, X884, e884, E884, A884, D884, -, st884⟩ := newO X852 hx hZ hown w_47 w_48 w_49 rfl (g := (mkF m 89 #[.val (.long p0), .second, .val (.long p1), .second, .val (.long p2), .second, .val (.long p3), .second, .val (.long p4), .second, .val (.int p5), .val (.int (4 : Int32)), .val (.long p0), .second, .val (.long r748), .second, .val (.long r749), .second, .val (.long r750), .second, .val (.ref b751), .val (.ref b770), .unset, .unset] [(.ref b751)])) rfl (hb hby at_89) (by decide) (by decide)
    obtain ⟨b884, g884⟩ : ∃ z, z = T852.heap.size := ⟨_, rfl⟩
    rw [← g884] at A884 D884 st884
    refine Goes.step st884 ?_
    have g_b884 : n0 ≤ b884 := Nat.le_trans Z871 (Nat.le_of_eq g884.symm)
    have sz_b884 : h0.size ≤ b884 := Nat.le_trans K871.1 (Nat.le_of_eq g884.symm)
    have ne885 : de ≠ b884 := Nat.ne_of_lt (Nat.lt_of_lt_of_le f854.lt (Nat.le_of_eq g884.symm))
    have ne886 : b751 ≠ b884 := Nat.ne_of_lt (Nat.lt_of_lt_of_le v852_0_3.lt (Nat.le_of_eq g884.symm))
    have ne887 : r757_0_1 ≠ b884 := Nat.ne_of_lt (Nat.lt_of_lt_of_le v852_0_4.lt (Nat.le_of_eq g884.symm))
    have ne888 : b770 ≠ b884 := Nat.ne_of_lt (Nat.lt_of_lt_of_le f865.lt (Nat.le_of_eq g884.symm))
    have ne889 : b806 ≠ b884 := Nat.ne_of_lt (Nat.lt_of_lt_of_le f869.lt (Nat.le_of_eq g884.symm))
    have ne890 : r757_0_0 ≠ b884 := Nat.ne_of_lt (Nat.lt_of_lt_of_le v852_0_5.lt (Nat.le_of_eq g884.symm))
    have ne891 : r852_0_1 ≠ b884 := Nat.ne_of_lt (Nat.lt_of_lt_of_le v852_0_6.lt (Nat.le_of_eq g884.symm))
    have ne892 : r852_0_0 ≠ b884 := Nat.ne_of_lt (Nat.lt_of_lt_of_le v852_0_13.lt (Nat.le_of_eq g884.symm))
    have XO893 : Old Z n0 h884 := XO853.ext E884
    have f894 := f854.ext E884
    have f895 := f855.ext E884
    have f896 := v852_0_3.ext E884
    have f897 := v852_0_4.ext E884
    have f898 := f865.ext E884
    have f899 := f866.ext E884
    have f900 := f867.ext E884
    have f901 := f868.ext E884
    have f902 := f869.ext E884
    have f903 := f870.ext E884
    have f904 := v852_0_0.ext E884
    have f905 := v852_0_1.ext E884
    have f906 := v852_0_2.ext E884
    have f907 := v852_0_5.ext E884
    have f908 := v852_0_6.ext E884
    have f909 := v852_0_7.ext E884
    have f910 := v852_0_8.ext E884
    have f911 := v852_0_9.ext E884
    have f912 := v852_0_10.ext E884
    have f913 := v852_0_11.ext E884
    have f914 := v852_0_12.ext E884
    have f915 := v852_0_13.ext E884
    have K916 : Keep h0 h884 [] := K871.ext E884
    have Z916 : n0 ≤ h884.size := Nat.le_trans Z871 E884.1
    have E_b884 := A884
    have F_start_b884 : Fld Z h884 b884 "com/example/orbitloom/orbitloom/core/Timeline$Entry" "start" "J" (.long (0 : Int64)) := D884 (Or.inr w_60) (ty := .long) (by decide)
    have F_end_b884 : Fld Z h884 b884 "com/example/orbitloom/orbitloom/core/Timeline$Entry" "end" "J" (.long (0 : Int64)) := D884 (Or.inr w_62) (ty := .long) (by decide)
    have F_attitude_b884 : Fld Z h884 b884 "com/example/orbitloom/orbitloom/core/Timeline$Entry" "attitude" "Lcom/example/orbitloom/orbitloom/core/Attitude;" .null := D884 (Or.inr w_64) (ty := (.object "com/example/orbitloom/orbitloom/core/Attitude")) (by decide)
    have F_rev_b884 : Fld Z h884 b884 "com/example/orbitloom/orbitloom/core/Timeline$Entry" "rev" "I" (.int (0 : Int32)) := D884 (Or.inr w_66) (ty := .int) (by decide)
    show Goes _ _ _ _ _ _ _ (T884.setTop (mkF m 92 _ [(.ref b884), (.ref b751)]))
    refine Goes.step (fun _ k => XS.dup X884.here hx rfl (hb hby at_92) rfl rfl k) ?_
    refine Goes.step (fun _ k => XS.lload X884.here hx rfl (hb hby at_93) rfl  k) ?_
    refine Goes.step (fun _ k => XS.lload X884.here hx rfl (hb hby at_95) rfl  k) ?_
    refine Goes.step (fun _ k => XS.aconstNull X884.here hx rfl (hb hby at_97) k) ?_
    show Goes _ _ _ _ _ _ _ (T884.setTop (mkF m 98 #[.val (.long p0), .second, .val (.long p1), .second, .val (.long p2), .second, .val (.long p3), .second, .val (.long p4), .second, .val (.int p5), .val (.int (4 : Int32)), .val (.long p0), .second, .val (.long r748), .second, .val (.long r749), .second, .val (.long r750), .second, .val (.ref b751), .val (.ref b770), .unset, .unset] [.null, (.long r748), (.long r748), (.ref b884), (.ref b884), (.ref b751)]))
    refine Goes.step (fun _ k => XS.iconst X884.here hx rfl (hb hby at_98) k) ?_
    obtain ⟨_, _, ⟨T917, L917, k917, n917⟩, -, X917, ⟨Lc917, hQ917, l917, y917, z917⟩, st917⟩ := X884.specialBack hx (y := (⟨"com/example/orbitloom/orbitloom/core/Timeline$Entry", "<init>", "(JJLcom/example/orbitloom/orbitloom/core/Attitude;I)V"⟩ : MethodName)) rfl hown (mvT hZ w_50) (mvT hZ w_51) (mvT hZ w_52) (by decide) (backOf (W := 2) (rm7 l Z a0 hw [] b884 r748 r748 (0 : Int32) h884 n0 Z916 F_start_b884 F_end_b884 F_attitude_b884 F_rev_b884 E_b884 g_b884) hZ w_52 w_49 (by decide) (by decide)) (g := (mkF m 99 #[.val (.long p0), .second, .val (.long p1), .second, .val (.long p2), .second, .val (.long p3), .second, .val (.long p4), .second, .val (.int p5), .val (.int (4 : Int32)), .val (.long p0), .second, .val (.long r748), .second, .val (.long r749), .second, .val (.long r750), .second, .val (.ref b751), .val (.ref b770), .unset, .unset] [(.int (0 : Int32)), .null, (.long r748), (.long r748), (.ref b884), (.ref b884), (.ref b751)])) rfl (by rw [hml]; rfl) (Steps.refl _) (a := b884) (argsL := [(.long r748), (.long r748), .null, (.int (0 : Int32))]) (rest := [(.ref b884), (.ref b751)]) (lenOf pd_2 rfl) rfl (by show 2 * 0 + _ ≤ _; exact Nat.le_of_eq rfl) (hb hby at_99) (fun _ _ => ⟨rfl, e884, (by decide : 9 + 0 ≤ _), (by decide : 38 + 0 ≤ _)⟩)
    dsimp only [Pt.U, Pt.locs, Pt.cells, Pt.slots] at X917 l917 y917 z917 st917 hQ917
    rw [l917, y917, z917] at X917
    obtain ⟨N917, KK917, hR917⟩ := hQ917
    have NA917 := Fr.app NA852 N917
    have XO918 : Old Z n0 T917.heap := XO893.keep KK917 (allS g_b884 all0)
    have f919 := f894.keep KK917 (ninS ne885 nin0)
    have f920 := f895.keep KK917
    have f921 := f896.keep KK917
    have f922 := f897.keep KK917
    have f923 := f898.keep KK917
    have f924 := f899.keep KK917 (ninS ne888 nin0)
    have f925 := f900.keep KK917 (ninS ne888 nin0)
    have f926 := f901.keep KK917 (ninS ne888 nin0)
    have f927 := f902.keep KK917
    have f928 := f903.keep KK917 (ninS ne889 nin0)
    have f929 := f904.keep KK917 (ninS ne886 nin0)
    have f930 := f905.keep KK917 (ninS ne886 nin0)
    have f931 := f906.keep KK917 (ninS ne886 nin0)
    have f932 := f907.keep KK917 (ninS ne890 nin0)
    have f933 := f908.keep KK917
    have f934 := f909.keep KK917 (ninS ne891 nin0)
    have f935 := f910.keep KK917 (ninS ne891 nin0)
    have f936 := f911.keep KK917 (ninS ne891 nin0)
    have f937 := f912.keep KK917 (ninS ne887 nin0)
    have f938 := f913.keep KK917 (ninS ne887 nin0)
    have f939 := f914.keep KK917 (ninS ne887 nin0)
    have f940 := f915.keep KK917 (ninS ne892 nin0)
    have f941 := E_b884.keep KK917
    have K946 : Keep h0 T917.heap [] := K916.trans KK917 (allS (Or.inr sz_b884) all0)
    have Z946 : n0 ≤ T917.heap.size := Nat.le_trans Z916 KK917.1
    obtain ⟨rfl, v917_0_0, v917_0_1⟩ := hR917
    refine Goes.back st917 ?_
    show Goes _ _ _ _ _ _ _ (T917.setTop (mkF m 102 _ [(.ref b884), (.ref b751)]))
    refine Goes.step (fun _ k => XS.aload X917.here hx rfl (hb hby at_102) rfl rfl k) ?_
    obtain ⟨cq947, kq947, q947a, q947b, q947c⟩ := isOf hZ rfl f921
    obtain ⟨_, _, ⟨T947, L947, k947, n947⟩, -, X947, ⟨Lc947, hQ947, l947, y947, z947⟩, st947⟩ := X917.virtualBack hx (y := (⟨"com/example/orbitloom/orbitloom/core/Timeline", "append", "(Lcom/example/orbitloom/orbitloom/core/Timeline$Entry;Ljava/util/List;)V"⟩ : MethodName)) (z := (⟨"com/example/orbitloom/orbitloom/core/Timeline", "append", "(Lcom/example/orbitloom/orbitloom/core/Timeline$Entry;Ljava/util/List;)V"⟩ : MethodName)) hown (mvT hZ w_67) (mvT hZ w_68) (notFace_of_selects (args := #[]) (mvT hZ w_70)) (mvT hZ w_70) (mvT hZ w_69) (by decide) (backOf (W := 0) (rm9_1 l Z a0 hw [] b751 b884 b770 de ee r757_0_0 r757_0_1 (1 : Int32) r852_0_0 kde kk852_0_0 kk757_0_0 mr b806 T917.heap n0 Z946 S_DE S_EE XO918 f929 f930 f931 f937 f938 f939 f925 f926 f921 f922 v917_0_1 f923 f920 f919 (own_arx f940) oo852_0_0 f932 oo757_0_0 MR g_b751 g_r757_0_0 g_r757_0_1 g_r852_0_0 ne767 ne769 nn757_0_0 (Ne.symm ne772) (Ne.symm ne774) (Ne.symm ne773) ne752 ne768 ne766 (Ne.symm ne886) (Ne.symm ne887) (Ne.symm ne890) (Ne.symm ne873) (Ne.symm ne874) (Ne.symm ne875) ne876 ne872 (Ne.symm ne892)) hZ w_71 w_8 (by decide) (by decide)) q947a q947c (g := (mkF m 104 #[.val (.long p0), .second, .val (.long p1), .second, .val (.long p2), .second, .val (.long p3), .second, .val (.long p4), .second, .val (.int p5), .val (.int (4 : Int32)), .val (.long p0), .second, .val (.long r748), .second, .val (.long r749), .second, .val (.long r750), .second, .val (.ref b751), .val (.ref b770), .unset, .unset] [(.ref b770), (.ref b884), (.ref b751)])) rfl (by rw [hml]; rfl) (Steps.refl _) (argsL := [(.ref b884), (.ref b770)]) (rest := []) (lenOf pd_3 rfl) rfl (by show 2 * 0 + _ ≤ _; exact Nat.le_of_eq rfl) (hb hby at_104) (fun _ _ => ⟨rfl, rfl, (by decide : 9 + 2 ≤ _), (by decide : 38 + 3 ≤ _)⟩)
    dsimp only [Pt.U, Pt.locs, Pt.cells, Pt.slots] at X947 l947 y947 z947 st947 hQ947
    rw [l947, y947, z947] at X947
    obtain ⟨N947, KK947, hR947⟩ := hQ947
    have NA947 := Fr.app NA917 N947
    have XO948 : Old Z n0 T947.heap := XO918.keep KK947 (allS g_b751 (allS g_r757_0_0 (allS g_r757_0_1 (allS g_r852_0_0 all0))))
    have f949 := f919.keep KK947 (ninS ne752 (ninS ne766 (ninS ne768 (ninS ne872 nin0))))
    have f950 := f920.keep KK947
    have f951 := f921.keep KK947
    have f952 := f922.keep KK947
    have f953 := f923.keep KK947
    have f954 := f924.keep KK947 (ninS (Ne.symm ne772) (ninS (Ne.symm ne773) (ninS (Ne.symm ne774) (ninS ne876 nin0))))
    have f955 := f925.keep KK947 (ninS (Ne.symm ne772) (ninS (Ne.symm ne773) (ninS (Ne.symm ne774) (ninS ne876 nin0))))
    have f956 := f926.keep KK947 (ninS (Ne.symm ne772) (ninS (Ne.symm ne773) (ninS (Ne.symm ne774) (ninS ne876 nin0))))
    have f957 := f927.keep KK947
    have f958 := f928.keep KK947 (ninS (Ne.symm ne808) (ninS (Ne.symm ne809) (ninS (Ne.symm ne810) (ninS ne877 nin0))))
    have f963 := f933.keep KK947
    have f964 := f934.keep KK947 (ninS (Ne.symm ne879) (ninS (Ne.symm ne880) (ninS (Ne.symm ne881) (ninS nn852_0_0 nin0))))
    have f965 := f935.keep KK947 (ninS (Ne.symm ne879) (ninS (Ne.symm ne880) (ninS (Ne.symm ne881) (ninS nn852_0_0 nin0))))
    have f966 := f936.keep KK947 (ninS (Ne.symm ne879) (ninS (Ne.symm ne880) (ninS (Ne.symm ne881) (ninS nn852_0_0 nin0))))
    have f971 := v917_0_1.keep KK947
    have f972 := v917_0_0.keep KK947 (ninS (Ne.symm ne886) (ninS (Ne.symm ne890) (ninS (Ne.symm ne887) (ninS (Ne.symm ne892) nin0))))
    have K973 : Keep h0 T947.heap [] := K946.trans KK947 (allS (Or.inr sz_b751) (allS (Or.inr sz_r757_0_0) (allS (Or.inr sz_r757_0_1) (allS (Or.inr sz_r852_0_0) all0))))
    have Z973 : n0 ≤ T947.heap.size := Nat.le_trans Z946 KK947.1
    obtain ⟨rfl, v947_0_0, v947_0_1, v947_0_2, v947_0_3, v947_0_4, v947_0_5, v947_0_6, v947_0_7, v947_0_8, v947_0_9⟩ := hR947
    refine Goes.back st947 ?_
    show Goes _ _ _ _ _ _ _ (T947.setTop (mkF m 107 _ []))
    refine Goes.step (fun _ k => XS.iload X947.here hx rfl (hb hby at_107) rfl  k) ?_
    refine Goes.step (fun _ k => XS.iconst X947.here hx rfl (hb hby at_109) k) ?_
    refine Goes.step (fun _ k => XS.icmpNo X947.here hx rfl (hb hby at_110) rfl (tlt (by decide : (2 : Int32) < (4 : Int32))).2.2.2 k) ?_
    show Goes _ _ _ _ _ _ _ (T947.setTop (mkF m 113 _ []))
    refine Goes.step (fun _ k => XS.aload X947.here hx rfl (hb hby at_113) rfl rfl k) ?_
    obtain ⟨T974, h974, X974, e974, E974, A974, D974, -, st974⟩ := newO X947 hx hZ hown w_47 w_48 w_49 rfl (g := (mkF m 115 #[.val (.long p0), .second, .val (.long p1), .second, .val (.long p2), .second, .val (.long p3), .second, .val (.long p4), .second, .val (.int p5), .val (.int (4 : Int32)), .val (.long p0), .second, .val (.long r748), .second, .val (.long r749), .second, .val (.long r750), .second, .val (.ref b751), .val (.ref b770), .unset, .unset] [(.ref b751)])) rfl (hb hby at_115) (by decide) (by decide)
    obtain ⟨b974, g974⟩ : ∃ z, z = T947.heap.size := ⟨_, rfl⟩
    rw [← g974] at A974 D974 st974
    refine Goes.step st974 ?_
    have g_b974 : n0 ≤ b974 := Nat.le_trans Z973 (Nat.le_of_eq g974.symm)
    have sz_b974 : h0.size ≤ b974 := Nat.le_trans K973.1 (Nat.le_of_eq g974.symm)
    have ne975 : de ≠ b974 := Nat.ne_of_lt (Nat.lt_of_lt_of_le f949.lt (Nat.le_of_eq g974.symm))
    have ne976 : b751 ≠ b974 := Nat.ne_of_lt (Nat.lt_of_lt_of_le v947_0_3.lt (Nat.le_of_eq g974.symm))
    have ne977 : r757_0_1 ≠ b974 := Nat.ne_of_lt (Nat.lt_of_lt_of_le v947_0_4.lt (Nat.le_of_eq g974.symm))
    have ne978 : b770 ≠ b974 := Nat.ne_of_lt (Nat.lt_of_lt_of_le f953.lt (Nat.le_of_eq g974.symm))
    have ne979 : b806 ≠ b974 := Nat.ne_of_lt (Nat.lt_of_lt_of_le f957.lt (Nat.le_of_eq g974.symm))
    have ne980 : r852_0_1 ≠ b974 := Nat.ne_of_lt (Nat.lt_of_lt_of_le f963.lt (Nat.le_of_eq g974.symm))
    have ne981 : b884 ≠ b974 := Nat.ne_of_lt (Nat.lt_of_lt_of_le f971.lt (Nat.le_of_eq g974.symm))
    have ne982 : r757_0_0 ≠ b974 := Nat.ne_of_lt (Nat.lt_of_lt_of_le v947_0_5.lt (Nat.le_of_eq g974.symm))
    have ne983 : r852_0_0 ≠ b974 := Nat.ne_of_lt (Nat.lt_of_lt_of_le v947_0_9.lt (Nat.le_of_eq g974.symm))
    have XO984 : Old Z n0 h974 := XO948.ext E974
    have f985 := f949.ext E974
    have f986 := f950.ext E974
    have f987 := v947_0_3.ext E974
    have f988 := v947_0_4.ext E974
    have f989 := f953.ext E974
    have f990 := f954.ext E974
    have f991 := f955.ext E974
    have f992 := f956.ext E974
    have f993 := f957.ext E974
    have f994 := f958.ext E974
    have f995 := f963.ext E974
    have f996 := f964.ext E974
    have f997 := f965.ext E974
    have f998 := f966.ext E974
    have f999 := f971.ext E974
    have f1000 := f972.ext E974
    have f1001 := v947_0_0.ext E974
    have f1002 := v947_0_1.ext E974
    have f1003 := v947_0_2.ext E974
    have f1004 := v947_0_5.ext E974
    have f1005 := v947_0_6.ext E974
    have f1006 := v947_0_7.ext E974
    have f1007 := v947_0_8.ext E974
    have f1008 := v947_0_9.ext E974
    have K1009 : Keep h0 h974 [] := K973.ext E974
    have Z1009 : n0 ≤ h974.size := Nat.le_trans Z973 E974.1
    have E_b974 := A974
    have F_start_b974 : Fld Z h974 b974 "com/example/orbitloom/orbitloom/core/Timeline$Entry" "start" "J" (.long (0 : Int64)) := D974 (Or.inr w_60) (ty := .long) (by decide)
    have F_end_b974 : Fld Z h974 b974 "com/example/orbitloom/orbitloom/core/Timeline$Entry" "end" "J" (.long (0 : Int64)) := D974 (Or.inr w_62) (ty := .long) (by decide)
    have F_attitude_b974 : Fld Z h974 b974 "com/example/orbitloom/orbitloom/core/Timeline$Entry" "attitude" "Lcom/example/orbitloom/orbitloom/core/Attitude;" .null := D974 (Or.inr w_64) (ty := (.object "com/example/orbitloom/orbitloom/core/Attitude")) (by decide)
    have F_rev_b974 : Fld Z h974 b974 "com/example/orbitloom/orbitloom/core/Timeline$Entry" "rev" "I" (.int (0 : Int32)) := D974 (Or.inr w_66) (ty := .int) (by decide)
    show Goes _ _ _ _ _ _ _ (T974.setTop (mkF m 118 _ [(.ref b974), (.ref b751)]))
    refine Goes.step (fun _ k => XS.dup X974.here hx rfl (hb hby at_118) rfl rfl k) ?_
    refine Goes.step (fun _ k => XS.lload X974.here hx rfl (hb hby at_119) rfl  k) ?_
    refine Goes.step (fun _ k => XS.lload X974.here hx rfl (hb hby at_121) rfl  k) ?_
    refine Goes.step (fun _ k => XS.aconstNull X974.here hx rfl (hb hby at_123) k) ?_
    show Goes _ _ _ _ _ _ _ (T974.setTop (mkF m 124 _ [.null, (.long r749), (.long r749), (.ref b974), (.ref b974), (.ref b751)]))
    refine Goes.step (fun _ k => XS.iconst X974.here hx rfl (hb hby at_124) k) ?_
    obtain ⟨_, _, ⟨T1010, L1010, k1010, n1010⟩, -, X1010, ⟨Lc1010, hQ1010, l1010, y1010, z1010⟩, st1010⟩ := X974.specialBack hx (y := (⟨"com/example/orbitloom/orbitloom/core/Timeline$Entry", "<init>", "(JJLcom/example/orbitloom/orbitloom/core/Attitude;I)V"⟩ : MethodName)) rfl hown (mvT hZ w_50) (mvT hZ w_51) (mvT hZ w_52) (by decide) (backOf (W := 2) (rm7 l Z a0 hw [] b974 r749 r749 (0 : Int32) h974 n0 Z1009 F_start_b974 F_end_b974 F_attitude_b974 F_rev_b974 E_b974 g_b974) hZ w_52 w_49 (by decide) (by decide)) (g := (mkF m 125 #[.val (.long p0), .second, .val (.long p1), .second, .val (.long p2), .second, .val (.long p3), .second, .val (.long p4), .second, .val (.int p5), .val (.int (4 : Int32)), .val (.long p0), .second, .val (.long r748), .second, .val (.long r749), .second, .val (.long r750), .second, .val (.ref b751), .val (.ref b770), .unset, .unset] [(.int (0 : Int32)), .null, (.long r749), (.long r749), (.ref b974), (.ref b974), (.ref b751)])) rfl (by rw [hml]; rfl) (Steps.refl _) (a := b974) (argsL := [(.long r749), (.long r749), .null, (.int (0 : Int32))]) (rest := [(.ref b974), (.ref b751)]) (lenOf pd_2 rfl) rfl (by show 2 * 0 + _ ≤ _; exact Nat.le_of_eq rfl) (hb hby at_125) (fun _ _ => ⟨rfl, e974, (by decide : 12 + 0 ≤ _), (by decide : 45 + 0 ≤ _)⟩)
    dsimp only [Pt.U, Pt.locs, Pt.cells, Pt.slots] at X1010 l1010 y1010 z1010 st1010 hQ1010
    rw [l1010, y1010, z1010] at X1010
    obtain ⟨N1010, KK1010, hR1010⟩ := hQ1010
    have NA1010 := Fr.app NA947 N1010
    have XO1011 : Old Z n0 T1010.heap := XO984.keep KK1010 (allS g_b974 all0)
    have f1012 := f985.keep KK1010 (ninS ne975 nin0)
    have f1013 := f986.keep KK1010
    have f1014 := f987.keep KK1010
    have f1015 := f988.keep KK1010
    have f1016 := f989.keep KK1010
    have f1017 := f990.keep KK1010 (ninS ne978 nin0)
    have f1018 := f991.keep KK1010 (ninS ne978 nin0)
    have f1019 := f992.keep KK1010 (ninS ne978 nin0)
    have f1020 := f993.keep KK1010
    have f1021 := f994.keep KK1010 (ninS ne979 nin0)
    have f1022 := f995.keep KK1010
    have f1023 := f996.keep KK1010 (ninS ne980 nin0)
    have f1024 := f997.keep KK1010 (ninS ne980 nin0)
    have f1025 := f998.keep KK1010 (ninS ne980 nin0)
    have f1026 := f999.keep KK1010
    have f1027 := f1000.keep KK1010 (ninS ne981 nin0)
    have f1028 := f1001.keep KK1010 (ninS ne976 nin0)
    have f1029 := f1002.keep KK1010 (ninS ne976 nin0)
    have f1030 := f1003.keep KK1010 (ninS ne976 nin0)
    have f1031 := f1004.keep KK1010 (ninS ne982 nin0)
    have f1032 := f1005.keep KK1010 (ninS ne977 nin0)
    have f1033 := f1006.keep KK1010 (ninS ne977 nin0)
    have f1034 := f1007.keep KK1010 (ninS ne977 nin0)
    have f1035 := f1008.keep KK1010 (ninS ne983 nin0)
    have f1036 := E_b974.keep KK1010
    have K1041 : Keep h0 T1010.heap [] := K1009.trans KK1010 (allS (Or.inr sz_b974) all0)
    have Z1041 : n0 ≤ T1010.heap.size := Nat.le_trans Z1009 KK1010.1
    obtain ⟨rfl, v1010_0_0, v1010_0_1⟩ := hR1010
    refine Goes.back st1010 ?_
    show Goes _ _ _ _ _ _ _ (T1010.setTop (mkF m 128 _ [(.ref b974), (.ref b751)]))
    refine Goes.step (fun _ k => XS.aload X1010.here hx rfl (hb hby at_128) rfl rfl k) ?_
    obtain ⟨cq1042, kq1042, q1042a, q1042b, q1042c⟩ := isOf hZ rfl f1014
    obtain ⟨_, _, ⟨T1042, L1042, k1042, n1042⟩, -, X1042, ⟨Lc1042, hQ1042, l1042, y1042, z1042⟩, st1042⟩ := X1010.virtualBack hx (y := (⟨"com/example/orbitloom/orbitloom/core/Timeline", "append", "(Lcom/example/orbitloom/orbitloom/core/Timeline$Entry;Ljava/util/List;)V"⟩ : MethodName)) (z := (⟨"com/example/orbitloom/orbitloom/core/Timeline", "append", "(Lcom/example/orbitloom/orbitloom/core/Timeline$Entry;Ljava/util/List;)V"⟩ : MethodName)) hown (mvT hZ w_67) (mvT hZ w_68) (notFace_of_selects (args := #[]) (mvT hZ w_70)) (mvT hZ w_70) (mvT hZ w_69) (by decide) (backOf (W := 0) (rm9_2 l Z a0 hw [] b751 b974 b770 de ee r757_0_0 r757_0_1 (2 : Int32) r852_0_0 kde kk852_0_0 kk757_0_0 mr b806 b884 T1010.heap n0 Z1041 S_DE S_EE XO1011 f1028 f1029 f1030 f1032 f1033 f1034 f1018 f1019 f1014 f1015 v1010_0_1 f1016 f1013 f1012 f1035 oo852_0_0 f1031 oo757_0_0 MR g_b751 g_r757_0_0 g_r757_0_1 g_r852_0_0 ne767 ne769 nn757_0_0 (Ne.symm ne772) (Ne.symm ne774) (Ne.symm ne773) ne752 ne768 ne766 (Ne.symm ne976) (Ne.symm ne977) (Ne.symm ne982) (Ne.symm ne873) (Ne.symm ne874) (Ne.symm ne875) ne876 ne872 (Ne.symm ne983)) hZ w_71 w_8 (by decide) (by decide)) q1042a q1042c (g := (mkF m 130 #[.val (.long p0), .second, .val (.long p1), .second, .val (.long p2), .second, .val (.long p3), .second, .val (.long p4), .second, .val (.int p5), .val (.int (4 : Int32)), .val (.long p0), .second, .val (.long r748), .second, .val (.long r749), .second, .val (.long r750), .second, .val (.ref b751), .val (.ref b770), .unset, .unset] [(.ref b770), (.ref b974), (.ref b751)])) rfl (by rw [hml]; rfl) (Steps.refl _) (argsL := [(.ref b974), (.ref b770)]) (rest := []) (lenOf pd_3 rfl) rfl (by show 2 * 0 + _ ≤ _; exact Nat.le_of_eq rfl) (hb hby at_130) (fun _ _ => ⟨rfl, rfl, (by decide : 12 + 2 ≤ _), (by decide : 45 + 3 ≤ _)⟩)
    dsimp only [Pt.U, Pt.locs, Pt.cells, Pt.slots] at X1042 l1042 y1042 z1042 st1042 hQ1042
    rw [l1042, y1042, z1042] at X1042
    obtain ⟨N1042, KK1042, hR1042⟩ := hQ1042
    have NA1042 := Fr.app NA1010 N1042
    have XO1043 : Old Z n0 T1042.heap := XO1011.keep KK1042 (allS g_b751 (allS g_r757_0_0 (allS g_r757_0_1 (allS g_r852_0_0 all0))))
    have f1044 := f1012.keep KK1042 (ninS ne752 (ninS ne766 (ninS ne768 (ninS ne872 nin0))))
    have f1045 := f1013.keep KK1042
    have f1046 := f1014.keep KK1042
    have f1047 := f1015.keep KK1042
    have f1048 := f1016.keep KK1042
    have f1049 := f1017.keep KK1042 (ninS (Ne.symm ne772) (ninS (Ne.symm ne773) (ninS (Ne.symm ne774) (ninS ne876 nin0))))
    have f1050 := f1018.keep KK1042 (ninS (Ne.symm ne772) (ninS (Ne.symm ne773) (ninS (Ne.symm ne774) (ninS ne876 nin0))))
    have f1051 := f1019.keep KK1042 (ninS (Ne.symm ne772) (ninS (Ne.symm ne773) (ninS (Ne.symm ne774) (ninS ne876 nin0))))
    have f1052 := f1020.keep KK1042
    have f1053 := f1021.keep KK1042 (ninS (Ne.symm ne808) (ninS (Ne.symm ne809) (ninS (Ne.symm ne810) (ninS ne877 nin0))))
    have f1054 := f1022.keep KK1042
    have f1055 := f1023.keep KK1042 (ninS (Ne.symm ne879) (ninS (Ne.symm ne880) (ninS (Ne.symm ne881) (ninS nn852_0_0 nin0))))
    have f1056 := f1024.keep KK1042 (ninS (Ne.symm ne879) (ninS (Ne.symm ne880) (ninS (Ne.symm ne881) (ninS nn852_0_0 nin0))))
    have f1057 := f1025.keep KK1042 (ninS (Ne.symm ne879) (ninS (Ne.symm ne880) (ninS (Ne.symm ne881) (ninS nn852_0_0 nin0))))
    have f1058 := f1026.keep KK1042
    have f1059 := f1027.keep KK1042 (ninS (Ne.symm ne886) (ninS (Ne.symm ne890) (ninS (Ne.symm ne887) (ninS (Ne.symm ne892) nin0))))
    have f1068 := v1010_0_1.keep KK1042
    have f1069 := v1010_0_0.keep KK1042 (ninS (Ne.symm ne976) (ninS (Ne.symm ne982) (ninS (Ne.symm ne977) (ninS (Ne.symm ne983) nin0))))
    have K1070 : Keep h0 T1042.heap [] := K1041.trans KK1042 (allS (Or.inr sz_b751) (allS (Or.inr sz_r757_0_0) (allS (Or.inr sz_r757_0_1) (allS (Or.inr sz_r852_0_0) all0))))
    have Z1070 : n0 ≤ T1042.heap.size := Nat.le_trans Z1041 KK1042.1
    obtain ⟨rfl, v1042_0_0, v1042_0_1, v1042_0_2, v1042_0_3, v1042_0_4, v1042_0_5, v1042_0_6, v1042_0_7, v1042_0_8, v1042_0_9⟩ := hR1042
    refine Goes.back st1042 ?_
    show Goes _ _ _ _ _ _ _ (T1042.setTop (mkF m 133 #[.val (.long p0), .second, .val (.long p1), .second, .val (.long p2), .second, .val (.long p3), .second, .val (.long p4), .second, .val (.int p5), .val (.int (4 : Int32)), .val (.long p0), .second, .val (.long r748), .second, .val (.long r749), .second, .val (.long r750), .second, .val (.ref b751), .val (.ref b770), .unset, .unset] []))
    refine Goes.step (fun _ k => XS.iload X1042.here hx rfl (hb hby at_133) rfl  k) ?_
    refine Goes.step (fun _ k => XS.iconst X1042.here hx rfl (hb hby at_135) k) ?_
    refine Goes.step (fun _ k => XS.icmpNo X1042.here hx rfl (hb hby at_136) rfl (tlt (by decide : (3 : Int32) < (4 : Int32))).2.2.2 k) ?_
    show Goes _ _ _ _ _ _ _ (T1042.setTop (mkF m 139 _ []))
    refine Goes.step (fun _ k => XS.aload X1042.here hx rfl (hb hby at_139) rfl rfl k) ?_
    obtain ⟨T1071, h1071, X1071, e1071, E1071, A1071, D1071, -, st1071⟩ := newO X1042 hx hZ hown w_47 w_48 w_49 rfl (g := (mkF m 141 #[.val (.long p0), .second, .val (.long p1), .second, .val (.long p2), .second, .val (.long p3), .second, .val (.long p4), .second, .val (.int p5), .val (.int (4 : Int32)), .val (.long p0), .second, .val (.long r748), .second, .val (.long r749), .second, .val (.long r750), .second, .val (.ref b751), .val (.ref b770), .unset, .unset] [(.ref b751)])) rfl (hb hby at_141) (by decide) (by decide)
    obtain ⟨b1071, g1071⟩ : ∃ z, z = T1042.heap.size := ⟨_, rfl⟩
    rw [← g1071] at A1071 D1071 st1071
    refine Goes.step st1071 ?_
    have g_b1071 : n0 ≤ b1071 := Nat.le_trans Z1070 (Nat.le_of_eq g1071.symm)
    have sz_b1071 : h0.size ≤ b1071 := Nat.le_trans K1070.1 (Nat.le_of_eq g1071.symm)
    have ne1072 : de ≠ b1071 := Nat.ne_of_lt (Nat.lt_of_lt_of_le f1044.lt (Nat.le_of_eq g1071.symm))
    have ne1073 : b751 ≠ b1071 := Nat.ne_of_lt (Nat.lt_of_lt_of_le v1042_0_3.lt (Nat.le_of_eq g1071.symm))
    have ne1074 : r757_0_1 ≠ b1071 := Nat.ne_of_lt (Nat.lt_of_lt_of_le v1042_0_4.lt (Nat.le_of_eq g1071.symm))
    have ne1075 : b770 ≠ b1071 := Nat.ne_of_lt (Nat.lt_of_lt_of_le f1048.lt (Nat.le_of_eq g1071.symm))
    have ne1076 : b806 ≠ b1071 := Nat.ne_of_lt (Nat.lt_of_lt_of_le f1052.lt (Nat.le_of_eq g1071.symm))
    have ne1077 : r852_0_1 ≠ b1071 := Nat.ne_of_lt (Nat.lt_of_lt_of_le f1054.lt (Nat.le_of_eq g1071.symm))
    have ne1078 : b884 ≠ b1071 := Nat.ne_of_lt (Nat.lt_of_lt_of_le f1058.lt (Nat.le_of_eq g1071.symm))
    have ne1079 : b974 ≠ b1071 := Nat.ne_of_lt (Nat.lt_of_lt_of_le f1068.lt (Nat.le_of_eq g1071.symm))
    have ne1080 : r757_0_0 ≠ b1071 := Nat.ne_of_lt (Nat.lt_of_lt_of_le v1042_0_5.lt (Nat.le_of_eq g1071.symm))
    have ne1081 : r852_0_0 ≠ b1071 := Nat.ne_of_lt (Nat.lt_of_lt_of_le v1042_0_9.lt (Nat.le_of_eq g1071.symm))
    have XO1082 : Old Z n0 h1071 := XO1043.ext E1071
    have f1083 := f1044.ext E1071
    have f1084 := f1045.ext E1071
    have f1085 := v1042_0_3.ext E1071
    have f1086 := v1042_0_4.ext E1071
    have f1087 := f1048.ext E1071
    have f1088 := f1049.ext E1071
    have f1089 := f1050.ext E1071
    have f1090 := f1051.ext E1071
    have f1091 := f1052.ext E1071
    have f1092 := f1053.ext E1071
    have f1093 := f1054.ext E1071
    have f1094 := f1055.ext E1071
    have f1095 := f1056.ext E1071
    have f1096 := f1057.ext E1071
    have f1097 := f1058.ext E1071
    have f1098 := f1059.ext E1071
    have f1099 := f1068.ext E1071
    have f1100 := f1069.ext E1071
    have f1101 := v1042_0_0.ext E1071
    have f1102 := v1042_0_1.ext E1071
    have f1103 := v1042_0_2.ext E1071
    have f1104 := v1042_0_5.ext E1071
    have f1105 := v1042_0_6.ext E1071
    have f1106 := v1042_0_7.ext E1071
    have f1107 := v1042_0_8.ext E1071
    have f1108 := v1042_0_9.ext E1071
    have K1109 : Keep h0 h1071 [] := K1070.ext E1071
    have Z1109 : n0 ≤ h1071.size := Nat.le_trans Z1070 E1071.1
    have E_b1071 := A1071
    have F_start_b1071 : Fld Z h1071 b1071 "com/example/orbitloom/orbitloom/core/Timeline$Entry" "start" "J" (.long (0 : Int64)) := D1071 (Or.inr w_60) (ty := .long) (by decide)
    have F_end_b1071 : Fld Z h1071 b1071 "com/example/orbitloom/orbitloom/core/Timeline$Entry" "end" "J" (.long (0 : Int64)) := D1071 (Or.inr w_62) (ty := .long) (by decide)
    have F_attitude_b1071 : Fld Z h1071 b1071 "com/example/orbitloom/orbitloom/core/Timeline$Entry" "attitude" "Lcom/example/orbitloom/orbitloom/core/Attitude;" .null := D1071 (Or.inr w_64) (ty := (.object "com/example/orbitloom/orbitloom/core/Attitude")) (by decide)
    have F_rev_b1071 : Fld Z h1071 b1071 "com/example/orbitloom/orbitloom/core/Timeline$Entry" "rev" "I" (.int (0 : Int32)) := D1071 (Or.inr w_66) (ty := .int) (by decide)
    show Goes _ _ _ _ _ _ _ (T1071.setTop (mkF m 144 _ [(.ref b1071), (.ref b751)]))
    refine Goes.step (fun _ k => XS.dup X1071.here hx rfl (hb hby at_144) rfl rfl k) ?_
    refine Goes.step (fun _ k => XS.lload X1071.here hx rfl (hb hby at_145) rfl  k) ?_
    refine Goes.step (fun _ k => XS.lload X1071.here hx rfl (hb hby at_147) rfl  k) ?_
    refine Goes.step (fun _ k => XS.aconstNull X1071.here hx rfl (hb hby at_149) k) ?_
    show Goes _ _ _ _ _ _ _ (T1071.setTop (mkF m 150 _ [.null, (.long r750), (.long r750), (.ref b1071), (.ref b1071), (.ref b751)]))
    refine Goes.step (fun _ k => XS.iconst X1071.here hx rfl (hb hby at_150) k) ?_
    obtain ⟨_, _, ⟨T1110, L1110, k1110, n1110⟩, -, X1110, ⟨Lc1110, hQ1110, l1110, y1110, z1110⟩, st1110⟩ := X1071.specialBack hx (y := (⟨"com/example/orbitloom/orbitloom/core/Timeline$Entry", "<init>", "(JJLcom/example/orbitloom/orbitloom/core/Attitude;I)V"⟩ : MethodName)) rfl hown (mvT hZ w_50) (mvT hZ w_51) (mvT hZ w_52) (by decide) (backOf (W := 2) (rm7 l Z a0 hw [] b1071 r750 r750 (0 : Int32) h1071 n0 Z1109 F_start_b1071 F_end_b1071 F_attitude_b1071 F_rev_b1071 E_b1071 g_b1071) hZ w_52 w_49 (by decide) (by decide)) (g := (mkF m 151 #[.val (.long p0), .second, .val (.long p1), .second, .val (.long p2), .second, .val (.long p3), .second, .val (.long p4), .second, .val (.int p5), .val (.int (4 : Int32)), .val (.long p0), .second, .val (.long r748), .second, .val (.long r749), .second, .val (.long r750), .second, .val (.ref b751), .val (.ref b770), .unset, .unset] [(.int (0 : Int32)), .null, (.long r750), (.long r750), (.ref b1071), (.ref b1071), (.ref b751)])) rfl (by rw [hml]; rfl) (Steps.refl _) (a := b1071) (argsL := [(.long r750), (.long r750), .null, (.int (0 : Int32))]) (rest := [(.ref b1071), (.ref b751)]) (lenOf pd_2 rfl) rfl (by show 2 * 0 + _ ≤ _; exact Nat.le_of_eq rfl) (hb hby at_151) (fun _ _ => ⟨rfl, e1071, (by decide : 15 + 0 ≤ _), (by decide : 52 + 0 ≤ _)⟩)
    dsimp only [Pt.U, Pt.locs, Pt.cells, Pt.slots] at X1110 l1110 y1110 z1110 st1110 hQ1110
    rw [l1110, y1110, z1110] at X1110
    obtain ⟨N1110, KK1110, hR1110⟩ := hQ1110
    have NA1110 := Fr.app NA1042 N1110
    have XO1111 : Old Z n0 T1110.heap := XO1082.keep KK1110 (allS g_b1071 all0)
    have f1112 := f1083.keep KK1110 (ninS ne1072 nin0)
    have f1113 := f1084.keep KK1110
    have f1114 := f1085.keep KK1110
    have f1115 := f1086.keep KK1110
    have f1116 := f1087.keep KK1110
    have f1117 := f1088.keep KK1110 (ninS ne1075 nin0)
    have f1118 := f1089.keep KK1110 (ninS ne1075 nin0)
    have f1119 := f1090.keep KK1110 (ninS ne1075 nin0)
    have f1120 := f1091.keep KK1110
    have f1121 := f1092.keep KK1110 (ninS ne1076 nin0)
    have f1122 := f1093.keep KK1110
    have f1123 := f1094.keep KK1110 (ninS ne1077 nin0)
    have f1124 := f1095.keep KK1110 (ninS ne1077 nin0)
    have f1125 := f1096.keep KK1110 (ninS ne1077 nin0)
    have f1126 := f1097.keep KK1110
    have f1127 := f1098.keep KK1110 (ninS ne1078 nin0)
    have f1128 := f1099.keep KK1110
    have f1129 := f1100.keep KK1110 (ninS ne1079 nin0)
    have f1130 := f1101.keep KK1110 (ninS ne1073 nin0)
    have f1131 := f1102.keep KK1110 (ninS ne1073 nin0)
    have f1132 := f1103.keep KK1110 (ninS ne1073 nin0)
    have f1133 := f1104.keep KK1110 (ninS ne1080 nin0)
    have f1134 := f1105.keep KK1110 (ninS ne1074 nin0)
    have f1135 := f1106.keep KK1110 (ninS ne1074 nin0)
    have f1136 := f1107.keep KK1110 (ninS ne1074 nin0)
    have f1137 := f1108.keep KK1110 (ninS ne1081 nin0)
    have f1138 := E_b1071.keep KK1110
    have K1143 : Keep h0 T1110.heap [] := K1109.trans KK1110 (allS (Or.inr sz_b1071) all0)
    have Z1143 : n0 ≤ T1110.heap.size := Nat.le_trans Z1109 KK1110.1
    obtain ⟨rfl, v1110_0_0, v1110_0_1⟩ := hR1110
    refine Goes.back st1110 ?_
    show Goes _ _ _ _ _ _ _ (T1110.setTop (mkF m 154 _ [(.ref b1071), (.ref b751)]))
    refine Goes.step (fun _ k => XS.aload X1110.here hx rfl (hb hby at_154) rfl rfl k) ?_
    obtain ⟨cq1144, kq1144, q1144a, q1144b, q1144c⟩ := isOf hZ rfl f1114
    obtain ⟨_, _, ⟨T1144, L1144, k1144, n1144⟩, -, X1144, ⟨Lc1144, hQ1144, l1144, y1144, z1144⟩, st1144⟩ := X1110.virtualBack hx (y := (⟨"com/example/orbitloom/orbitloom/core/Timeline", "append", "(Lcom/example/orbitloom/orbitloom/core/Timeline$Entry;Ljava/util/List;)V"⟩ : MethodName)) (z := (⟨"com/example/orbitloom/orbitloom/core/Timeline", "append", "(Lcom/example/orbitloom/orbitloom/core/Timeline$Entry;Ljava/util/List;)V"⟩ : MethodName)) hown (mvT hZ w_67) (mvT hZ w_68) (notFace_of_selects (args := #[]) (mvT hZ w_70)) (mvT hZ w_70) (mvT hZ w_69) (by decide) (backOf (W := 0) (rm9_3 l Z a0 hw [] b751 b1071 b770 de ee r757_0_0 r757_0_1 (3 : Int32) r852_0_0 kde kk852_0_0 kk757_0_0 mr b806 b884 b974 T1110.heap n0 Z1143 S_DE S_EE XO1111 f1130 f1131 f1132 f1134 f1135 f1136 f1118 f1119 f1114 f1115 v1110_0_1 f1116 f1113 f1112 f1137 oo852_0_0 f1133 oo757_0_0 MR g_b751 g_r757_0_0 g_r757_0_1 g_r852_0_0 ne767 ne769 nn757_0_0 (Ne.symm ne772) (Ne.symm ne774) (Ne.symm ne773) ne752 ne768 ne766 (Ne.symm ne1073) (Ne.symm ne1074) (Ne.symm ne1080) (Ne.symm ne873) (Ne.symm ne874) (Ne.symm ne875) ne876 ne872 (Ne.symm ne1081)) hZ w_71 w_8 (by decide) (by decide)) q1144a q1144c (g := (mkF m 156 #[.val (.long p0), .second, .val (.long p1), .second, .val (.long p2), .second, .val (.long p3), .second, .val (.long p4), .second, .val (.int p5), .val (.int (4 : Int32)), .val (.long p0), .second, .val (.long r748), .second, .val (.long r749), .second, .val (.long r750), .second, .val (.ref b751), .val (.ref b770), .unset, .unset] [(.ref b770), (.ref b1071), (.ref b751)])) rfl (by rw [hml]; rfl) (Steps.refl _) (argsL := [(.ref b1071), (.ref b770)]) (rest := []) (lenOf pd_3 rfl) rfl (by show 2 * 0 + _ ≤ _; exact Nat.le_of_eq rfl) (hb hby at_156) (fun _ _ => ⟨rfl, rfl, (by decide : 15 + 2 ≤ _), (by decide : 52 + 3 ≤ _)⟩)
    dsimp only [Pt.U, Pt.locs, Pt.cells, Pt.slots] at X1144 l1144 y1144 z1144 st1144 hQ1144
    rw [l1144, y1144, z1144] at X1144
    obtain ⟨N1144, KK1144, hR1144⟩ := hQ1144
    have NA1144 := Fr.app NA1110 N1144
    have XO1145 : Old Z n0 T1144.heap := XO1111.keep KK1144 (allS g_b751 (allS g_r757_0_0 (allS g_r757_0_1 (allS g_r852_0_0 all0))))
    have f1146 := f1112.keep KK1144 (ninS ne752 (ninS ne766 (ninS ne768 (ninS ne872 nin0))))
    have f1147 := f1113.keep KK1144
    have f1148 := f1114.keep KK1144
    have f1149 := f1115.keep KK1144
    have f1150 := f1116.keep KK1144
    have f1151 := f1117.keep KK1144 (ninS (Ne.symm ne772) (ninS (Ne.symm ne773) (ninS (Ne.symm ne774) (ninS ne876 nin0))))
    have f1152 := f1118.keep KK1144 (ninS (Ne.symm ne772) (ninS (Ne.symm ne773) (ninS (Ne.symm ne774) (ninS ne876 nin0))))
    have f1153 := f1119.keep KK1144 (ninS (Ne.symm ne772) (ninS (Ne.symm ne773) (ninS (Ne.symm ne774) (ninS ne876 nin0))))
    have f1154 := f1120.keep KK1144
    have f1155 := f1121.keep KK1144 (ninS (Ne.symm ne808) (ninS (Ne.symm ne809) (ninS (Ne.symm ne810) (ninS ne877 nin0))))
    have f1156 := f1122.keep KK1144
    have f1157 := f1123.keep KK1144 (ninS (Ne.symm ne879) (ninS (Ne.symm ne880) (ninS (Ne.symm ne881) (ninS nn852_0_0 nin0))))
    have f1158 := f1124.keep KK1144 (ninS (Ne.symm ne879) (ninS (Ne.symm ne880) (ninS (Ne.symm ne881) (ninS nn852_0_0 nin0))))
    have f1159 := f1125.keep KK1144 (ninS (Ne.symm ne879) (ninS (Ne.symm ne880) (ninS (Ne.symm ne881) (ninS nn852_0_0 nin0))))
    have f1160 := f1126.keep KK1144
    have f1161 := f1127.keep KK1144 (ninS (Ne.symm ne886) (ninS (Ne.symm ne890) (ninS (Ne.symm ne887) (ninS (Ne.symm ne892) nin0))))
    have f1162 := f1128.keep KK1144
    have f1163 := f1129.keep KK1144 (ninS (Ne.symm ne976) (ninS (Ne.symm ne982) (ninS (Ne.symm ne977) (ninS (Ne.symm ne983) nin0))))
    have f1172 := v1110_0_1.keep KK1144
    have f1173 := v1110_0_0.keep KK1144 (ninS (Ne.symm ne1073) (ninS (Ne.symm ne1080) (ninS (Ne.symm ne1074) (ninS (Ne.symm ne1081) nin0))))
    have K1174 : Keep h0 T1144.heap [] := K1143.trans KK1144 (allS (Or.inr sz_b751) (allS (Or.inr sz_r757_0_0) (allS (Or.inr sz_r757_0_1) (allS (Or.inr sz_r852_0_0) all0))))
    have Z1174 : n0 ≤ T1144.heap.size := Nat.le_trans Z1143 KK1144.1
    obtain ⟨rfl, v1144_0_0, v1144_0_1, v1144_0_2, v1144_0_3, v1144_0_4, v1144_0_5, v1144_0_6, v1144_0_7, v1144_0_8, v1144_0_9⟩ := hR1144
    refine Goes.back st1144 ?_
    show Goes _ _ _ _ _ _ _ (T1144.setTop (mkF m 159 _ []))
    refine Goes.step (fun _ k => XS.aload X1144.here hx rfl (hb hby at_159) rfl rfl k) ?_
    refine Goes.step (fun _ k => XS.lload X1144.here hx rfl (hb hby at_161) rfl  k) ?_
    obtain ⟨cq1175, kq1175, q1175a, q1175b, q1175c⟩ := isOf hZ rfl v1144_0_3
    obtain ⟨_, _, ⟨T1175, L1175, k1175, n1175⟩, -, X1175, ⟨Lc1175, hQ1175, l1175, y1175, z1175⟩, st1175⟩ := X1144.virtualBack hx (y := (⟨"com/example/orbitloom/orbitloom/core/Timeline", "firstStartingFrom", "(J)I"⟩ : MethodName)) (z := (⟨"com/example/orbitloom/orbitloom/core/Timeline", "firstStartingFrom", "(J)I"⟩ : MethodName)) hown (mvT hZ w_145) (mvT hZ w_146) (notFace_of_selects (args := #[]) (mvT hZ w_148)) (mvT hZ w_148) (mvT hZ w_147) (by decide) (backOf (W := 0) (rm20_4 l Z a0 hw [] b751 p4 r757_0_0 kk757_0_0 b806 b884 b974 b1071 p0 r748 r749 r750 T1144.heap n0 Z1174 v1144_0_0 v1144_0_1 v1144_0_3 v1144_0_5 f1155 f1154 f1161 f1160 f1163 f1162 f1173 f1172) hZ w_149 w_8 (by decide) (by decide)) q1175a q1175c (g := (mkF m 163 #[.val (.long p0), .second, .val (.long p1), .second, .val (.long p2), .second, .val (.long p3), .second, .val (.long p4), .second, .val (.int p5), .val (.int (4 : Int32)), .val (.long p0), .second, .val (.long r748), .second, .val (.long r749), .second, .val (.long r750), .second, .val (.ref b751), .val (.ref b770), .unset, .unset] [(.long p4), (.ref b751)])) rfl (by rw [hml]; rfl) (Steps.refl _) (argsL := [(.long p4)]) (rest := []) (lenOf pd_14 rfl) rfl (by show 2 * 0 + _ ≤ _; exact Nat.le_of_eq rfl) (hb hby at_163) (fun _ _ => ⟨rfl, rfl, (by decide : 17 + 0 ≤ _), (by decide : 55 + 0 ≤ _)⟩)
    dsimp only [Pt.U, Pt.locs, Pt.cells, Pt.slots] at X1175 l1175 y1175 z1175 st1175 hQ1175
    rw [l1175, y1175, z1175] at X1175
    obtain ⟨N1175, KK1175, hR1175⟩ := hQ1175
    have NA1175 := Fr.app NA1144 N1175
    rcases hR1175 with ⟨rfl, u1175_0_0, u1175_0_1⟩ | ⟨rfl, u1175_1_0, u1175_1_1⟩ | ⟨rfl, u1175_2_0, u1175_2_1⟩ | ⟨rfl, u1175_3_0, u1175_3_1, u1175_3_2⟩ | ⟨rfl, u1175_4_0, u1175_4_1, u1175_4_2⟩
    · refine Goes.back st1175 ?_
      show Goes _ _ _ _ _ _ _ (T1175.setTop (mkF m 166 _ [(.int (4 : Int32))]))
      refine Goes.step (fun _ k => XS.istore X1175.here hx rfl (hb hby at_166) rfl (l' := #[.val (.long p0), .second, .val (.long p1), .second, .val (.long p2), .second, .val (.long p3), .second, .val (.long p4), .second, .val (.int p5), .val (.int (4 : Int32)), .val (.long p0), .second, .val (.long r748), .second, .val (.long r749), .second, .val (.long r750), .second, .val (.ref b751), .val (.ref b770), .val (.int (4 : Int32)), .unset]) rfl k) ?_
      show Goes _ _ _ _ _ _ _ (T1175.setTop (mkF m 168 #[.val (.long p0), .second, .val (.long p1), .second, .val (.long p2), .second, .val (.long p3), .second, .val (.long p4), .second, .val (.int p5), .val (.int (4 : Int32)), .val (.long p0), .second, .val (.long r748), .second, .val (.long r749), .second, .val (.long r750), .second, .val (.ref b751), .val (.ref b770), .val (.int (4 : Int32)), .unset] []))
      refine Goes.step (fun _ k => XS.iconst X1175.here hx rfl (hb hby at_168) k) ?_
      refine Goes.step (fun _ k => XS.istore X1175.here hx rfl (hb hby at_169) rfl (l' := #[.val (.long p0), .second, .val (.long p1), .second, .val (.long p2), .second, .val (.long p3), .second, .val (.long p4), .second, .val (.int p5), .val (.int (4 : Int32)), .val (.long p0), .second, .val (.long r748), .second, .val (.long r749), .second, .val (.long r750), .second, .val (.ref b751), .val (.ref b770), .val (.int (4 : Int32)), .val (.int (0 : Int32))]) rfl k) ?_
      show Goes _ _ _ _ _ _ _ (T1175.setTop (mkF m 171 _ []))
      refine Goes.step (fun _ k => XS.iload X1175.here hx rfl (hb hby at_171) rfl  k) ?_
      refine Goes.step (fun _ k => XS.ifNo X1175.here hx rfl (hb hby at_173) rfl ((if0 _ _).trans (tlt (by decide : (0 : Int32) < (4 : Int32))).2.2.2) k) ?_
      show Goes _ _ _ _ _ _ _ (T1175.setTop (mkF m 176 _ []))
      refine Goes.step (fun _ k => XS.lload X1175.here hx rfl (hb hby at_176) rfl  k) ?_
      refine Goes.step (fun _ k => XS.lload X1175.here hx rfl (hb hby at_178) rfl  k) ?_
      refine Goes.step (fun _ k => XS.lcmp X1175.here hx rfl (hb hby at_180) rfl k) ?_
      show Goes _ _ _ _ _ _ _ (T1175.setTop (mkF m 181 _ [(.int (lcmpW p0 p4))]))
      refine Goes.step (fun _ k => XS.ifNo X1175.here hx rfl (hb hby at_181) rfl ((if0 _ _).trans (tlt ((lw_lt _ _).mpr (own_ltDown (own_tr mo748 mo749) u1175_0_0))).2.1) k) ?_
      show Goes _ _ _ _ _ _ _ (T1175.setTop (mkF m 184 _ []))
      refine Goes.step (fun _ k => XS.iinc X1175.here hx rfl (hb hby at_184) rfl (l' := #[.val (.long p0), .second, .val (.long p1), .second, .val (.long p2), .second, .val (.long p3), .second, .val (.long p4), .second, .val (.int p5), .val (.int (4 : Int32)), .val (.long p0), .second, .val (.long r748), .second, .val (.long r749), .second, .val (.long r750), .second, .val (.ref b751), .val (.ref b770), .val (.int (4 : Int32)), .val (.int (1 : Int32))]) rfl k) ?_
      show Goes _ _ _ _ _ _ _ (T1175.setTop (mkF m 187 _ []))
      refine Goes.step (fun _ k => XS.iload X1175.here hx rfl (hb hby at_187) rfl  k) ?_
      refine Goes.step (fun _ k => XS.iconst X1175.here hx rfl (hb hby at_189) k) ?_
      refine Goes.step (fun _ k => XS.icmpNo X1175.here hx rfl (hb hby at_190) rfl (tlt (by decide : (1 : Int32) < (4 : Int32))).2.2.2 k) ?_
      show Goes _ _ _ _ _ _ _ (T1175.setTop (mkF m 193 _ []))
      refine Goes.step (fun _ k => XS.lload X1175.here hx rfl (hb hby at_193) rfl  k) ?_
      refine Goes.step (fun _ k => XS.lload X1175.here hx rfl (hb hby at_195) rfl  k) ?_
      refine Goes.step (fun _ k => XS.lcmp X1175.here hx rfl (hb hby at_197) rfl k) ?_
      show Goes _ _ _ _ _ _ _ (T1175.setTop (mkF m 198 #[.val (.long p0), .second, .val (.long p1), .second, .val (.long p2), .second, .val (.long p3), .second, .val (.long p4), .second, .val (.int p5), .val (.int (4 : Int32)), .val (.long p0), .second, .val (.long r748), .second, .val (.long r749), .second, .val (.long r750), .second, .val (.ref b751), .val (.ref b770), .val (.int (4 : Int32)), .val (.int (1 : Int32))] [(.int (lcmpW r748 p4))]))
      refine Goes.step (fun _ k => XS.ifNo X1175.here hx rfl (hb hby at_198) rfl ((if0 _ _).trans (tlt ((lw_lt _ _).mpr (own_ltDown mo749 u1175_0_0))).2.1) k) ?_
      show Goes _ _ _ _ _ _ _ (T1175.setTop (mkF m 201 _ []))
      refine Goes.step (fun _ k => XS.iinc X1175.here hx rfl (hb hby at_201) rfl (l' := #[.val (.long p0), .second, .val (.long p1), .second, .val (.long p2), .second, .val (.long p3), .second, .val (.long p4), .second, .val (.int p5), .val (.int (4 : Int32)), .val (.long p0), .second, .val (.long r748), .second, .val (.long r749), .second, .val (.long r750), .second, .val (.ref b751), .val (.ref b770), .val (.int (4 : Int32)), .val (.int (2 : Int32))]) rfl k) ?_
      show Goes _ _ _ _ _ _ _ (T1175.setTop (mkF m 204 _ []))
      refine Goes.step (fun _ k => XS.iload X1175.here hx rfl (hb hby at_204) rfl  k) ?_
      refine Goes.step (fun _ k => XS.iconst X1175.here hx rfl (hb hby at_206) k) ?_
      refine Goes.step (fun _ k => XS.icmpNo X1175.here hx rfl (hb hby at_207) rfl (tlt (by decide : (2 : Int32) < (4 : Int32))).2.2.2 k) ?_
      show Goes _ _ _ _ _ _ _ (T1175.setTop (mkF m 210 _ []))
      refine Goes.step (fun _ k => XS.lload X1175.here hx rfl (hb hby at_210) rfl  k) ?_
      refine Goes.step (fun _ k => XS.lload X1175.here hx rfl (hb hby at_212) rfl  k) ?_
      refine Goes.step (fun _ k => XS.lcmp X1175.here hx rfl (hb hby at_214) rfl k) ?_
      show Goes _ _ _ _ _ _ _ (T1175.setTop (mkF m 215 _ [(.int (lcmpW r749 p4))]))
      refine Goes.step (fun _ k => XS.ifNo X1175.here hx rfl (hb hby at_215) rfl ((if0 _ _).trans (tlt ((lw_lt _ _).mpr u1175_0_0)).2.1) k) ?_
      show Goes _ _ _ _ _ _ _ (T1175.setTop (mkF m 218 _ []))
      refine Goes.step (fun _ k => XS.iinc X1175.here hx rfl (hb hby at_218) rfl (l' := #[.val (.long p0), .second, .val (.long p1), .second, .val (.long p2), .second, .val (.long p3), .second, .val (.long p4), .second, .val (.int p5), .val (.int (4 : Int32)), .val (.long p0), .second, .val (.long r748), .second, .val (.long r749), .second, .val (.long r750), .second, .val (.ref b751), .val (.ref b770), .val (.int (4 : Int32)), .val (.int (3 : Int32))]) rfl k) ?_
      show Goes _ _ _ _ _ _ _ (T1175.setTop (mkF m 221 _ []))
      refine Goes.step (fun _ k => XS.iload X1175.here hx rfl (hb hby at_221) rfl  k) ?_
      refine Goes.step (fun _ k => XS.iconst X1175.here hx rfl (hb hby at_223) k) ?_
      refine Goes.step (fun _ k => XS.icmpNo X1175.here hx rfl (hb hby at_224) rfl (tlt (by decide : (3 : Int32) < (4 : Int32))).2.2.2 k) ?_
      show Goes _ _ _ _ _ _ _ (T1175.setTop (mkF m 227 #[.val (.long p0), .second, .val (.long p1), .second, .val (.long p2), .second, .val (.long p3), .second, .val (.long p4), .second, .val (.int p5), .val (.int (4 : Int32)), .val (.long p0), .second, .val (.long r748), .second, .val (.long r749), .second, .val (.long r750), .second, .val (.ref b751), .val (.ref b770), .val (.int (4 : Int32)), .val (.int (3 : Int32))] []))
      refine Goes.step (fun _ k => XS.lload X1175.here hx rfl (hb hby at_227) rfl  k) ?_
      refine Goes.step (fun _ k => XS.lload X1175.here hx rfl (hb hby at_229) rfl  k) ?_
      refine Goes.step (fun _ k => XS.lcmp X1175.here hx rfl (hb hby at_231) rfl k) ?_
      show Goes _ _ _ _ _ _ _ (T1175.setTop (mkF m 232 _ [(.int (lcmpW r750 p4))]))
      refine Goes.step (fun _ k => XS.ifNo X1175.here hx rfl (hb hby at_232) rfl ((if0 _ _).trans (tlt ((lw_lt _ _).mpr u1175_0_1)).2.1) k) ?_
      show Goes _ _ _ _ _ _ _ (T1175.setTop (mkF m 235 _ []))
      refine Goes.step (fun _ k => XS.iinc X1175.here hx rfl (hb hby at_235) rfl (l' := #[.val (.long p0), .second, .val (.long p1), .second, .val (.long p2), .second, .val (.long p3), .second, .val (.long p4), .second, .val (.int p5), .val (.int (4 : Int32)), .val (.long p0), .second, .val (.long r748), .second, .val (.long r749), .second, .val (.long r750), .second, .val (.ref b751), .val (.ref b770), .val (.int (4 : Int32)), .val (.int (4 : Int32))]) rfl k) ?_
      show Goes _ _ _ _ _ _ _ (T1175.setTop (mkF m 238 _ []))
      refine Goes.step (fun _ k => XS.iload X1175.here hx rfl (hb hby at_238) rfl  k) ?_
      refine Goes.step (fun _ k => XS.iload X1175.here hx rfl (hb hby at_240) rfl  k) ?_
      refine Goes.step (fun _ k => XS.icmpNo X1175.here hx rfl (hb hby at_242) rfl (teq (by decide : (4 : Int32) = (4 : Int32))).2 k) ?_
      show Goes _ _ _ _ _ _ _ (T1175.setTop (mkF m 245 _ []))
      refine Goes.step (fun _ k => XS.iconst X1175.here hx rfl (hb hby at_245) k) ?_
      refine Goes.step (fun _ k => XS.goto X1175.here hx rfl (pc0 := 246) (pc' := 250) rfl (hb hby at_246) (by decide) (by decide) k) ?_
      show Goes _ _ _ _ _ _ _ (T1175.setTop (mkF m 250 _ [(.int (1 : Int32))]))
      exact Goes.ret X1175 hx (BodyLoose.notSynchronized Bd) Bd.returns rfl (Or.inl ⟨rfl, by simp, _, rfl⟩) (hb hby at_250) (by show Q0 Z p0 p1 p2 p3 p4 p5 de kde ee mr h0 n0 (some (.int (1 : Int32))) T1175.heap _; rw [KK1175]; exact ⟨rfl, NA1175⟩) (by decide) (by decide)
    · refine Goes.back st1175 ?_
      show Goes _ _ _ _ _ _ _ (T1175.setTop (mkF m 166 _ [(.int (3 : Int32))]))
      refine Goes.step (fun _ k => XS.istore X1175.here hx rfl (hb hby at_166) rfl (l' := #[.val (.long p0), .second, .val (.long p1), .second, .val (.long p2), .second, .val (.long p3), .second, .val (.long p4), .second, .val (.int p5), .val (.int (4 : Int32)), .val (.long p0), .second, .val (.long r748), .second, .val (.long r749), .second, .val (.long r750), .second, .val (.ref b751), .val (.ref b770), .val (.int (3 : Int32)), .unset]) rfl k) ?_
      show Goes _ _ _ _ _ _ _ (T1175.setTop (mkF m 168 #[.val (.long p0), .second, .val (.long p1), .second, .val (.long p2), .second, .val (.long p3), .second, .val (.long p4), .second, .val (.int p5), .val (.int (4 : Int32)), .val (.long p0), .second, .val (.long r748), .second, .val (.long r749), .second, .val (.long r750), .second, .val (.ref b751), .val (.ref b770), .val (.int (3 : Int32)), .unset] []))
      refine Goes.step (fun _ k => XS.iconst X1175.here hx rfl (hb hby at_168) k) ?_
      refine Goes.step (fun _ k => XS.istore X1175.here hx rfl (hb hby at_169) rfl (l' := #[.val (.long p0), .second, .val (.long p1), .second, .val (.long p2), .second, .val (.long p3), .second, .val (.long p4), .second, .val (.int p5), .val (.int (4 : Int32)), .val (.long p0), .second, .val (.long r748), .second, .val (.long r749), .second, .val (.long r750), .second, .val (.ref b751), .val (.ref b770), .val (.int (3 : Int32)), .val (.int (0 : Int32))]) rfl k) ?_
      show Goes _ _ _ _ _ _ _ (T1175.setTop (mkF m 171 _ []))
      refine Goes.step (fun _ k => XS.iload X1175.here hx rfl (hb hby at_171) rfl  k) ?_
      refine Goes.step (fun _ k => XS.ifNo X1175.here hx rfl (hb hby at_173) rfl ((if0 _ _).trans (tlt (by decide : (0 : Int32) < (4 : Int32))).2.2.2) k) ?_
      show Goes _ _ _ _ _ _ _ (T1175.setTop (mkF m 176 _ []))
      refine Goes.step (fun _ k => XS.lload X1175.here hx rfl (hb hby at_176) rfl  k) ?_
      refine Goes.step (fun _ k => XS.lload X1175.here hx rfl (hb hby at_178) rfl  k) ?_
      refine Goes.step (fun _ k => XS.lcmp X1175.here hx rfl (hb hby at_180) rfl k) ?_
      show Goes _ _ _ _ _ _ _ (T1175.setTop (mkF m 181 _ [(.int (lcmpW p0 p4))]))
      refine Goes.step (fun _ k => XS.ifNo X1175.here hx rfl (hb hby at_181) rfl ((if0 _ _).trans (tlt ((lw_lt _ _).mpr (own_ltDown (own_tr mo748 mo749) u1175_1_0))).2.1) k) ?_
      show Goes _ _ _ _ _ _ _ (T1175.setTop (mkF m 184 _ []))
      refine Goes.step (fun _ k => XS.iinc X1175.here hx rfl (hb hby at_184) rfl (l' := #[.val (.long p0), .second, .val (.long p1), .second, .val (.long p2), .second, .val (.long p3), .second, .val (.long p4), .second, .val (.int p5), .val (.int (4 : Int32)), .val (.long p0), .second, .val (.long r748), .second, .val (.long r749), .second, .val (.long r750), .second, .val (.ref b751), .val (.ref b770), .val (.int (3 : Int32)), .val (.int (1 : Int32))]) rfl k) ?_
      show Goes _ _ _ _ _ _ _ (T1175.setTop (mkF m 187 _ []))
      refine Goes.step (fun _ k => XS.iload X1175.here hx rfl (hb hby at_187) rfl  k) ?_
      refine Goes.step (fun _ k => XS.iconst X1175.here hx rfl (hb hby at_189) k) ?_
      refine Goes.step (fun _ k => XS.icmpNo X1175.here hx rfl (hb hby at_190) rfl (tlt (by decide : (1 : Int32) < (4 : Int32))).2.2.2 k) ?_
      show Goes _ _ _ _ _ _ _ (T1175.setTop (mkF m 193 _ []))
      refine Goes.step (fun _ k => XS.lload X1175.here hx rfl (hb hby at_193) rfl  k) ?_
      refine Goes.step (fun _ k => XS.lload X1175.here hx rfl (hb hby at_195) rfl  k) ?_
      refine Goes.step (fun _ k => XS.lcmp X1175.here hx rfl (hb hby at_197) rfl k) ?_
      show Goes _ _ _ _ _ _ _ (T1175.setTop (mkF m 198 #[.val (.long p0), .second, .val (.long p1), .second, .val (.long p2), .second, .val (.long p3), .second, .val (.long p4), .second, .val (.int p5), .val (.int (4 : Int32)), .val (.long p0), .second, .val (.long r748), .second, .val (.long r749), .second, .val (.long r750), .second, .val (.ref b751), .val (.ref b770), .val (.int (3 : Int32)), .val (.int (1 : Int32))] [(.int (lcmpW r748 p4))]))
      refine Goes.step (fun _ k => XS.ifNo X1175.here hx rfl (hb hby at_198) rfl ((if0 _ _).trans (tlt ((lw_lt _ _).mpr (own_ltDown mo749 u1175_1_0))).2.1) k) ?_
      show Goes _ _ _ _ _ _ _ (T1175.setTop (mkF m 201 _ []))
      refine Goes.step (fun _ k => XS.iinc X1175.here hx rfl (hb hby at_201) rfl (l' := #[.val (.long p0), .second, .val (.long p1), .second, .val (.long p2), .second, .val (.long p3), .second, .val (.long p4), .second, .val (.int p5), .val (.int (4 : Int32)), .val (.long p0), .second, .val (.long r748), .second, .val (.long r749), .second, .val (.long r750), .second, .val (.ref b751), .val (.ref b770), .val (.int (3 : Int32)), .val (.int (2 : Int32))]) rfl k) ?_
      show Goes _ _ _ _ _ _ _ (T1175.setTop (mkF m 204 _ []))
      refine Goes.step (fun _ k => XS.iload X1175.here hx rfl (hb hby at_204) rfl  k) ?_
      refine Goes.step (fun _ k => XS.iconst X1175.here hx rfl (hb hby at_206) k) ?_
      refine Goes.step (fun _ k => XS.icmpNo X1175.here hx rfl (hb hby at_207) rfl (tlt (by decide : (2 : Int32) < (4 : Int32))).2.2.2 k) ?_
      show Goes _ _ _ _ _ _ _ (T1175.setTop (mkF m 210 _ []))
      refine Goes.step (fun _ k => XS.lload X1175.here hx rfl (hb hby at_210) rfl  k) ?_
      refine Goes.step (fun _ k => XS.lload X1175.here hx rfl (hb hby at_212) rfl  k) ?_
      refine Goes.step (fun _ k => XS.lcmp X1175.here hx rfl (hb hby at_214) rfl k) ?_
      show Goes _ _ _ _ _ _ _ (T1175.setTop (mkF m 215 _ [(.int (lcmpW r749 p4))]))
      refine Goes.step (fun _ k => XS.ifNo X1175.here hx rfl (hb hby at_215) rfl ((if0 _ _).trans (tlt ((lw_lt _ _).mpr u1175_1_0)).2.1) k) ?_
      show Goes _ _ _ _ _ _ _ (T1175.setTop (mkF m 218 _ []))
      refine Goes.step (fun _ k => XS.iinc X1175.here hx rfl (hb hby at_218) rfl (l' := #[.val (.long p0), .second, .val (.long p1), .second, .val (.long p2), .second, .val (.long p3), .second, .val (.long p4), .second, .val (.int p5), .val (.int (4 : Int32)), .val (.long p0), .second, .val (.long r748), .second, .val (.long r749), .second, .val (.long r750), .second, .val (.ref b751), .val (.ref b770), .val (.int (3 : Int32)), .val (.int (3 : Int32))]) rfl k) ?_
      show Goes _ _ _ _ _ _ _ (T1175.setTop (mkF m 221 _ []))
      refine Goes.step (fun _ k => XS.iload X1175.here hx rfl (hb hby at_221) rfl  k) ?_
      refine Goes.step (fun _ k => XS.iconst X1175.here hx rfl (hb hby at_223) k) ?_
      refine Goes.step (fun _ k => XS.icmpNo X1175.here hx rfl (hb hby at_224) rfl (tlt (by decide : (3 : Int32) < (4 : Int32))).2.2.2 k) ?_
      show Goes _ _ _ _ _ _ _ (T1175.setTop (mkF m 227 #[.val (.long p0), .second, .val (.long p1), .second, .val (.long p2), .second, .val (.long p3), .second, .val (.long p4), .second, .val (.int p5), .val (.int (4 : Int32)), .val (.long p0), .second, .val (.long r748), .second, .val (.long r749), .second, .val (.long r750), .second, .val (.ref b751), .val (.ref b770), .val (.int (3 : Int32)), .val (.int (3 : Int32))] []))
      refine Goes.step (fun _ k => XS.lload X1175.here hx rfl (hb hby at_227) rfl  k) ?_
      refine Goes.step (fun _ k => XS.lload X1175.here hx rfl (hb hby at_229) rfl  k) ?_
      refine Goes.step (fun _ k => XS.lcmp X1175.here hx rfl (hb hby at_231) rfl k) ?_
      show Goes _ _ _ _ _ _ _ (T1175.setTop (mkF m 232 _ [(.int (lcmpW r750 p4))]))
      refine Goes.step (fun _ k => XS.ifYes X1175.here hx rfl (pc0 := 232) (pc' := 238) rfl (hb hby at_232) rfl ((if0 _ _).trans (flt (fun q => u1175_1_1 ((lw_lt _ _).mp q))).2.1) (by decide) (by decide) k) ?_
      show Goes _ _ _ _ _ _ _ (T1175.setTop (mkF m 238 _ []))
      refine Goes.step (fun _ k => XS.iload X1175.here hx rfl (hb hby at_238) rfl  k) ?_
      refine Goes.step (fun _ k => XS.iload X1175.here hx rfl (hb hby at_240) rfl  k) ?_
      refine Goes.step (fun _ k => XS.icmpNo X1175.here hx rfl (hb hby at_242) rfl (teq (by decide : (3 : Int32) = (3 : Int32))).2 k) ?_
      show Goes _ _ _ _ _ _ _ (T1175.setTop (mkF m 245 _ []))
      refine Goes.step (fun _ k => XS.iconst X1175.here hx rfl (hb hby at_245) k) ?_
      refine Goes.step (fun _ k => XS.goto X1175.here hx rfl (pc0 := 246) (pc' := 250) rfl (hb hby at_246) (by decide) (by decide) k) ?_
      show Goes _ _ _ _ _ _ _ (T1175.setTop (mkF m 250 _ [(.int (1 : Int32))]))
      exact Goes.ret X1175 hx (BodyLoose.notSynchronized Bd) Bd.returns rfl (Or.inl ⟨rfl, by simp, _, rfl⟩) (hb hby at_250) (by show Q0 Z p0 p1 p2 p3 p4 p5 de kde ee mr h0 n0 (some (.int (1 : Int32))) T1175.heap _; rw [KK1175]; exact ⟨rfl, NA1175⟩) (by decide) (by decide)
    · refine Goes.back st1175 ?_
      show Goes _ _ _ _ _ _ _ (T1175.setTop (mkF m 166 _ [(.int (2 : Int32))]))
      refine Goes.step (fun _ k => XS.istore X1175.here hx rfl (hb hby at_166) rfl (l' := #[.val (.long p0), .second, .val (.long p1), .second, .val (.long p2), .second, .val (.long p3), .second, .val (.long p4), .second, .val (.int p5), .val (.int (4 : Int32)), .val (.long p0), .second, .val (.long r748), .second, .val (.long r749), .second, .val (.long r750), .second, .val (.ref b751), .val (.ref b770), .val (.int (2 : Int32)), .unset]) rfl k) ?_
      show Goes _ _ _ _ _ _ _ (T1175.setTop (mkF m 168 #[.val (.long p0), .second, .val (.long p1), .second, .val (.long p2), .second, .val (.long p3), .second, .val (.long p4), .second, .val (.int p5), .val (.int (4 : Int32)), .val (.long p0), .second, .val (.long r748), .second, .val (.long r749), .second, .val (.long r750), .second, .val (.ref b751), .val (.ref b770), .val (.int (2 : Int32)), .unset] []))
      refine Goes.step (fun _ k => XS.iconst X1175.here hx rfl (hb hby at_168) k) ?_
      refine Goes.step (fun _ k => XS.istore X1175.here hx rfl (hb hby at_169) rfl (l' := #[.val (.long p0), .second, .val (.long p1), .second, .val (.long p2), .second, .val (.long p3), .second, .val (.long p4), .second, .val (.int p5), .val (.int (4 : Int32)), .val (.long p0), .second, .val (.long r748), .second, .val (.long r749), .second, .val (.long r750), .second, .val (.ref b751), .val (.ref b770), .val (.int (2 : Int32)), .val (.int (0 : Int32))]) rfl k) ?_
      show Goes _ _ _ _ _ _ _ (T1175.setTop (mkF m 171 _ []))
      refine Goes.step (fun _ k => XS.iload X1175.here hx rfl (hb hby at_171) rfl  k) ?_
      refine Goes.step (fun _ k => XS.ifNo X1175.here hx rfl (hb hby at_173) rfl ((if0 _ _).trans (tlt (by decide : (0 : Int32) < (4 : Int32))).2.2.2) k) ?_
      show Goes _ _ _ _ _ _ _ (T1175.setTop (mkF m 176 _ []))
      refine Goes.step (fun _ k => XS.lload X1175.here hx rfl (hb hby at_176) rfl  k) ?_
      refine Goes.step (fun _ k => XS.lload X1175.here hx rfl (hb hby at_178) rfl  k) ?_
      refine Goes.step (fun _ k => XS.lcmp X1175.here hx rfl (hb hby at_180) rfl k) ?_
      show Goes _ _ _ _ _ _ _ (T1175.setTop (mkF m 181 _ [(.int (lcmpW p0 p4))]))
      refine Goes.step (fun _ k => XS.ifNo X1175.here hx rfl (hb hby at_181) rfl ((if0 _ _).trans (tlt ((lw_lt _ _).mpr (own_ltDown mo748 u1175_2_1))).2.1) k) ?_
      show Goes _ _ _ _ _ _ _ (T1175.setTop (mkF m 184 _ []))
      refine Goes.step (fun _ k => XS.iinc X1175.here hx rfl (hb hby at_184) rfl (l' := #[.val (.long p0), .second, .val (.long p1), .second, .val (.long p2), .second, .val (.long p3), .second, .val (.long p4), .second, .val (.int p5), .val (.int (4 : Int32)), .val (.long p0), .second, .val (.long r748), .second, .val (.long r749), .second, .val (.long r750), .second, .val (.ref b751), .val (.ref b770), .val (.int (2 : Int32)), .val (.int (1 : Int32))]) rfl k) ?_
      show Goes _ _ _ _ _ _ _ (T1175.setTop (mkF m 187 _ []))
      refine Goes.step (fun _ k => XS.iload X1175.here hx rfl (hb hby at_187) rfl  k) ?_
      refine Goes.step (fun _ k => XS.iconst X1175.here hx rfl (hb hby at_189) k) ?_
      refine Goes.step (fun _ k => XS.icmpNo X1175.here hx rfl (hb hby at_190) rfl (tlt (by decide : (1 : Int32) < (4 : Int32))).2.2.2 k) ?_
      show Goes _ _ _ _ _ _ _ (T1175.setTop (mkF m 193 _ []))
      refine Goes.step (fun _ k => XS.lload X1175.here hx rfl (hb hby at_193) rfl  k) ?_
      refine Goes.step (fun _ k => XS.lload X1175.here hx rfl (hb hby at_195) rfl  k) ?_
      refine Goes.step (fun _ k => XS.lcmp X1175.here hx rfl (hb hby at_197) rfl k) ?_
      show Goes _ _ _ _ _ _ _ (T1175.setTop (mkF m 198 #[.val (.long p0), .second, .val (.long p1), .second, .val (.long p2), .second, .val (.long p3), .second, .val (.long p4), .second, .val (.int p5), .val (.int (4 : Int32)), .val (.long p0), .second, .val (.long r748), .second, .val (.long r749), .second, .val (.long r750), .second, .val (.ref b751), .val (.ref b770), .val (.int (2 : Int32)), .val (.int (1 : Int32))] [(.int (lcmpW r748 p4))]))
      refine Goes.step (fun _ k => XS.ifNo X1175.here hx rfl (hb hby at_198) rfl ((if0 _ _).trans (tlt ((lw_lt _ _).mpr u1175_2_1)).2.1) k) ?_
      show Goes _ _ _ _ _ _ _ (T1175.setTop (mkF m 201 _ []))
      refine Goes.step (fun _ k => XS.iinc X1175.here hx rfl (hb hby at_201) rfl (l' := #[.val (.long p0), .second, .val (.long p1), .second, .val (.long p2), .second, .val (.long p3), .second, .val (.long p4), .second, .val (.int p5), .val (.int (4 : Int32)), .val (.long p0), .second, .val (.long r748), .second, .val (.long r749), .second, .val (.long r750), .second, .val (.ref b751), .val (.ref b770), .val (.int (2 : Int32)), .val (.int (2 : Int32))]) rfl k) ?_
      show Goes _ _ _ _ _ _ _ (T1175.setTop (mkF m 204 _ []))
      refine Goes.step (fun _ k => XS.iload X1175.here hx rfl (hb hby at_204) rfl  k) ?_
      refine Goes.step (fun _ k => XS.iconst X1175.here hx rfl (hb hby at_206) k) ?_
      refine Goes.step (fun _ k => XS.icmpNo X1175.here hx rfl (hb hby at_207) rfl (tlt (by decide : (2 : Int32) < (4 : Int32))).2.2.2 k) ?_
      show Goes _ _ _ _ _ _ _ (T1175.setTop (mkF m 210 _ []))
      refine Goes.step (fun _ k => XS.lload X1175.here hx rfl (hb hby at_210) rfl  k) ?_
      refine Goes.step (fun _ k => XS.lload X1175.here hx rfl (hb hby at_212) rfl  k) ?_
      refine Goes.step (fun _ k => XS.lcmp X1175.here hx rfl (hb hby at_214) rfl k) ?_
      show Goes _ _ _ _ _ _ _ (T1175.setTop (mkF m 215 _ [(.int (lcmpW r749 p4))]))
      refine Goes.step (fun _ k => XS.ifYes X1175.here hx rfl (pc0 := 215) (pc' := 221) rfl (hb hby at_215) rfl ((if0 _ _).trans (flt (fun q => u1175_2_0 ((lw_lt _ _).mp q))).2.1) (by decide) (by decide) k) ?_
      show Goes _ _ _ _ _ _ _ (T1175.setTop (mkF m 221 _ []))
      refine Goes.step (fun _ k => XS.iload X1175.here hx rfl (hb hby at_221) rfl  k) ?_
      refine Goes.step (fun _ k => XS.iconst X1175.here hx rfl (hb hby at_223) k) ?_
      refine Goes.step (fun _ k => XS.icmpNo X1175.here hx rfl (hb hby at_224) rfl (tlt (by decide : (3 : Int32) < (4 : Int32))).2.2.2 k) ?_
      show Goes _ _ _ _ _ _ _ (T1175.setTop (mkF m 227 _ []))
      refine Goes.step (fun _ k => XS.lload X1175.here hx rfl (hb hby at_227) rfl  k) ?_
      refine Goes.step (fun _ k => XS.lload X1175.here hx rfl (hb hby at_229) rfl  k) ?_
      refine Goes.step (fun _ k => XS.lcmp X1175.here hx rfl (hb hby at_231) rfl k) ?_
      show Goes _ _ _ _ _ _ _ (T1175.setTop (mkF m 232 #[.val (.long p0), .second, .val (.long p1), .second, .val (.long p2), .second, .val (.long p3), .second, .val (.long p4), .second, .val (.int p5), .val (.int (4 : Int32)), .val (.long p0), .second, .val (.long r748), .second, .val (.long r749), .second, .val (.long r750), .second, .val (.ref b751), .val (.ref b770), .val (.int (2 : Int32)), .val (.int (2 : Int32))] [(.int (lcmpW r750 p4))]))
      refine Goes.step (fun _ k => XS.ifYes X1175.here hx rfl (pc0 := 232) (pc' := 238) rfl (hb hby at_232) rfl ((if0 _ _).trans (flt (fun q => (own_ltUp mo750 u1175_2_0) ((lw_lt _ _).mp q))).2.1) (by decide) (by decide) k) ?_
      show Goes _ _ _ _ _ _ _ (T1175.setTop (mkF m 238 _ []))
      refine Goes.step (fun _ k => XS.iload X1175.here hx rfl (hb hby at_238) rfl  k) ?_
      refine Goes.step (fun _ k => XS.iload X1175.here hx rfl (hb hby at_240) rfl  k) ?_
      refine Goes.step (fun _ k => XS.icmpNo X1175.here hx rfl (hb hby at_242) rfl (teq (by decide : (2 : Int32) = (2 : Int32))).2 k) ?_
      show Goes _ _ _ _ _ _ _ (T1175.setTop (mkF m 245 _ []))
      refine Goes.step (fun _ k => XS.iconst X1175.here hx rfl (hb hby at_245) k) ?_
      refine Goes.step (fun _ k => XS.goto X1175.here hx rfl (pc0 := 246) (pc' := 250) rfl (hb hby at_246) (by decide) (by decide) k) ?_
      show Goes _ _ _ _ _ _ _ (T1175.setTop (mkF m 250 _ [(.int (1 : Int32))]))
      exact Goes.ret X1175 hx (BodyLoose.notSynchronized Bd) Bd.returns rfl (Or.inl ⟨rfl, by simp, _, rfl⟩) (hb hby at_250) (by show Q0 Z p0 p1 p2 p3 p4 p5 de kde ee mr h0 n0 (some (.int (1 : Int32))) T1175.heap _; rw [KK1175]; exact ⟨rfl, NA1175⟩) (by decide) (by decide)
    · refine Goes.back st1175 ?_
      show Goes _ _ _ _ _ _ _ (T1175.setTop (mkF m 166 _ [(.int (1 : Int32))]))
      refine Goes.step (fun _ k => XS.istore X1175.here hx rfl (hb hby at_166) rfl (l' := #[.val (.long p0), .second, .val (.long p1), .second, .val (.long p2), .second, .val (.long p3), .second, .val (.long p4), .second, .val (.int p5), .val (.int (4 : Int32)), .val (.long p0), .second, .val (.long r748), .second, .val (.long r749), .second, .val (.long r750), .second, .val (.ref b751), .val (.ref b770), .val (.int (1 : Int32)), .unset]) rfl k) ?_
      show Goes _ _ _ _ _ _ _ (T1175.setTop (mkF m 168 #[.val (.long p0), .second, .val (.long p1), .second, .val (.long p2), .second, .val (.long p3), .second, .val (.long p4), .second, .val (.int p5), .val (.int (4 : Int32)), .val (.long p0), .second, .val (.long r748), .second, .val (.long r749), .second, .val (.long r750), .second, .val (.ref b751), .val (.ref b770), .val (.int (1 : Int32)), .unset] []))
      refine Goes.step (fun _ k => XS.iconst X1175.here hx rfl (hb hby at_168) k) ?_
      refine Goes.step (fun _ k => XS.istore X1175.here hx rfl (hb hby at_169) rfl (l' := #[.val (.long p0), .second, .val (.long p1), .second, .val (.long p2), .second, .val (.long p3), .second, .val (.long p4), .second, .val (.int p5), .val (.int (4 : Int32)), .val (.long p0), .second, .val (.long r748), .second, .val (.long r749), .second, .val (.long r750), .second, .val (.ref b751), .val (.ref b770), .val (.int (1 : Int32)), .val (.int (0 : Int32))]) rfl k) ?_
      show Goes _ _ _ _ _ _ _ (T1175.setTop (mkF m 171 _ []))
      refine Goes.step (fun _ k => XS.iload X1175.here hx rfl (hb hby at_171) rfl  k) ?_
      refine Goes.step (fun _ k => XS.ifNo X1175.here hx rfl (hb hby at_173) rfl ((if0 _ _).trans (tlt (by decide : (0 : Int32) < (4 : Int32))).2.2.2) k) ?_
      show Goes _ _ _ _ _ _ _ (T1175.setTop (mkF m 176 _ []))
      refine Goes.step (fun _ k => XS.lload X1175.here hx rfl (hb hby at_176) rfl  k) ?_
      refine Goes.step (fun _ k => XS.lload X1175.here hx rfl (hb hby at_178) rfl  k) ?_
      refine Goes.step (fun _ k => XS.lcmp X1175.here hx rfl (hb hby at_180) rfl k) ?_
      show Goes _ _ _ _ _ _ _ (T1175.setTop (mkF m 181 _ [(.int (lcmpW p0 p4))]))
      refine Goes.step (fun _ k => XS.ifNo X1175.here hx rfl (hb hby at_181) rfl ((if0 _ _).trans (tlt ((lw_lt _ _).mpr u1175_3_2)).2.1) k) ?_
      show Goes _ _ _ _ _ _ _ (T1175.setTop (mkF m 184 _ []))
      refine Goes.step (fun _ k => XS.iinc X1175.here hx rfl (hb hby at_184) rfl (l' := #[.val (.long p0), .second, .val (.long p1), .second, .val (.long p2), .second, .val (.long p3), .second, .val (.long p4), .second, .val (.int p5), .val (.int (4 : Int32)), .val (.long p0), .second, .val (.long r748), .second, .val (.long r749), .second, .val (.long r750), .second, .val (.ref b751), .val (.ref b770), .val (.int (1 : Int32)), .val (.int (1 : Int32))]) rfl k) ?_
      show Goes _ _ _ _ _ _ _ (T1175.setTop (mkF m 187 _ []))
      refine Goes.step (fun _ k => XS.iload X1175.here hx rfl (hb hby at_187) rfl  k) ?_
      refine Goes.step (fun _ k => XS.iconst X1175.here hx rfl (hb hby at_189) k) ?_
      refine Goes.step (fun _ k => XS.icmpNo X1175.here hx rfl (hb hby at_190) rfl (tlt (by decide : (1 : Int32) < (4 : Int32))).2.2.2 k) ?_
      show Goes _ _ _ _ _ _ _ (T1175.setTop (mkF m 193 _ []))
      refine Goes.step (fun _ k => XS.lload X1175.here hx rfl (hb hby at_193) rfl  k) ?_
      refine Goes.step (fun _ k => XS.lload X1175.here hx rfl (hb hby at_195) rfl  k) ?_
      refine Goes.step (fun _ k => XS.lcmp X1175.here hx rfl (hb hby at_197) rfl k) ?_
      show Goes _ _ _ _ _ _ _ (T1175.setTop (mkF m 198 #[.val (.long p0), .second, .val (.long p1), .second, .val (.long p2), .second, .val (.long p3), .second, .val (.long p4), .second, .val (.int p5), .val (.int (4 : Int32)), .val (.long p0), .second, .val (.long r748), .second, .val (.long r749), .second, .val (.long r750), .second, .val (.ref b751), .val (.ref b770), .val (.int (1 : Int32)), .val (.int (1 : Int32))] [(.int (lcmpW r748 p4))]))
      refine Goes.step (fun _ k => XS.ifYes X1175.here hx rfl (pc0 := 198) (pc' := 204) rfl (hb hby at_198) rfl ((if0 _ _).trans (flt (fun q => u1175_3_1 ((lw_lt _ _).mp q))).2.1) (by decide) (by decide) k) ?_
      show Goes _ _ _ _ _ _ _ (T1175.setTop (mkF m 204 _ []))
      refine Goes.step (fun _ k => XS.iload X1175.here hx rfl (hb hby at_204) rfl  k) ?_
      refine Goes.step (fun _ k => XS.iconst X1175.here hx rfl (hb hby at_206) k) ?_
      refine Goes.step (fun _ k => XS.icmpNo X1175.here hx rfl (hb hby at_207) rfl (tlt (by decide : (2 : Int32) < (4 : Int32))).2.2.2 k) ?_
      show Goes _ _ _ _ _ _ _ (T1175.setTop (mkF m 210 _ []))
      refine Goes.step (fun _ k => XS.lload X1175.here hx rfl (hb hby at_210) rfl  k) ?_
      refine Goes.step (fun _ k => XS.lload X1175.here hx rfl (hb hby at_212) rfl  k) ?_
      refine Goes.step (fun _ k => XS.lcmp X1175.here hx rfl (hb hby at_214) rfl k) ?_
      show Goes _ _ _ _ _ _ _ (T1175.setTop (mkF m 215 _ [(.int (lcmpW r749 p4))]))
      refine Goes.step (fun _ k => XS.ifYes X1175.here hx rfl (pc0 := 215) (pc' := 221) rfl (hb hby at_215) rfl ((if0 _ _).trans (flt (fun q => u1175_3_0 ((lw_lt _ _).mp q))).2.1) (by decide) (by decide) k) ?_
      show Goes _ _ _ _ _ _ _ (T1175.setTop (mkF m 221 _ []))
      refine Goes.step (fun _ k => XS.iload X1175.here hx rfl (hb hby at_221) rfl  k) ?_
      refine Goes.step (fun _ k => XS.iconst X1175.here hx rfl (hb hby at_223) k) ?_
      refine Goes.step (fun _ k => XS.icmpNo X1175.here hx rfl (hb hby at_224) rfl (tlt (by decide : (3 : Int32) < (4 : Int32))).2.2.2 k) ?_
      show Goes _ _ _ _ _ _ _ (T1175.setTop (mkF m 227 _ []))
      refine Goes.step (fun _ k => XS.lload X1175.here hx rfl (hb hby at_227) rfl  k) ?_
      refine Goes.step (fun _ k => XS.lload X1175.here hx rfl (hb hby at_229) rfl  k) ?_
      refine Goes.step (fun _ k => XS.lcmp X1175.here hx rfl (hb hby at_231) rfl k) ?_
      show Goes _ _ _ _ _ _ _ (T1175.setTop (mkF m 232 _ [(.int (lcmpW r750 p4))]))
      refine Goes.step (fun _ k => XS.ifYes X1175.here hx rfl (pc0 := 232) (pc' := 238) rfl (hb hby at_232) rfl ((if0 _ _).trans (flt (fun q => (own_ltUp (own_tr mo749 mo750) u1175_3_1) ((lw_lt _ _).mp q))).2.1) (by decide) (by decide) k) ?_
      show Goes _ _ _ _ _ _ _ (T1175.setTop (mkF m 238 #[.val (.long p0), .second, .val (.long p1), .second, .val (.long p2), .second, .val (.long p3), .second, .val (.long p4), .second, .val (.int p5), .val (.int (4 : Int32)), .val (.long p0), .second, .val (.long r748), .second, .val (.long r749), .second, .val (.long r750), .second, .val (.ref b751), .val (.ref b770), .val (.int (1 : Int32)), .val (.int (1 : Int32))] []))
      refine Goes.step (fun _ k => XS.iload X1175.here hx rfl (hb hby at_238) rfl  k) ?_
      refine Goes.step (fun _ k => XS.iload X1175.here hx rfl (hb hby at_240) rfl  k) ?_
      refine Goes.step (fun _ k => XS.icmpNo X1175.here hx rfl (hb hby at_242) rfl (teq (by decide : (1 : Int32) = (1 : Int32))).2 k) ?_
      show Goes _ _ _ _ _ _ _ (T1175.setTop (mkF m 245 _ []))
      refine Goes.step (fun _ k => XS.iconst X1175.here hx rfl (hb hby at_245) k) ?_
      refine Goes.step (fun _ k => XS.goto X1175.here hx rfl (pc0 := 246) (pc' := 250) rfl (hb hby at_246) (by decide) (by decide) k) ?_
      show Goes _ _ _ _ _ _ _ (T1175.setTop (mkF m 250 _ [(.int (1 : Int32))]))
      exact Goes.ret X1175 hx (BodyLoose.notSynchronized Bd) Bd.returns rfl (Or.inl ⟨rfl, by simp, _, rfl⟩) (hb hby at_250) (by show Q0 Z p0 p1 p2 p3 p4 p5 de kde ee mr h0 n0 (some (.int (1 : Int32))) T1175.heap _; rw [KK1175]; exact ⟨rfl, NA1175⟩) (by decide) (by decide)
    · refine Goes.back st1175 ?_
      show Goes _ _ _ _ _ _ _ (T1175.setTop (mkF m 166 _ [(.int (0 : Int32))]))
      refine Goes.step (fun _ k => XS.istore X1175.here hx rfl (hb hby at_166) rfl (l' := #[.val (.long p0), .second, .val (.long p1), .second, .val (.long p2), .second, .val (.long p3), .second, .val (.long p4), .second, .val (.int p5), .val (.int (4 : Int32)), .val (.long p0), .second, .val (.long r748), .second, .val (.long r749), .second, .val (.long r750), .second, .val (.ref b751), .val (.ref b770), .val (.int (0 : Int32)), .unset]) rfl k) ?_
      show Goes _ _ _ _ _ _ _ (T1175.setTop (mkF m 168 #[.val (.long p0), .second, .val (.long p1), .second, .val (.long p2), .second, .val (.long p3), .second, .val (.long p4), .second, .val (.int p5), .val (.int (4 : Int32)), .val (.long p0), .second, .val (.long r748), .second, .val (.long r749), .second, .val (.long r750), .second, .val (.ref b751), .val (.ref b770), .val (.int (0 : Int32)), .unset] []))
      refine Goes.step (fun _ k => XS.iconst X1175.here hx rfl (hb hby at_168) k) ?_
      refine Goes.step (fun _ k => XS.istore X1175.here hx rfl (hb hby at_169) rfl (l' := #[.val (.long p0), .second, .val (.long p1), .second, .val (.long p2), .second, .val (.long p3), .second, .val (.long p4), .second, .val (.int p5), .val (.int (4 : Int32)), .val (.long p0), .second, .val (.long r748), .second, .val (.long r749), .second, .val (.long r750), .second, .val (.ref b751), .val (.ref b770), .val (.int (0 : Int32)), .val (.int (0 : Int32))]) rfl k) ?_
      show Goes _ _ _ _ _ _ _ (T1175.setTop (mkF m 171 _ []))
      refine Goes.step (fun _ k => XS.iload X1175.here hx rfl (hb hby at_171) rfl  k) ?_
      refine Goes.step (fun _ k => XS.ifNo X1175.here hx rfl (hb hby at_173) rfl ((if0 _ _).trans (tlt (by decide : (0 : Int32) < (4 : Int32))).2.2.2) k) ?_
      show Goes _ _ _ _ _ _ _ (T1175.setTop (mkF m 176 _ []))
      refine Goes.step (fun _ k => XS.lload X1175.here hx rfl (hb hby at_176) rfl  k) ?_
      refine Goes.step (fun _ k => XS.lload X1175.here hx rfl (hb hby at_178) rfl  k) ?_
      refine Goes.step (fun _ k => XS.lcmp X1175.here hx rfl (hb hby at_180) rfl k) ?_
      show Goes _ _ _ _ _ _ _ (T1175.setTop (mkF m 181 _ [(.int (lcmpW p0 p4))]))
      refine Goes.step (fun _ k => XS.ifYes X1175.here hx rfl (pc0 := 181) (pc' := 187) rfl (hb hby at_181) rfl ((if0 _ _).trans (flt (fun q => u1175_4_2 ((lw_lt _ _).mp q))).2.1) (by decide) (by decide) k) ?_
      show Goes _ _ _ _ _ _ _ (T1175.setTop (mkF m 187 _ []))
      refine Goes.step (fun _ k => XS.iload X1175.here hx rfl (hb hby at_187) rfl  k) ?_
      refine Goes.step (fun _ k => XS.iconst X1175.here hx rfl (hb hby at_189) k) ?_
      refine Goes.step (fun _ k => XS.icmpNo X1175.here hx rfl (hb hby at_190) rfl (tlt (by decide : (1 : Int32) < (4 : Int32))).2.2.2 k) ?_
      show Goes _ _ _ _ _ _ _ (T1175.setTop (mkF m 193 _ []))
      refine Goes.step (fun _ k => XS.lload X1175.here hx rfl (hb hby at_193) rfl  k) ?_
      refine Goes.step (fun _ k => XS.lload X1175.here hx rfl (hb hby at_195) rfl  k) ?_
      refine Goes.step (fun _ k => XS.lcmp X1175.here hx rfl (hb hby at_197) rfl k) ?_
      show Goes _ _ _ _ _ _ _ (T1175.setTop (mkF m 198 _ [(.int (lcmpW r748 p4))]))
      refine Goes.step (fun _ k => XS.ifYes X1175.here hx rfl (pc0 := 198) (pc' := 204) rfl (hb hby at_198) rfl ((if0 _ _).trans (flt (fun q => u1175_4_1 ((lw_lt _ _).mp q))).2.1) (by decide) (by decide) k) ?_
      show Goes _ _ _ _ _ _ _ (T1175.setTop (mkF m 204 #[.val (.long p0), .second, .val (.long p1), .second, .val (.long p2), .second, .val (.long p3), .second, .val (.long p4), .second, .val (.int p5), .val (.int (4 : Int32)), .val (.long p0), .second, .val (.long r748), .second, .val (.long r749), .second, .val (.long r750), .second, .val (.ref b751), .val (.ref b770), .val (.int (0 : Int32)), .val (.int (0 : Int32))] []))
      refine Goes.step (fun _ k => XS.iload X1175.here hx rfl (hb hby at_204) rfl  k) ?_
      refine Goes.step (fun _ k => XS.iconst X1175.here hx rfl (hb hby at_206) k) ?_
      refine Goes.step (fun _ k => XS.icmpNo X1175.here hx rfl (hb hby at_207) rfl (tlt (by decide : (2 : Int32) < (4 : Int32))).2.2.2 k) ?_
      show Goes _ _ _ _ _ _ _ (T1175.setTop (mkF m 210 _ []))
      refine Goes.step (fun _ k => XS.lload X1175.here hx rfl (hb hby at_210) rfl  k) ?_
      refine Goes.step (fun _ k => XS.lload X1175.here hx rfl (hb hby at_212) rfl  k) ?_
      refine Goes.step (fun _ k => XS.lcmp X1175.here hx rfl (hb hby at_214) rfl k) ?_
      show Goes _ _ _ _ _ _ _ (T1175.setTop (mkF m 215 _ [(.int (lcmpW r749 p4))]))
      refine Goes.step (fun _ k => XS.ifYes X1175.here hx rfl (pc0 := 215) (pc' := 221) rfl (hb hby at_215) rfl ((if0 _ _).trans (flt (fun q => u1175_4_0 ((lw_lt _ _).mp q))).2.1) (by decide) (by decide) k) ?_
      show Goes _ _ _ _ _ _ _ (T1175.setTop (mkF m 221 _ []))
      refine Goes.step (fun _ k => XS.iload X1175.here hx rfl (hb hby at_221) rfl  k) ?_
      refine Goes.step (fun _ k => XS.iconst X1175.here hx rfl (hb hby at_223) k) ?_
      refine Goes.step (fun _ k => XS.icmpNo X1175.here hx rfl (hb hby at_224) rfl (tlt (by decide : (3 : Int32) < (4 : Int32))).2.2.2 k) ?_
      show Goes _ _ _ _ _ _ _ (T1175.setTop (mkF m 227 _ []))
      refine Goes.step (fun _ k => XS.lload X1175.here hx rfl (hb hby at_227) rfl  k) ?_
      refine Goes.step (fun _ k => XS.lload X1175.here hx rfl (hb hby at_229) rfl  k) ?_
      refine Goes.step (fun _ k => XS.lcmp X1175.here hx rfl (hb hby at_231) rfl k) ?_
      show Goes _ _ _ _ _ _ _ (T1175.setTop (mkF m 232 _ [(.int (lcmpW r750 p4))]))
      refine Goes.step (fun _ k => XS.ifYes X1175.here hx rfl (pc0 := 232) (pc' := 238) rfl (hb hby at_232) rfl ((if0 _ _).trans (flt (fun q => (own_ltUp (own_tr (own_tr mo748 mo749) mo750) u1175_4_2) ((lw_lt _ _).mp q))).2.1) (by decide) (by decide) k) ?_
      show Goes _ _ _ _ _ _ _ (T1175.setTop (mkF m 238 _ []))
      refine Goes.step (fun _ k => XS.iload X1175.here hx rfl (hb hby at_238) rfl  k) ?_
      refine Goes.step (fun _ k => XS.iload X1175.here hx rfl (hb hby at_240) rfl  k) ?_
      refine Goes.step (fun _ k => XS.icmpNo X1175.here hx rfl (hb hby at_242) rfl (teq (by decide : (0 : Int32) = (0 : Int32))).2 k) ?_
      show Goes _ _ _ _ _ _ _ (T1175.setTop (mkF m 245 #[.val (.long p0), .second, .val (.long p1), .second, .val (.long p2), .second, .val (.long p3), .second, .val (.long p4), .second, .val (.int p5), .val (.int (4 : Int32)), .val (.long p0), .second, .val (.long r748), .second, .val (.long r749), .second, .val (.long r750), .second, .val (.ref b751), .val (.ref b770), .val (.int (0 : Int32)), .val (.int (0 : Int32))] []))
      refine Goes.step (fun _ k => XS.iconst X1175.here hx rfl (hb hby at_245) k) ?_
      refine Goes.step (fun _ k => XS.goto X1175.here hx rfl (pc0 := 246) (pc' := 250) rfl (hb hby at_246) (by decide) (by decide) k) ?_
      show Goes _ _ _ _ _ _ _ (T1175.setTop (mkF m 250 _ [(.int (1 : Int32))]))
      exact Goes.ret X1175 hx (BodyLoose.notSynchronized Bd) Bd.returns rfl (Or.inl ⟨rfl, by simp, _, rfl⟩) (hb hby at_250) (by show Q0 Z p0 p1 p2 p3 p4 p5 de kde ee mr h0 n0 (some (.int (1 : Int32))) T1175.heap _; rw [KK1175]; exact ⟨rfl, NA1175⟩) (by decide) (by decide)
set_option maxRecDepth 65536 in
set_option maxHeartbeats 40000000 in
theorem comes_1 {Post : Tables → Env → Array Value → State → Outcome → State → Prop} (hpost : ∀ tb e args s v u, (limb_1_1.after args s (.returned v) u = true ∧ limb_1_2.after args s (.returned v) u = true ∧ True) → FrameEnd s (.returned v) u (Jvm.fieldLocs frame_1_writes args s ++ Jvm.arrayLocs frame_1_arrays args s ++ Jvm.staticLocs frame_1_statics s) 48 192 → Post tb e args s (.returned v) u) :
    ArmFor flags0 classFile x code maxLocals ret World_1 tables_1 room_1 Calls_1 rest_1 Pre_1 Post := by
  intro l hfl _ _ p e ha hc hk s m args below hf hA hF happ hP
  obtain ⟨hcalls, hrest, hpre⟩ := hP
  obtain ⟨-, -, -, hnamed, -, -, -, hat⟩ := (Spec.applies_iff hf).mp happ
  obtain ⟨hg, hn⟩ := and_e (Cond.before_iff.mp (show (Jvm.Cond.and given_1 narrow_1).before args s = true from hpre))
  obtain ⟨gg1, gg2⟩ := and_e hg
  obtain ⟨gg3, gg4⟩ := and_e gg2
  obtain ⟨gg5, gg6⟩ := and_e gg4
  obtain ⟨gg7, gg8⟩ := and_e gg6
  obtain ⟨gg9, gg10⟩ := and_e gg8
  obtain ⟨gg11, gg12⟩ := and_e gg10
  obtain ⟨w0, w1, w2, w3, w4, w5, rfl⟩ : ∃ w0 w1 w2 w3 w4 w5 : Value, args = #[w0, w1, w2, w3, w4, w5] := by
    have hs : args.size = 6 := by simpa [Cond.value, given_1] using gg1
    obtain ⟨L⟩ := args
    match L, hs with
    | [w0, w1, w2, w3, w4, w5], _ => exact ⟨w0, w1, w2, w3, w4, w5, rfl⟩
  have hw := fun d (hd : d ∈ tables_1) => atoms_spec (ws := Jvm.Cond.code x code maxLocals ret :: tables_1) hat d (List.mem_cons_of_mem _ hd)
  have hfit : Fit s := fun {y c} hc i hi => by
    obtain ⟨ha, rfl⟩ := Array.getElem?_eq_some_iff.mp hc
    have q := List.all_eq_true.mp ((Array.all_eq_true_iff_forall_mem.mp hF) _ (Array.getElem_mem ha)) i (List.mem_range.mpr hi)
    simpa [Array.getElem?_eq_getElem hi] using q
  obtain ⟨hsets, hown0⟩ := atoms_of _ (rest_1_c_eq ▸ (show rest_1_c.before _ s = true from hrest))
  have hr0 := Cond.before_iff.mp hown0
  obtain ⟨i0, ei0⟩ := isL_v gg3
  obtain rfl : w0 = (.long i0) := Option.some.inj ei0
  obtain ⟨i1, ei1⟩ := isL_v gg5
  obtain rfl : w1 = (.long i1) := Option.some.inj ei1
  obtain ⟨i2, ei2⟩ := isL_v gg7
  obtain rfl : w2 = (.long i2) := Option.some.inj ei2
  obtain ⟨i3, ei3⟩ := isL_v gg9
  obtain rfl : w3 = (.long i3) := Option.some.inj ei3
  obtain ⟨i4, ei4⟩ := isL_v gg11
  obtain rfl : w4 = (.long i4) := Option.some.inj ei4
  obtain ⟨i5, ei5⟩ := is_v gg12
  obtain rfl : w5 = (.int i5) := Option.some.inj ei5
  have jar := Cond.before_iff.mp (hsets _ (List.mem_of_getElem? (i := 6) rfl))
  obtain ⟨de, ede⟩ := arr_v jar
  have S_DE := Sta.start ede (Or.inr ⟨(hw _ (List.mem_of_getElem? (i := 21) rfl)), (hsets _ (List.mem_of_getElem? (i := 2) rfl))⟩)
  obtain ⟨cde, Ade⟩ := Arr.start ede jar
  have V_de := own_arx0 hfit ede Ade (own_eqInt (Cond.before_iff.mp (hsets _ (List.mem_of_getElem? (i := 8) rfl)))) (by decide)
  have E_de := Exa.start ede (Cond.before_iff.mp (hsets _ (List.mem_of_getElem? (i := 7) rfl)))
  have jar2 := Cond.before_iff.mp (hsets _ (List.mem_of_getElem? (i := 3) rfl))
  obtain ⟨ee, eee⟩ := arr_v jar2
  have S_EE := Sta.start eee (Or.inr ⟨(hw _ (List.mem_of_getElem? (i := 21) rfl)), (hsets _ (List.mem_of_getElem? (i := 0) rfl))⟩)
  obtain ⟨cM, kM, mr, mq1, mq2, mq3⟩ := hcalls.1
  have MR : MirO s "[Ljava/lang/Object;" mr := ⟨cM, kM, mq1, mq2, mq3.1⟩
  obtain ⟨n, o, h1, h2, h3, _, L, rfl, ⟨rfl, N⟩, hq⟩ := rm0 l s _ hw tables_1 i0 i1 i2 i3 i4 i5 de _ ee mr s.heap s.heap.size (Nat.le_refl _) S_DE S_EE V_de E_de MR (Old.start s) p e ha hc hk s m _ below hf ((Spec.applies_iff_loose hf).mp happ).1 ⟨rfl, State.Warmed39.refl s, rfl⟩ trivial
  refine ⟨n, _, h1, h2, h3, hpost _ _ _ _ _ _ ⟨Cond.after_iff.mpr rfl, Cond.after_iff.mpr (eq_i res_at (Term.int_eval (1)) rfl), trivial⟩ ⟨hq.1, hq.2.1, (hq.2.2.sift fun y hy => Or.inr (N y hy)).mono (by decide) (by decide)⟩⟩
theorem main_1_1 : Claimed_1_1 := comes_1 fun _ _ _ _ _ _ h hF => ⟨h.1, hF⟩
theorem main_1_2 : Claimed_1_2 := comes_1 fun _ _ _ _ _ _ h hF => ⟨h.2.1, hF⟩
end Jvm.Pilot.@@N@@
namespace Jvm.Pilot.@@N@@
open Jvm Jvm.ClassFile Sem Op Lib Jvm.Free Jvm.Stand Jvm.Pilot.@@N@@.Jvm.D
/-! MADE BY PROGRAM (witnessworld.py) out of the Statement's table words and the real class files: 25 classes; the members and pool entries that the words name. The judged class is class 1, her method 1. -/
namespace start1
open Jvm.ClassFile
def u (s : String) : CpInfo := .utf8 (stringToUtf16 s)
/-- a pool by its gaps: so many unusable entries, then the entry; so many at the end -/
def gap : Nat → List CpInfo → List CpInfo
  | 0, r => r
  | n + 1, r => .unusable :: gap n r
def poolList (es : List (Nat × CpInfo)) (last : Nat) : List CpInfo := es.foldr (fun e r => gap e.1 (e.2 :: r)) (gap last [])
def pool (es : List (Nat × CpInfo)) (last : Nat) : Array CpInfo := ⟨poolList es last⟩
def fileOf (pool : Array CpInfo) (this : Nat) (attrs : Array Attribute := #[]) (ms : Array MethodInfo := #[]) (fl : Nat := 33) (sup : Nat := 0) (ifs : Array Nat := #[]) (fds : Array FieldInfo := #[]) : ClassFile where
  minorVersion := 0
  majorVersion := 65
  constantPool := pool
  accessFlags := fl
  thisClass := this
  superClass := sup
  interfaces := ifs
  fields := fds
  methods := ms
  attributes := attrs
def plain (name : String) (sup : Option ClassId) : Class where
  name := name
  kind := .ordinary
  loader := none
  accessFlags := 33
  super := sup
  interfaces := #[]
  cf := none
  fields := #[]
  methods := #[]
  instanceTypes := #[]
  staticTypes := #[]
  resolved := #[]
  callSites := []
  init := .initialized
  statics := none
  mirror := none

def pool0 : Array CpInfo := pool [(5, u "<init>"), (0, u "()V"), (1, .class_ 10), (1, u "java/lang/Object"), (0, u "getClass"), (0, u "()Ljava/lang/Class;")] 111

def k0c0 : Code := { maxStack := 0, maxLocals := 1, code := object_method_1_code, exceptionTable := #[], attributes := #[] }
def k0m0 : Method := { name := "<init>", desc := "()V", sig := { parameters := [], returnType := none }, accessFlags := 1, code := some k0c0 }
def k0m1 : Method := { name := "getClass", desc := "()Ljava/lang/Class;", sig := { parameters := [], returnType := some (.object "java/lang/Class") }, accessFlags := 273, code := none }
/-- java/lang/Object -/
def k0 : Class := { plain "java/lang/Object" none with
  accessFlags := 33
  interfaces := #[]
  cf := some (fileOf pool0 8 #[] #[{ accessFlags := 1, nameIndex := 5, descriptorIndex := 6, attributes := #[] }, { accessFlags := 273, nameIndex := 11, descriptorIndex := 12, attributes := #[] }] 33 0 #[] #[])
  fields := #[]
  methods := #[k0m0, k0m1]
  instanceTypes := #[]
  staticTypes := #[]
  resolved := Array.replicate 124 none
  statics := none }

def pool1 : Array CpInfo := pool [(2, .class_ 4), (0, .nameAndType 5 6), (0, u "java/lang/Object"), (0, u "<init>"), (0, u "()V"), (0, .integer 2147483647), (0, .methodref 9 10), (0, .class_ 11), (0, .nameAndType 12 13), (0, u "com/example/orbitloom/orbitloom/core/TimelineFirstStartingFromPinLaw"), (0, u "step"), (0, u "(JJ)J"), (0, .class_ 15), (0, u "com/example/orbitloom/orbitloom/core/Timeline"), (0, .methodref 14 3), (0, .class_ 18), (0, u "java/util/ArrayList"), (0, .methodref 17 3), (0, .class_ 21), (0, u "com/example/orbitloom/orbitloom/core/Timeline$Entry"), (0, .methodref 20 23), (0, .nameAndType 5 24), (0, u "(JJLcom/example/orbitloom/orbitloom/core/Attitude;I)V"), (0, .methodref 14 26), (0, .nameAndType 27 28), (0, u "append"), (0, u "(Lcom/example/orbitloom/orbitloom/core/Timeline$Entry;Ljava/util/List;)V"), (0, .methodref 14 30), (0, .nameAndType 31 32), (0, u "firstStartingFrom"), (0, u "(J)I"), (2, .long 9223372036854775807), (3, u "law"), (0, u "(JJJJJI)Z")] 5

def k1m0 : Method := { name := "<init>", desc := "()V", sig := { parameters := [], returnType := none }, accessFlags := 1, code := none }
def k1c1 : Code := { maxStack := 9, maxLocals := 24, code := code, exceptionTable := #[], attributes := #[] }
def k1m1 : Method := { name := "law", desc := "(JJJJJI)Z", sig := { parameters := [.long, .long, .long, .long, .long, .int], returnType := some .boolean }, accessFlags := 9, code := some k1c1 }
def k1c2 : Code := { maxStack := 6, maxLocals := 6, code := method_3_code, exceptionTable := #[], attributes := #[] }
def k1m2 : Method := { name := "step", desc := "(JJ)J", sig := { parameters := [.long, .long], returnType := some .long }, accessFlags := 10, code := some k1c2 }
/-- com/example/orbitloom/orbitloom/core/TimelineFirstStartingFromPinLaw -/
def k1 : Class := { plain "com/example/orbitloom/orbitloom/core/TimelineFirstStartingFromPinLaw" (some 0) with
  accessFlags := 49
  interfaces := #[]
  cf := some (fileOf pool1 9 #[] #[{ accessFlags := 1, nameIndex := 5, descriptorIndex := 6, attributes := #[] }, { accessFlags := 9, nameIndex := 39, descriptorIndex := 40, attributes := #[] }, { accessFlags := 10, nameIndex := 12, descriptorIndex := 13, attributes := #[] }] 49 2 #[] #[])
  fields := #[]
  methods := #[k1m0, k1m1, k1m2]
  instanceTypes := #[]
  staticTypes := #[]
  resolved := Array.replicate 46 none
  statics := none }

def pool2 : Array CpInfo := pool [(3, .methodref 4 5), (0, .class_ 6), (0, .nameAndType 7 8), (0, u "java/lang/Object"), (0, u "<init>"), (0, u "()V"), (0, .class_ 10), (0, u "com/example/orbitloom/orbitloom/core/Timeline$Entry"), (0, .fieldref 12 13), (0, .class_ 14), (0, .nameAndType 15 16), (0, u "com/example/orbitloom/orbitloom/core/Timeline"), (0, u "entries"), (0, u "[Lcom/example/orbitloom/orbitloom/core/Timeline$Entry;"), (0, .class_ 18), (0, u "java/util/ArrayList"), (0, .methodref 17 5), (0, .fieldref 12 21), (0, .nameAndType 22 23), (0, u "members"), (0, u "Ljava/util/List;"), (0, .fieldref 12 25), (0, .nameAndType 26 27), (0, u "size"), (0, u "I"), (1, .class_ 31), (1, u "java/util/List"), (2, .methodref 9 35), (0, .nameAndType 36 37), (0, u "start"), (0, u "()J"), (18, .class_ 57), (0, u "com/example/orbitloom/orbitloom/core/Timeline$Free"), (14, .class_ 74), (1, u "com/example/orbitloom/orbitloom/core/Timeline$Slot"), (6, u "firstStartingFrom"), (0, u "(J)I"), (8, .interfaceMethodref 29 92), (0, .nameAndType 93 94), (0, u "add"), (0, u "(Ljava/lang/Object;)Z"), (15, .methodref 111 112), (0, .class_ 113), (0, .nameAndType 114 115), (0, u "java/util/Arrays"), (0, u "copyOf"), (0, u "([Ljava/lang/Object;I)[Ljava/lang/Object;"), (11, .methodref 17 128), (0, .nameAndType 7 129), (0, u "(Ljava/util/Collection;)V"), (9, u "FIRST"), (0, u "Lcom/example/orbitloom/orbitloom/core/Timeline$Slot;"), (0, u "NONE"), (0, u "J"), (15, u "append"), (0, u "(Lcom/example/orbitloom/orbitloom/core/Timeline$Entry;Ljava/util/List;)V")] 29

def k2c0 : Code := { maxStack := 3, maxLocals := 1, code := prog_49_method_1_code, exceptionTable := #[], attributes := #[] }
def k2m0 : Method := { name := "<init>", desc := "()V", sig := { parameters := [], returnType := none }, accessFlags := 0, code := some k2c0 }
def k2c1 : Code := { maxStack := 4, maxLocals := 6, code := prog_49_method_5_code, exceptionTable := #[], attributes := #[] }
def k2m1 : Method := { name := "firstStartingFrom", desc := "(J)I", sig := { parameters := [.long], returnType := some .int }, accessFlags := 0, code := some k2c1 }
def k2c2 : Code := { maxStack := 4, maxLocals := 3, code := prog_49_method_12_code, exceptionTable := #[], attributes := #[] }
def k2m2 : Method := { name := "append", desc := "(Lcom/example/orbitloom/orbitloom/core/Timeline$Entry;Ljava/util/List;)V", sig := { parameters := [(.object "com/example/orbitloom/orbitloom/core/Timeline$Entry"), (.object "java/util/List")], returnType := none }, accessFlags := 0, code := some k2c2 }
/-- com/example/orbitloom/orbitloom/core/Timeline -/
def k2 : Class := { plain "com/example/orbitloom/orbitloom/core/Timeline" (some 0) with
  accessFlags := 48
  interfaces := #[]
  cf := some (fileOf pool2 12 #[.nestMembers #[56, 72, 9]] #[{ accessFlags := 0, nameIndex := 7, descriptorIndex := 8, attributes := #[] }, { accessFlags := 0, nameIndex := 81, descriptorIndex := 82, attributes := #[] }, { accessFlags := 0, nameIndex := 158, descriptorIndex := 159, attributes := #[] }] 48 4 #[] #[{ accessFlags := 24, nameIndex := 141, descriptorIndex := 142, attributes := #[] }, { accessFlags := 24, nameIndex := 139, descriptorIndex := 140, attributes := #[] }, { accessFlags := 2, nameIndex := 15, descriptorIndex := 16, attributes := #[] }, { accessFlags := 2, nameIndex := 26, descriptorIndex := 27, attributes := #[] }, { accessFlags := 18, nameIndex := 22, descriptorIndex := 23, attributes := #[] }])
  fields := #[{ name := "NONE", type := .long, accessFlags := 24, slot := 0, constantValue := 0 }, { name := "FIRST", type := (.object "com/example/orbitloom/orbitloom/core/Timeline$Slot"), accessFlags := 24, slot := 1, constantValue := 0 }, { name := "entries", type := (.array (.object "com/example/orbitloom/orbitloom/core/Timeline$Entry")), accessFlags := 2, slot := 0, constantValue := 0 }, { name := "size", type := .int, accessFlags := 2, slot := 1, constantValue := 0 }, { name := "members", type := (.object "java/util/List"), accessFlags := 18, slot := 2, constantValue := 0 }]
  methods := #[k2m0, k2m1, k2m2]
  instanceTypes := #[(.array (.object "com/example/orbitloom/orbitloom/core/Timeline$Entry")), .int, (.object "java/util/List")]
  staticTypes := #[.long, (.object "com/example/orbitloom/orbitloom/core/Timeline$Slot")]
  resolved := Array.replicate 189 none
  statics := none }

def pool3 : Array CpInfo := pool [(1, .methodref 2 3), (0, .class_ 4), (0, .nameAndType 5 6), (0, u "java/lang/Object"), (0, u "<init>"), (0, u "()V"), (0, .class_ 8), (0, u "java/lang/Record")] 13

def k3c0 : Code := { maxStack := 1, maxLocals := 1, code := jdk_30_method_1_code, exceptionTable := #[], attributes := #[] }
def k3m0 : Method := { name := "<init>", desc := "()V", sig := { parameters := [], returnType := none }, accessFlags := 4, code := some k3c0 }
/-- java/lang/Record -/
def k3 : Class := { plain "java/lang/Record" (some 0) with
  accessFlags := 1057
  interfaces := #[]
  cf := some (fileOf pool3 7 #[] #[{ accessFlags := 4, nameIndex := 5, descriptorIndex := 6, attributes := #[] }] 1057 2 #[] #[])
  fields := #[]
  methods := #[k3m0]
  instanceTypes := #[]
  staticTypes := #[]
  resolved := Array.replicate 22 none
  statics := none }

def pool4 : Array CpInfo := pool [(1, .methodref 2 3), (0, .class_ 4), (0, .nameAndType 5 6), (0, u "java/lang/Record"), (0, u "<init>"), (0, u "()V"), (0, .fieldref 8 9), (0, .class_ 10), (0, .nameAndType 11 12), (0, u "com/example/orbitloom/orbitloom/core/Timeline$Entry"), (0, u "start"), (0, u "J"), (0, .fieldref 8 14), (0, .nameAndType 15 12), (0, u "end"), (0, .fieldref 8 17), (0, .nameAndType 18 19), (0, u "attitude"), (0, u "Lcom/example/orbitloom/orbitloom/core/Attitude;"), (0, .fieldref 8 21), (0, .nameAndType 22 23), (0, u "rev"), (0, u "I"), (12, u "(JJLcom/example/orbitloom/orbitloom/core/Attitude;I)V"), (6, u "()J"), (4, .class_ 49), (0, u "com/example/orbitloom/orbitloom/core/Timeline")] 22

def k4c0 : Code := { maxStack := 3, maxLocals := 7, code := prog_50_method_1_code, exceptionTable := #[], attributes := #[] }
def k4m0 : Method := { name := "<init>", desc := "(JJLcom/example/orbitloom/orbitloom/core/Attitude;I)V", sig := { parameters := [.long, .long, (.object "com/example/orbitloom/orbitloom/core/Attitude"), .int], returnType := none }, accessFlags := 0, code := some k4c0 }
def k4c1 : Code := { maxStack := 2, maxLocals := 1, code := prog_50_method_5_code, exceptionTable := #[], attributes := #[] }
def k4m1 : Method := { name := "start", desc := "()J", sig := { parameters := [], returnType := some .long }, accessFlags := 1, code := some k4c1 }
/-- com/example/orbitloom/orbitloom/core/Timeline$Entry -/
def k4 : Class := { plain "com/example/orbitloom/orbitloom/core/Timeline$Entry" (some 3) with
  accessFlags := 48
  interfaces := #[]
  cf := some (fileOf pool4 8 #[.nestHost 48] #[{ accessFlags := 0, nameIndex := 5, descriptorIndex := 36, attributes := #[] }, { accessFlags := 1, nameIndex := 11, descriptorIndex := 43, attributes := #[] }] 48 2 #[] #[{ accessFlags := 18, nameIndex := 11, descriptorIndex := 12, attributes := #[] }, { accessFlags := 18, nameIndex := 15, descriptorIndex := 12, attributes := #[] }, { accessFlags := 18, nameIndex := 18, descriptorIndex := 19, attributes := #[] }, { accessFlags := 18, nameIndex := 22, descriptorIndex := 23, attributes := #[] }])
  fields := #[{ name := "start", type := .long, accessFlags := 18, slot := 0, constantValue := 0 }, { name := "end", type := .long, accessFlags := 18, slot := 1, constantValue := 0 }, { name := "attitude", type := (.object "com/example/orbitloom/orbitloom/core/Attitude"), accessFlags := 18, slot := 2, constantValue := 0 }, { name := "rev", type := .int, accessFlags := 18, slot := 3, constantValue := 0 }]
  methods := #[k4m0, k4m1]
  instanceTypes := #[.long, .long, (.object "com/example/orbitloom/orbitloom/core/Attitude"), .int]
  staticTypes := #[]
  resolved := Array.replicate 72 none
  statics := none }

def pool5 : Array CpInfo := pool [(8, .class_ 10), (1, u "java/lang/Iterable"), (24, .class_ 36), (0, u "java/lang/Object")] 25

/-- java/lang/Iterable -/
def k5 : Class := { plain "java/lang/Iterable" (some 0) with
  accessFlags := 1537
  interfaces := #[]
  cf := some (fileOf pool5 8 #[] #[] 1537 35 #[] #[])
  fields := #[]
  methods := #[]
  instanceTypes := #[]
  staticTypes := #[]
  resolved := Array.replicate 62 none
  statics := none }

def pool6 : Array CpInfo := pool [(10, .class_ 12), (1, u "java/util/Collection"), (0, u "toArray"), (46, .class_ 61), (0, u "java/lang/Object"), (0, .class_ 63), (0, u "java/lang/Iterable"), (6, u "()[Ljava/lang/Object;")] 44

def k6m0 : Method := { name := "toArray", desc := "()[Ljava/lang/Object;", sig := { parameters := [], returnType := some (.array (.object "java/lang/Object")) }, accessFlags := 1025, code := none }
/-- java/util/Collection -/
def k6 : Class := { plain "java/util/Collection" (some 0) with
  accessFlags := 1537
  interfaces := #[5]
  cf := some (fileOf pool6 10 #[] #[{ accessFlags := 1025, nameIndex := 13, descriptorIndex := 70, attributes := #[] }] 1537 60 #[62] #[])
  fields := #[]
  methods := #[k6m0]
  instanceTypes := #[]
  staticTypes := #[]
  resolved := Array.replicate 115 none
  statics := none }

def pool7 : Array CpInfo := pool [(1, .methodref 2 3), (0, .class_ 4), (0, .nameAndType 5 6), (0, u "java/lang/Object"), (0, u "<init>"), (0, u "()V"), (1, .class_ 10), (1, u "java/util/AbstractCollection"), (66, .class_ 78), (0, u "java/util/Collection")] 81

def k7c0 : Code := { maxStack := 1, maxLocals := 1, code := jdk_22_method_1_code, exceptionTable := #[], attributes := #[] }
def k7m0 : Method := { name := "<init>", desc := "()V", sig := { parameters := [], returnType := none }, accessFlags := 4, code := some k7c0 }
/-- java/util/AbstractCollection -/
def k7 : Class := { plain "java/util/AbstractCollection" (some 0) with
  accessFlags := 1057
  interfaces := #[6]
  cf := some (fileOf pool7 8 #[] #[{ accessFlags := 4, nameIndex := 5, descriptorIndex := 6, attributes := #[] }] 1057 2 #[77] #[])
  fields := #[]
  methods := #[k7m0]
  instanceTypes := #[]
  staticTypes := #[]
  resolved := Array.replicate 160 none
  statics := none }

def pool8 : Array CpInfo := pool [(8, .class_ 10), (1, u "java/util/SequencedCollection"), (15, .class_ 27), (0, u "java/lang/Object"), (0, .class_ 29), (0, u "java/util/Collection")] 27

/-- java/util/SequencedCollection -/
def k8 : Class := { plain "java/util/SequencedCollection" (some 0) with
  accessFlags := 1537
  interfaces := #[6]
  cf := some (fileOf pool8 8 #[] #[] 1537 26 #[28] #[])
  fields := #[]
  methods := #[]
  instanceTypes := #[]
  staticTypes := #[]
  resolved := Array.replicate 57 none
  statics := none }

def pool9 : Array CpInfo := pool [(8, .class_ 10), (1, u "java/util/List"), (49, u "add"), (3, u "(Ljava/lang/Object;)Z"), (38, .class_ 104), (0, u "java/lang/Object"), (15, .class_ 121), (0, u "java/util/SequencedCollection")] 129

def k9m0 : Method := { name := "add", desc := "(Ljava/lang/Object;)Z", sig := { parameters := [(.object "java/lang/Object")], returnType := some .boolean }, accessFlags := 1025, code := none }
/-- java/util/List -/
def k9 : Class := { plain "java/util/List" (some 0) with
  accessFlags := 1537
  interfaces := #[8]
  cf := some (fileOf pool9 8 #[] #[{ accessFlags := 1025, nameIndex := 60, descriptorIndex := 64, attributes := #[] }] 1537 103 #[120] #[])
  fields := #[]
  methods := #[k9m0]
  instanceTypes := #[]
  staticTypes := #[]
  resolved := Array.replicate 251 none
  statics := none }

def pool10 : Array CpInfo := pool [(1, .methodref 2 3), (0, .class_ 4), (0, .nameAndType 5 6), (0, u "java/util/AbstractCollection"), (0, u "<init>"), (0, u "()V"), (0, .fieldref 8 9), (0, .class_ 10), (0, .nameAndType 11 12), (0, u "java/util/AbstractList"), (0, u "modCount"), (0, u "I"), (64, .class_ 78), (0, u "java/util/AbstractList$Itr"), (3, .class_ 83), (0, u "java/util/AbstractList$ListItr"), (9, .class_ 94), (0, u "java/util/AbstractList$RandomAccessSubList"), (3, .class_ 99), (0, u "java/util/AbstractList$SubList"), (33, .class_ 134), (0, u "java/util/List"), (73, .class_ 209), (0, u "java/util/AbstractList$SubList$1"), (0, .class_ 211), (0, u "java/util/AbstractList$RandomAccessSpliterator")] 6

def k10c0 : Code := { maxStack := 2, maxLocals := 1, code := jdk_39_method_1_code, exceptionTable := #[], attributes := #[] }
def k10m0 : Method := { name := "<init>", desc := "()V", sig := { parameters := [], returnType := none }, accessFlags := 4, code := some k10c0 }
/-- java/util/AbstractList -/
def k10 : Class := { plain "java/util/AbstractList" (some 7) with
  accessFlags := 1057
  interfaces := #[9]
  cf := some (fileOf pool10 8 #[.nestMembers #[93, 98, 208, 210, 82, 77]] #[{ accessFlags := 4, nameIndex := 5, descriptorIndex := 6, attributes := #[] }] 1057 2 #[133] #[{ accessFlags := 132, nameIndex := 11, descriptorIndex := 12, attributes := #[] }])
  fields := #[{ name := "modCount", type := .int, accessFlags := 132, slot := 0, constantValue := 0 }]
  methods := #[k10m0]
  instanceTypes := #[.int]
  staticTypes := #[]
  resolved := Array.replicate 218 none
  statics := none }

def pool11 : Array CpInfo := pool [(1, .class_ 2), (0, u "java/util/RandomAccess"), (0, .class_ 4), (0, u "java/lang/Object")] 2

/-- java/util/RandomAccess -/
def k11 : Class := { plain "java/util/RandomAccess" (some 0) with
  accessFlags := 1537
  interfaces := #[]
  cf := some (fileOf pool11 1 #[] #[] 1537 3 #[] #[])
  fields := #[]
  methods := #[]
  instanceTypes := #[]
  staticTypes := #[]
  resolved := Array.replicate 7 none
  statics := none }

def pool12 : Array CpInfo := pool [(1, .class_ 2), (0, u "java/lang/Cloneable"), (0, .class_ 4), (0, u "java/lang/Object")] 2

/-- java/lang/Cloneable -/
def k12 : Class := { plain "java/lang/Cloneable" (some 0) with
  accessFlags := 1537
  interfaces := #[]
  cf := some (fileOf pool12 1 #[] #[] 1537 3 #[] #[])
  fields := #[]
  methods := #[]
  instanceTypes := #[]
  staticTypes := #[]
  resolved := Array.replicate 7 none
  statics := none }

def pool13 : Array CpInfo := pool [(1, .class_ 2), (0, u "java/io/Serializable"), (0, .class_ 4), (0, u "java/lang/Object")] 2

/-- java/io/Serializable -/
def k13 : Class := { plain "java/io/Serializable" (some 0) with
  accessFlags := 1537
  interfaces := #[]
  cf := some (fileOf pool13 1 #[] #[] 1537 3 #[] #[])
  fields := #[]
  methods := #[]
  instanceTypes := #[]
  staticTypes := #[]
  resolved := Array.replicate 7 none
  statics := none }

def pool14 : Array CpInfo := pool [(1, .methodref 2 3), (0, .class_ 4), (0, .nameAndType 5 6), (0, u "java/util/AbstractList"), (0, u "<init>"), (0, u "()V"), (0, .class_ 8), (0, u "java/lang/Object"), (0, .fieldref 10 11), (0, .class_ 12), (0, .nameAndType 13 14), (0, u "java/util/ArrayList"), (0, u "elementData"), (0, u "[Ljava/lang/Object;"), (0, .fieldref 10 16), (0, .nameAndType 17 14), (0, u "EMPTY_ELEMENTDATA"), (21, .fieldref 10 40), (0, .nameAndType 41 14), (0, u "DEFAULTCAPACITY_EMPTY_ELEMENTDATA"), (0, .interfaceMethodref 43 44), (0, .class_ 45), (0, .nameAndType 46 47), (0, u "java/util/Collection"), (0, u "toArray"), (0, u "()[Ljava/lang/Object;"), (0, .fieldref 10 49), (0, .nameAndType 50 51), (0, u "size"), (0, u "I"), (6, .class_ 60), (1, u "java/util/Arrays"), (0, u "copyOf"), (1, .fieldref 10 64), (0, .nameAndType 65 51), (0, u "modCount"), (0, .methodref 58 67), (0, .nameAndType 61 68), (0, u "([Ljava/lang/Object;I)[Ljava/lang/Object;"), (0, .methodref 10 70), (0, .nameAndType 71 72), (0, u "grow"), (0, u "(I)[Ljava/lang/Object;"), (6, .methodref 80 81), (0, .class_ 82), (0, .nameAndType 83 84), (0, u "java/lang/Math"), (0, u "max"), (0, u "(II)I"), (11, u "(Ljava/lang/Object;)Z"), (32, .methodref 10 130), (0, .nameAndType 71 47), (0, .methodref 10 132), (0, .nameAndType 133 134), (0, u "add"), (0, u "(Ljava/lang/Object;[Ljava/lang/Object;I)V"), (13, .class_ 149), (0, u "java/util/List"), (112, .class_ 263), (0, u "java/util/ArrayList$ListItr"), (3, .class_ 268), (0, u "java/util/ArrayList$Itr"), (7, .class_ 277), (0, u "java/util/ArrayList$SubList"), (12, .class_ 291), (0, u "java/util/ArrayList$ArrayListSpliterator"), (37, .class_ 330), (0, u "java/util/RandomAccess"), (0, .class_ 332), (0, u "java/lang/Cloneable"), (0, .class_ 334), (0, u "java/io/Serializable"), (0, u "serialVersionUID"), (0, u "J"), (3, u "DEFAULT_CAPACITY"), (10, u "(Ljava/util/Collection;)V"), (148, .class_ 501), (0, u "java/util/ArrayList$SubList$2"), (0, .class_ 503), (0, u "java/util/ArrayList$SubList$1")] 5

def k14c0 : Code := { maxStack := 2, maxLocals := 1, code := jdk_38_method_2_code, exceptionTable := #[], attributes := #[] }
def k14m0 : Method := { name := "<init>", desc := "()V", sig := { parameters := [], returnType := none }, accessFlags := 1, code := some k14c0 }
def k14c1 : Code := { maxStack := 4, maxLocals := 3, code := jdk_38_method_3_code, exceptionTable := #[], attributes := #[] }
def k14m1 : Method := { name := "<init>", desc := "(Ljava/util/Collection;)V", sig := { parameters := [(.object "java/util/Collection")], returnType := none }, accessFlags := 1, code := some k14c1 }
def k14c2 : Code := { maxStack := 4, maxLocals := 4, code := jdk_38_method_6_code, exceptionTable := #[], attributes := #[] }
def k14m2 : Method := { name := "grow", desc := "(I)[Ljava/lang/Object;", sig := { parameters := [.int], returnType := some (.array (.object "java/lang/Object")) }, accessFlags := 2, code := some k14c2 }
def k14c3 : Code := { maxStack := 3, maxLocals := 1, code := jdk_38_method_7_code, exceptionTable := #[], attributes := #[] }
def k14m3 : Method := { name := "grow", desc := "()[Ljava/lang/Object;", sig := { parameters := [], returnType := some (.array (.object "java/lang/Object")) }, accessFlags := 2, code := some k14c3 }
def k14c4 : Code := { maxStack := 2, maxLocals := 1, code := jdk_38_method_16_code, exceptionTable := #[], attributes := #[] }
def k14m4 : Method := { name := "toArray", desc := "()[Ljava/lang/Object;", sig := { parameters := [], returnType := some (.array (.object "java/lang/Object")) }, accessFlags := 1, code := some k14c4 }
def k14c5 : Code := { maxStack := 3, maxLocals := 4, code := jdk_38_method_24_code, exceptionTable := #[], attributes := #[] }
def k14m5 : Method := { name := "add", desc := "(Ljava/lang/Object;[Ljava/lang/Object;I)V", sig := { parameters := [(.object "java/lang/Object"), (.array (.object "java/lang/Object")), .int], returnType := none }, accessFlags := 2, code := some k14c5 }
def k14c6 : Code := { maxStack := 4, maxLocals := 2, code := jdk_38_method_25_code, exceptionTable := #[], attributes := #[] }
def k14m6 : Method := { name := "add", desc := "(Ljava/lang/Object;)Z", sig := { parameters := [(.object "java/lang/Object")], returnType := some .boolean }, accessFlags := 1, code := some k14c6 }
/-- java/util/ArrayList -/
def k14 : Class := { plain "java/util/ArrayList" (some 10) with
  accessFlags := 33
  interfaces := #[9, 11, 12, 13]
  cf := some (fileOf pool14 10 #[.nestMembers #[290, 276, 500, 502, 262, 267]] #[{ accessFlags := 1, nameIndex := 5, descriptorIndex := 6, attributes := #[] }, { accessFlags := 1, nameIndex := 5, descriptorIndex := 351, attributes := #[] }, { accessFlags := 2, nameIndex := 71, descriptorIndex := 72, attributes := #[] }, { accessFlags := 2, nameIndex := 71, descriptorIndex := 47, attributes := #[] }, { accessFlags := 1, nameIndex := 46, descriptorIndex := 47, attributes := #[] }, { accessFlags := 2, nameIndex := 133, descriptorIndex := 134, attributes := #[] }, { accessFlags := 1, nameIndex := 133, descriptorIndex := 96, attributes := #[] }] 33 2 #[148, 329, 331, 333] #[{ accessFlags := 26, nameIndex := 335, descriptorIndex := 336, attributes := #[] }, { accessFlags := 26, nameIndex := 340, descriptorIndex := 51, attributes := #[] }, { accessFlags := 26, nameIndex := 17, descriptorIndex := 14, attributes := #[] }, { accessFlags := 26, nameIndex := 41, descriptorIndex := 14, attributes := #[] }, { accessFlags := 128, nameIndex := 13, descriptorIndex := 14, attributes := #[] }, { accessFlags := 2, nameIndex := 50, descriptorIndex := 51, attributes := #[] }])
  fields := #[{ name := "serialVersionUID", type := .long, accessFlags := 26, slot := 0, constantValue := 0 }, { name := "DEFAULT_CAPACITY", type := .int, accessFlags := 26, slot := 1, constantValue := 0 }, { name := "EMPTY_ELEMENTDATA", type := (.array (.object "java/lang/Object")), accessFlags := 26, slot := 2, constantValue := 0 }, { name := "DEFAULTCAPACITY_EMPTY_ELEMENTDATA", type := (.array (.object "java/lang/Object")), accessFlags := 26, slot := 3, constantValue := 0 }, { name := "elementData", type := (.array (.object "java/lang/Object")), accessFlags := 128, slot := 1, constantValue := 0 }, { name := "size", type := .int, accessFlags := 2, slot := 2, constantValue := 0 }]
  methods := #[k14m0, k14m1, k14m2, k14m3, k14m4, k14m5, k14m6]
  instanceTypes := #[.int, (.array (.object "java/lang/Object")), .int]
  staticTypes := #[.long, .int, (.array (.object "java/lang/Object")), (.array (.object "java/lang/Object"))]
  resolved := Array.replicate 509 none
  statics := some 0 }

def pool15 : Array CpInfo := pool [(2, .class_ 4), (1, u "java/lang/Object"), (0, u "<init>"), (0, u "()V"), (7, .class_ 16), (1, u "java/util/Arrays"), (57, .class_ 76), (1, u "java/util/Arrays$NaturalOrder"), (9, .methodref 2 87), (0, .nameAndType 88 89), (0, u "getClass"), (0, u "()Ljava/lang/Class;"), (20, .class_ 111), (0, u "[Ljava/lang/Object;"), (1, .class_ 115), (1, u "java/util/Arrays$LegacyMergeSort"), (1, u "Z"), (32, .methodref 151 152), (0, .class_ 153), (0, .nameAndType 154 155), (0, u "java/lang/System"), (0, u "arraycopy"), (0, u "(Ljava/lang/Object;ILjava/lang/Object;II)V"), (144, .methodref 14 301), (0, .nameAndType 302 303), (0, u "copyOf"), (0, u "([Ljava/lang/Object;ILjava/lang/Class;)[Ljava/lang/Object;"), (0, .methodref 305 306), (0, .class_ 307), (0, .nameAndType 308 309), (0, u "java/lang/Math"), (0, u "min"), (0, u "(II)I"), (65, .class_ 376), (0, u "java/util/Arrays$ArrayList"), (68, u "$assertionsDisabled"), (269, u "MIN_ARRAY_SORT_GRAN"), (0, u "I"), (2, u "INSERTIONSORT_THRESHOLD"), (140, u "([Ljava/lang/Object;I)[Ljava/lang/Object;"), (114, .class_ 976), (0, u "java/util/Arrays$ArrayItr")] 52

def k15m0 : Method := { name := "<init>", desc := "()V", sig := { parameters := [], returnType := none }, accessFlags := 2, code := none }
def k15c1 : Code := { maxStack := 3, maxLocals := 2, code := jdk_65_method_119_code, exceptionTable := #[], attributes := #[] }
def k15m1 : Method := { name := "copyOf", desc := "([Ljava/lang/Object;I)[Ljava/lang/Object;", sig := { parameters := [(.array (.object "java/lang/Object")), .int], returnType := some (.array (.object "java/lang/Object")) }, accessFlags := 9, code := some k15c1 }
def k15c2 : Code := { maxStack := 6, maxLocals := 4, code := jdk_65_method_120_code, exceptionTable := #[], attributes := #[] }
def k15m2 : Method := { name := "copyOf", desc := "([Ljava/lang/Object;ILjava/lang/Class;)[Ljava/lang/Object;", sig := { parameters := [(.array (.object "java/lang/Object")), .int, (.object "java/lang/Class")], returnType := some (.array (.object "java/lang/Object")) }, accessFlags := 9, code := some k15c2 }
/-- java/util/Arrays -/
def k15 : Class := { plain "java/util/Arrays" (some 0) with
  accessFlags := 49
  interfaces := #[]
  cf := some (fileOf pool15 14 #[.nestMembers #[975, 375, 113, 74]] #[{ accessFlags := 2, nameIndex := 5, descriptorIndex := 6, attributes := #[] }, { accessFlags := 9, nameIndex := 302, descriptorIndex := 860, attributes := #[] }, { accessFlags := 9, nameIndex := 302, descriptorIndex := 303, attributes := #[] }] 49 2 #[] #[{ accessFlags := 26, nameIndex := 715, descriptorIndex := 716, attributes := #[] }, { accessFlags := 26, nameIndex := 719, descriptorIndex := 716, attributes := #[] }, { accessFlags := 4120, nameIndex := 445, descriptorIndex := 117, attributes := #[] }])
  fields := #[{ name := "MIN_ARRAY_SORT_GRAN", type := .int, accessFlags := 26, slot := 0, constantValue := 0 }, { name := "INSERTIONSORT_THRESHOLD", type := .int, accessFlags := 26, slot := 1, constantValue := 0 }, { name := "$assertionsDisabled", type := .boolean, accessFlags := 4120, slot := 2, constantValue := 0 }]
  methods := #[k15m0, k15m1, k15m2]
  instanceTypes := #[]
  staticTypes := #[.int, .int, .boolean]
  resolved := Array.replicate 1029 none
  statics := none }

def pool16 : Array CpInfo := pool [(1, .class_ 2), (0, u "java/lang/Math"), (1, .class_ 6), (1, u "java/lang/Object"), (0, u "<init>"), (0, u "()V"), (89, .class_ 100), (1, u "java/lang/Math$RandomNumberGeneratorHolder"), (71, u "negativeZeroFloatBits"), (0, u "J"), (2, u "negativeZeroDoubleBits"), (21, u "max"), (2, u "min"), (43, u "$assertionsDisabled"), (0, u "Z"), (88, u "(II)I"), (2, u "twoToTheDoubleScaleDown"), (0, u "D"), (4, u "twoToTheDoubleScaleUp"), (9, u "E"), (3, u "PI"), (2, u "TAU"), (2, u "DEGREES_TO_RADIANS"), (0, u "RADIANS_TO_DEGREES")] 94

def k16m0 : Method := { name := "<init>", desc := "()V", sig := { parameters := [], returnType := none }, accessFlags := 2, code := none }
def k16c1 : Code := { maxStack := 2, maxLocals := 2, code := jdk_29_method_65_code, exceptionTable := #[], attributes := #[] }
def k16m1 : Method := { name := "max", desc := "(II)I", sig := { parameters := [.int, .int], returnType := some .int }, accessFlags := 9, code := some k16c1 }
def k16c2 : Code := { maxStack := 2, maxLocals := 2, code := jdk_29_method_69_code, exceptionTable := #[], attributes := #[] }
def k16m2 : Method := { name := "min", desc := "(II)I", sig := { parameters := [.int, .int], returnType := some .int }, accessFlags := 9, code := some k16c2 }
/-- java/lang/Math -/
def k16 : Class := { plain "java/lang/Math" (some 0) with
  accessFlags := 49
  interfaces := #[]
  cf := some (fileOf pool16 1 #[.nestMembers #[98]] #[{ accessFlags := 2, nameIndex := 7, descriptorIndex := 8, attributes := #[] }, { accessFlags := 9, nameIndex := 198, descriptorIndex := 335, attributes := #[] }, { accessFlags := 9, nameIndex := 201, descriptorIndex := 335, attributes := #[] }] 49 4 #[] #[{ accessFlags := 25, nameIndex := 354, descriptorIndex := 339, attributes := #[] }, { accessFlags := 25, nameIndex := 358, descriptorIndex := 339, attributes := #[] }, { accessFlags := 25, nameIndex := 361, descriptorIndex := 339, attributes := #[] }, { accessFlags := 26, nameIndex := 364, descriptorIndex := 339, attributes := #[] }, { accessFlags := 26, nameIndex := 365, descriptorIndex := 339, attributes := #[] }, { accessFlags := 26, nameIndex := 172, descriptorIndex := 173, attributes := #[] }, { accessFlags := 26, nameIndex := 176, descriptorIndex := 173, attributes := #[] }, { accessFlags := 8, nameIndex := 344, descriptorIndex := 339, attributes := #[] }, { accessFlags := 8, nameIndex := 338, descriptorIndex := 339, attributes := #[] }, { accessFlags := 4120, nameIndex := 245, descriptorIndex := 246, attributes := #[] }])
  fields := #[{ name := "E", type := .double, accessFlags := 25, slot := 0, constantValue := 0 }, { name := "PI", type := .double, accessFlags := 25, slot := 1, constantValue := 0 }, { name := "TAU", type := .double, accessFlags := 25, slot := 2, constantValue := 0 }, { name := "DEGREES_TO_RADIANS", type := .double, accessFlags := 26, slot := 3, constantValue := 0 }, { name := "RADIANS_TO_DEGREES", type := .double, accessFlags := 26, slot := 4, constantValue := 0 }, { name := "negativeZeroFloatBits", type := .long, accessFlags := 26, slot := 5, constantValue := 0 }, { name := "negativeZeroDoubleBits", type := .long, accessFlags := 26, slot := 6, constantValue := 0 }, { name := "twoToTheDoubleScaleUp", type := .double, accessFlags := 8, slot := 7, constantValue := 0 }, { name := "twoToTheDoubleScaleDown", type := .double, accessFlags := 8, slot := 8, constantValue := 0 }, { name := "$assertionsDisabled", type := .boolean, accessFlags := 4120, slot := 9, constantValue := 0 }]
  methods := #[k16m0, k16m1, k16m2]
  instanceTypes := #[]
  staticTypes := #[.double, .double, .double, .double, .double, .long, .long, .double, .double, .boolean]
  resolved := Array.replicate 460 none
  statics := none }

def pool17 : Array CpInfo := pool [(2, .class_ 4), (1, u "java/lang/Object"), (0, u "<init>"), (0, u "()V"), (1, .class_ 10), (1, u "java/lang/System"), (0, u "allowSecurityManager"), (0, u "I"), (16, u "cons"), (0, u "Ljava/io/Console;"), (77, .class_ 110), (1, u "java/lang/System$CallersHolder"), (43, u "initialErrStream"), (0, u "Ljava/io/PrintStream;"), (19, u "security"), (0, u "Ljava/lang/SecurityManager;"), (31, .class_ 209), (0, u "java/lang/System$1"), (7, u "props"), (0, u "Ljava/util/Properties;"), (2, u "lineSeparator"), (0, u "Ljava/lang/String;"), (96, .class_ 321), (1, u "java/lang/System$LoggerFinder"), (5, .class_ 328), (0, u "java/lang/System$Logger"), (67, u "err"), (2, u "out"), (91, u "notSupportedJnuEncoding"), (15, u "in"), (17, u "initialIn"), (0, u "Ljava/io/InputStream;"), (35, u "bootLayer"), (0, u "Ljava/lang/ModuleLayer;"), (99, .class_ 664), (0, u "java/lang/System$2"), (9, u "NEVER"), (2, u "MAYBE"), (49, u "arraycopy"), (0, u "(Ljava/lang/Object;ILjava/lang/Object;II)V"), (72, .class_ 802), (0, u "java/lang/System$Logger$Level")] 31

def k17m0 : Method := { name := "<init>", desc := "()V", sig := { parameters := [], returnType := none }, accessFlags := 2, code := none }
def k17m1 : Method := { name := "arraycopy", desc := "(Ljava/lang/Object;ILjava/lang/Object;II)V", sig := { parameters := [(.object "java/lang/Object"), .int, (.object "java/lang/Object"), .int, .int], returnType := none }, accessFlags := 265, code := none }
/-- java/lang/System -/
def k17 : Class := { plain "java/lang/System" (some 0) with
  accessFlags := 49
  interfaces := #[]
  cf := some (fileOf pool17 8 #[.nestMembers #[319, 327, 801, 108, 663, 208]] #[{ accessFlags := 2, nameIndex := 5, descriptorIndex := 6, attributes := #[] }, { accessFlags := 265, nameIndex := 727, descriptorIndex := 728, attributes := #[] }] 49 2 #[] #[{ accessFlags := 25, nameIndex := 507, descriptorIndex := 526, attributes := #[] }, { accessFlags := 25, nameIndex := 399, descriptorIndex := 155, attributes := #[] }, { accessFlags := 25, nameIndex := 396, descriptorIndex := 155, attributes := #[] }, { accessFlags := 10, nameIndex := 525, descriptorIndex := 526, attributes := #[] }, { accessFlags := 26, nameIndex := 674, descriptorIndex := 12, attributes := #[] }, { accessFlags := 26, nameIndex := 677, descriptorIndex := 12, attributes := #[] }, { accessFlags := 10, nameIndex := 11, descriptorIndex := 12, attributes := #[] }, { accessFlags := 74, nameIndex := 175, descriptorIndex := 176, attributes := #[] }, { accessFlags := 10, nameIndex := 491, descriptorIndex := 222, attributes := #[] }, { accessFlags := 74, nameIndex := 29, descriptorIndex := 30, attributes := #[] }, { accessFlags := 74, nameIndex := 154, descriptorIndex := 155, attributes := #[] }, { accessFlags := 10, nameIndex := 217, descriptorIndex := 218, attributes := #[] }, { accessFlags := 10, nameIndex := 221, descriptorIndex := 222, attributes := #[] }, { accessFlags := 8, nameIndex := 562, descriptorIndex := 563, attributes := #[] }])
  fields := #[{ name := "in", type := (.object "java/io/InputStream"), accessFlags := 25, slot := 0, constantValue := 0 }, { name := "out", type := (.object "java/io/PrintStream"), accessFlags := 25, slot := 1, constantValue := 0 }, { name := "err", type := (.object "java/io/PrintStream"), accessFlags := 25, slot := 2, constantValue := 0 }, { name := "initialIn", type := (.object "java/io/InputStream"), accessFlags := 10, slot := 3, constantValue := 0 }, { name := "NEVER", type := .int, accessFlags := 26, slot := 4, constantValue := 0 }, { name := "MAYBE", type := .int, accessFlags := 26, slot := 5, constantValue := 0 }, { name := "allowSecurityManager", type := .int, accessFlags := 10, slot := 6, constantValue := 0 }, { name := "security", type := (.object "java/lang/SecurityManager"), accessFlags := 74, slot := 7, constantValue := 0 }, { name := "notSupportedJnuEncoding", type := (.object "java/lang/String"), accessFlags := 10, slot := 8, constantValue := 0 }, { name := "cons", type := (.object "java/io/Console"), accessFlags := 74, slot := 9, constantValue := 0 }, { name := "initialErrStream", type := (.object "java/io/PrintStream"), accessFlags := 74, slot := 10, constantValue := 0 }, { name := "props", type := (.object "java/util/Properties"), accessFlags := 10, slot := 11, constantValue := 0 }, { name := "lineSeparator", type := (.object "java/lang/String"), accessFlags := 10, slot := 12, constantValue := 0 }, { name := "bootLayer", type := (.object "java/lang/ModuleLayer"), accessFlags := 8, slot := 13, constantValue := 0 }]
  methods := #[k17m0, k17m1]
  instanceTypes := #[]
  staticTypes := #[(.object "java/io/InputStream"), (.object "java/io/PrintStream"), (.object "java/io/PrintStream"), (.object "java/io/InputStream"), .int, .int, .int, (.object "java/lang/SecurityManager"), (.object "java/lang/String"), (.object "java/io/Console"), (.object "java/io/PrintStream"), (.object "java/util/Properties"), (.object "java/lang/String"), (.object "java/lang/ModuleLayer")]
  resolved := Array.replicate 834 none
  statics := none }

def pool18 : Array CpInfo := pool [(1, u "java/lang/Class"), (0, .class_ 1), (0, u "java/lang/Object"), (0, .class_ 3)] 0

/-- java/lang/Class -/
def k18 : Class := { plain "java/lang/Class" (some 0) with
  accessFlags := 49
  interfaces := #[]
  cf := some (fileOf pool18 2 #[] #[] 49 4 #[] #[])
  fields := #[]
  methods := #[]
  instanceTypes := #[]
  staticTypes := #[]
  resolved := Array.replicate 5 none
  statics := none }

/-- the primitive byte -/
def k19 : Class := { plain "byte" none with kind := .primitive 'B', accessFlags := 0x411 }
/-- [B -/
def k20 : Class := { plain "[B" (some 0) with kind := .array 19 .byte, interfaces := #[12, 13], accessFlags := 1041 }

/-- the primitive int -/
def k21 : Class := { plain "int" none with kind := .primitive 'I', accessFlags := 0x411 }
/-- [I -/
def k22 : Class := { plain "[I" (some 0) with kind := .array 21 .int, interfaces := #[12, 13], accessFlags := 1041 }

/-- [Lcom/example/orbitloom/orbitloom/core/Timeline$Entry; -/
def k23 : Class := { plain "[Lcom/example/orbitloom/orbitloom/core/Timeline$Entry;" (some 0) with kind := .array 4 (.object "com/example/orbitloom/orbitloom/core/Timeline$Entry"), interfaces := #[12, 13], accessFlags := 1041 }

/-- [Ljava/lang/Object; -/
def k24 : Class := { plain "[Ljava/lang/Object;" (some 0) with kind := .array 0 (.object "java/lang/Object"), interfaces := #[12, 13], accessFlags := 1041, mirror := some 1 }

def heap : Heap := #[{ cls := 14, slots := #[.long 0, .int 0, .ref 2, .ref 3], vm := .statics 14 },
  { cls := 18, slots := #[], vm := .mirror 24 },
  { cls := 24, slots := #[], vm := .none },
  { cls := 24, slots := #[], vm := .none }]
def classes : Array Class := #[k0, k1, k2, k3, k4, k5, k6, k7, k8, k9, k10, k11, k12, k13, k14, k15, k16, k17, k18, k19, k20, k21, k22, k23, k24]
def interned : List (Array UInt16 × Addr) := []
def slotsUsed : Nat := 4
def theMethod : MethodId := ⟨1, 1⟩
def args0 : Array Value := #[.long 5, .long 5, .long 5, .long 5, .long 5, .int 5]
def aboutOver (below : List Frame) : State where
  vm := { classes := classes, interned := interned.toArray }
  heap := heap
  slotsUsed := slotsUsed
  threads := #[{ frames := .invoking theMethod args0 :: below }]
def below0 : List Frame := [.native { method := ⟨0, 0⟩, args := #[] }]
def about1 : State := aboutOver below0
def p0 : Program := .bare "" "" ""
def e0 : Env := launch0.env 0 0 0
theorem w_frames : about1.frames = Frame.invoking theMethod args0 :: below0 := rfl
set_option maxRecDepth 65536 in
theorem w_args : argsFit about1.vm theMethod args0 = true := by decide +kernel
set_option maxRecDepth 65536 in
theorem w_heap : heapFits about1 = true := by decide +kernel
set_option maxRecDepth 65536 in
theorem w_runnable : about1.curStatus? = some .runnable := by decide +kernel
set_option maxRecDepth 65536 in
theorem w_alone : about1.alone = true := by decide +kernel
set_option maxRecDepth 65536 in
theorem w_named : about1.methodNamed? x = some theMethod := by decide +kernel
set_option maxRecDepth 65536 in
theorem w_hears : about1.hears theMethod below0 = true := by decide +kernel
set_option maxRecDepth 65536 in
theorem w_ripe : about1.ripe theMethod args0 below0 = true := by decide +kernel
theorem w_running : about1.status = .running := rfl
set_option maxRecDepth 65536 in
theorem w_room : about1.hasRoom e0.platform room_1 = true :=
  launch0.hasRoom_least _ room_1 (by decide +kernel) (by decide +kernel) (by decide +kernel) (by decide +kernel) (by decide +kernel) (by decide +kernel)
theorem allAtoms_all (ts : List Jvm.Cond) (a : Array Jvm.Value) (st : Jvm.State) : (allAtoms ts).before a st = ts.all (fun c => c.before a st) := by
  induction ts with
  | nil => rfl
  | cons c t ih =>
    show (Jvm.Cond.and c (allAtoms t)).before a st = _
    rw [Jvm.Cond.before_and, ih, List.all_cons]
def words1 : List Jvm.Cond := Jvm.Cond.code x code maxLocals ret :: tables_1
/-- a 'code' word, met by the world's own term for the bytes: nothing is compared byte by byte -/
theorem code_word {y : MethodName} {bytes : ByteArray} {mx : Nat} {rt : Option FieldType} {a : Array Value} {s : State} {m : MethodId} {meth : Method} {c : Code} (h1 : s.methodNamed? y = some m) (h2 : s.vm.method? m = some meth) (h3 : meth.code = some c) (h4 : c.code = bytes)
    (h5 : (c.maxLocals == mx && c.exceptionTable.isEmpty && decide (c.maxStack ≤ mostOperands) && decide (meth.sig.returnType = rt) && !meth.locks && decide (parseMethodDescriptor y.desc = some meth.sig)) = true) : (Jvm.Cond.code y bytes mx rt).before a s = true := by
  simp only [Bool.and_eq_true, beq_iff_eq, Bool.not_eq_true', decide_eq_true_eq] at h5
  obtain ⟨⟨⟨⟨⟨g1, g2⟩, g3⟩, g4⟩, g5⟩, g6⟩ := h5
  simp [Cond.before, Cond.holds, Cond.value, h1, h2, h3, h4, g1, g2, g3, g4, g5, g6]
def isCode : Jvm.Cond → Bool
  | .code _ _ _ _ => true
  | _ => false
theorem all_split {L : List Jvm.Cond} {P : Jvm.Cond → Bool} (h1 : L.all (fun c => isCode c || P c) = true) (h2 : ∀ c ∈ L.filter isCode, P c = true) : L.all P = true := by
  refine List.all_eq_true.mpr fun c hc => ?_
  have h := List.all_eq_true.mp h1 c hc
  rcases Bool.eq_false_or_eq_true (isCode c) with hi | hi
  · exact h2 c (List.mem_filter.mpr ⟨hc, hi⟩)
  · simpa [hi] using h
set_option maxRecDepth 65536 in
theorem w_c0 : (Jvm.Cond.code x code maxLocals ret).before args0 about1 = true := code_word (m := ⟨1, 1⟩) (meth := k1m1) (c := k1c1) (by decide +kernel) rfl rfl rfl (by decide +kernel)
set_option maxRecDepth 65536 in
theorem w_c1 : (Jvm.Cond.code ({ cls := "com/example/orbitloom/orbitloom/core/TimelineFirstStartingFromPinLaw", name := "step", desc := "(JJ)J" } : Jvm.MethodName) method_3_code (6 : Nat) (Option.some Jvm.ClassFile.FieldType.long)).before args0 about1 = true := code_word (m := ⟨1, 2⟩) (meth := k1m2) (c := k1c2) (by decide +kernel) rfl rfl rfl (by decide +kernel)
set_option maxRecDepth 65536 in
theorem w_c2 : (Jvm.Cond.code ({ cls := "com/example/orbitloom/orbitloom/core/Timeline", name := "<init>", desc := "()V" } : Jvm.MethodName) prog_49_method_1_code (1 : Nat) (Option.none : Option Jvm.ClassFile.FieldType)).before args0 about1 = true := code_word (m := ⟨2, 0⟩) (meth := k2m0) (c := k2c0) (by decide +kernel) rfl rfl rfl (by decide +kernel)
set_option maxRecDepth 65536 in
theorem w_c3 : (Jvm.Cond.code ({ cls := "java/lang/Object", name := "<init>", desc := "()V" } : Jvm.MethodName) object_method_1_code (1 : Nat) (Option.none : Option Jvm.ClassFile.FieldType)).before args0 about1 = true := code_word (m := ⟨0, 0⟩) (meth := k0m0) (c := k0c0) (by decide +kernel) rfl rfl rfl (by decide +kernel)
set_option maxRecDepth 65536 in
theorem w_c4 : (Jvm.Cond.code ({ cls := "java/util/ArrayList", name := "<init>", desc := "()V" } : Jvm.MethodName) jdk_38_method_2_code (1 : Nat) (Option.none : Option Jvm.ClassFile.FieldType)).before args0 about1 = true := code_word (m := ⟨14, 0⟩) (meth := k14m0) (c := k14c0) (by decide +kernel) rfl rfl rfl (by decide +kernel)
set_option maxRecDepth 65536 in
theorem w_c5 : (Jvm.Cond.code ({ cls := "java/util/AbstractList", name := "<init>", desc := "()V" } : Jvm.MethodName) jdk_39_method_1_code (1 : Nat) (Option.none : Option Jvm.ClassFile.FieldType)).before args0 about1 = true := code_word (m := ⟨10, 0⟩) (meth := k10m0) (c := k10c0) (by decide +kernel) rfl rfl rfl (by decide +kernel)
set_option maxRecDepth 65536 in
theorem w_c6 : (Jvm.Cond.code ({ cls := "java/util/AbstractCollection", name := "<init>", desc := "()V" } : Jvm.MethodName) jdk_22_method_1_code (1 : Nat) (Option.none : Option Jvm.ClassFile.FieldType)).before args0 about1 = true := code_word (m := ⟨7, 0⟩) (meth := k7m0) (c := k7c0) (by decide +kernel) rfl rfl rfl (by decide +kernel)
set_option maxRecDepth 65536 in
theorem w_c7 : (Jvm.Cond.code ({ cls := "com/example/orbitloom/orbitloom/core/Timeline$Entry", name := "<init>", desc := "(JJLcom/example/orbitloom/orbitloom/core/Attitude;I)V" } : Jvm.MethodName) prog_50_method_1_code (7 : Nat) (Option.none : Option Jvm.ClassFile.FieldType)).before args0 about1 = true := code_word (m := ⟨4, 0⟩) (meth := k4m0) (c := k4c0) (by decide +kernel) rfl rfl rfl (by decide +kernel)
set_option maxRecDepth 65536 in
theorem w_c8 : (Jvm.Cond.code ({ cls := "java/lang/Record", name := "<init>", desc := "()V" } : Jvm.MethodName) jdk_30_method_1_code (1 : Nat) (Option.none : Option Jvm.ClassFile.FieldType)).before args0 about1 = true := code_word (m := ⟨3, 0⟩) (meth := k3m0) (c := k3c0) (by decide +kernel) rfl rfl rfl (by decide +kernel)
set_option maxRecDepth 65536 in
theorem w_c9 : (Jvm.Cond.code ({ cls := "com/example/orbitloom/orbitloom/core/Timeline", name := "append", desc := "(Lcom/example/orbitloom/orbitloom/core/Timeline$Entry;Ljava/util/List;)V" } : Jvm.MethodName) prog_49_method_12_code (3 : Nat) (Option.none : Option Jvm.ClassFile.FieldType)).before args0 about1 = true := code_word (m := ⟨2, 2⟩) (meth := k2m2) (c := k2c2) (by decide +kernel) rfl rfl rfl (by decide +kernel)
set_option maxRecDepth 65536 in
theorem w_c10 : (Jvm.Cond.code ({ cls := "java/util/ArrayList", name := "<init>", desc := "(Ljava/util/Collection;)V" } : Jvm.MethodName) jdk_38_method_3_code (3 : Nat) (Option.none : Option Jvm.ClassFile.FieldType)).before args0 about1 = true := code_word (m := ⟨14, 1⟩) (meth := k14m1) (c := k14c1) (by decide +kernel) rfl rfl rfl (by decide +kernel)
set_option maxRecDepth 65536 in
theorem w_c11 : (Jvm.Cond.code ({ cls := "java/util/ArrayList", name := "toArray", desc := "()[Ljava/lang/Object;" } : Jvm.MethodName) jdk_38_method_16_code (1 : Nat) (Option.some (Jvm.ClassFile.FieldType.array (Jvm.ClassFile.FieldType.object "java/lang/Object")))).before args0 about1 = true := code_word (m := ⟨14, 4⟩) (meth := k14m4) (c := k14c4) (by decide +kernel) rfl rfl rfl (by decide +kernel)
set_option maxRecDepth 65536 in
theorem w_c12 : (Jvm.Cond.code ({ cls := "java/util/Arrays", name := "copyOf", desc := "([Ljava/lang/Object;I)[Ljava/lang/Object;" } : Jvm.MethodName) jdk_65_method_119_code (2 : Nat) (Option.some (Jvm.ClassFile.FieldType.array (Jvm.ClassFile.FieldType.object "java/lang/Object")))).before args0 about1 = true := code_word (m := ⟨15, 1⟩) (meth := k15m1) (c := k15c1) (by decide +kernel) rfl rfl rfl (by decide +kernel)
set_option maxRecDepth 65536 in
theorem w_c13 : (Jvm.Cond.code ({ cls := "java/util/Arrays", name := "copyOf", desc := "([Ljava/lang/Object;ILjava/lang/Class;)[Ljava/lang/Object;" } : Jvm.MethodName) jdk_65_method_120_code (4 : Nat) (Option.some (Jvm.ClassFile.FieldType.array (Jvm.ClassFile.FieldType.object "java/lang/Object")))).before args0 about1 = true := code_word (m := ⟨15, 2⟩) (meth := k15m2) (c := k15c2) (by decide +kernel) rfl rfl rfl (by decide +kernel)
set_option maxRecDepth 65536 in
theorem w_c14 : (Jvm.Cond.code ({ cls := "java/lang/Math", name := "min", desc := "(II)I" } : Jvm.MethodName) jdk_29_method_69_code (2 : Nat) (Option.some Jvm.ClassFile.FieldType.int)).before args0 about1 = true := code_word (m := ⟨16, 2⟩) (meth := k16m2) (c := k16c2) (by decide +kernel) rfl rfl rfl (by decide +kernel)
set_option maxRecDepth 65536 in
theorem w_c15 : (Jvm.Cond.code ({ cls := "java/util/ArrayList", name := "add", desc := "(Ljava/lang/Object;)Z" } : Jvm.MethodName) jdk_38_method_25_code (2 : Nat) (Option.some Jvm.ClassFile.FieldType.boolean)).before args0 about1 = true := code_word (m := ⟨14, 6⟩) (meth := k14m6) (c := k14c6) (by decide +kernel) rfl rfl rfl (by decide +kernel)
set_option maxRecDepth 65536 in
theorem w_c16 : (Jvm.Cond.code ({ cls := "java/util/ArrayList", name := "add", desc := "(Ljava/lang/Object;[Ljava/lang/Object;I)V" } : Jvm.MethodName) jdk_38_method_24_code (4 : Nat) (Option.none : Option Jvm.ClassFile.FieldType)).before args0 about1 = true := code_word (m := ⟨14, 5⟩) (meth := k14m5) (c := k14c5) (by decide +kernel) rfl rfl rfl (by decide +kernel)
set_option maxRecDepth 65536 in
theorem w_c17 : (Jvm.Cond.code ({ cls := "java/util/ArrayList", name := "grow", desc := "()[Ljava/lang/Object;" } : Jvm.MethodName) jdk_38_method_7_code (1 : Nat) (Option.some (Jvm.ClassFile.FieldType.array (Jvm.ClassFile.FieldType.object "java/lang/Object")))).before args0 about1 = true := code_word (m := ⟨14, 3⟩) (meth := k14m3) (c := k14c3) (by decide +kernel) rfl rfl rfl (by decide +kernel)
set_option maxRecDepth 65536 in
theorem w_c18 : (Jvm.Cond.code ({ cls := "java/util/ArrayList", name := "grow", desc := "(I)[Ljava/lang/Object;" } : Jvm.MethodName) jdk_38_method_6_code (4 : Nat) (Option.some (Jvm.ClassFile.FieldType.array (Jvm.ClassFile.FieldType.object "java/lang/Object")))).before args0 about1 = true := code_word (m := ⟨14, 2⟩) (meth := k14m2) (c := k14c2) (by decide +kernel) rfl rfl rfl (by decide +kernel)
set_option maxRecDepth 65536 in
theorem w_c19 : (Jvm.Cond.code ({ cls := "java/lang/Math", name := "max", desc := "(II)I" } : Jvm.MethodName) jdk_29_method_65_code (2 : Nat) (Option.some Jvm.ClassFile.FieldType.int)).before args0 about1 = true := code_word (m := ⟨16, 1⟩) (meth := k16m1) (c := k16c1) (by decide +kernel) rfl rfl rfl (by decide +kernel)
set_option maxRecDepth 65536 in
theorem w_c20 : (Jvm.Cond.code ({ cls := "com/example/orbitloom/orbitloom/core/Timeline", name := "firstStartingFrom", desc := "(J)I" } : Jvm.MethodName) prog_49_method_5_code (6 : Nat) (Option.some Jvm.ClassFile.FieldType.int)).before args0 about1 = true := code_word (m := ⟨2, 1⟩) (meth := k2m1) (c := k2c1) (by decide +kernel) rfl rfl rfl (by decide +kernel)
set_option maxRecDepth 65536 in
theorem w_c21 : (Jvm.Cond.code ({ cls := "com/example/orbitloom/orbitloom/core/Timeline$Entry", name := "start", desc := "()J" } : Jvm.MethodName) prog_50_method_5_code (1 : Nat) (Option.some Jvm.ClassFile.FieldType.long)).before args0 about1 = true := code_word (m := ⟨4, 1⟩) (meth := k4m1) (c := k4c1) (by decide +kernel) rfl rfl rfl (by decide +kernel)
def codes1 : List Jvm.Cond := [Jvm.Cond.code x code maxLocals ret, Jvm.Cond.code ({ cls := "com/example/orbitloom/orbitloom/core/TimelineFirstStartingFromPinLaw", name := "step", desc := "(JJ)J" } : Jvm.MethodName) method_3_code (6 : Nat) (Option.some Jvm.ClassFile.FieldType.long), Jvm.Cond.code ({ cls := "com/example/orbitloom/orbitloom/core/Timeline", name := "<init>", desc := "()V" } : Jvm.MethodName) prog_49_method_1_code (1 : Nat) (Option.none : Option Jvm.ClassFile.FieldType), Jvm.Cond.code ({ cls := "java/lang/Object", name := "<init>", desc := "()V" } : Jvm.MethodName) object_method_1_code (1 : Nat) (Option.none : Option Jvm.ClassFile.FieldType), Jvm.Cond.code ({ cls := "java/util/ArrayList", name := "<init>", desc := "()V" } : Jvm.MethodName) jdk_38_method_2_code (1 : Nat) (Option.none : Option Jvm.ClassFile.FieldType), Jvm.Cond.code ({ cls := "java/util/AbstractList", name := "<init>", desc := "()V" } : Jvm.MethodName) jdk_39_method_1_code (1 : Nat) (Option.none : Option Jvm.ClassFile.FieldType), Jvm.Cond.code ({ cls := "java/util/AbstractCollection", name := "<init>", desc := "()V" } : Jvm.MethodName) jdk_22_method_1_code (1 : Nat) (Option.none : Option Jvm.ClassFile.FieldType), Jvm.Cond.code ({ cls := "com/example/orbitloom/orbitloom/core/Timeline$Entry", name := "<init>", desc := "(JJLcom/example/orbitloom/orbitloom/core/Attitude;I)V" } : Jvm.MethodName) prog_50_method_1_code (7 : Nat) (Option.none : Option Jvm.ClassFile.FieldType), Jvm.Cond.code ({ cls := "java/lang/Record", name := "<init>", desc := "()V" } : Jvm.MethodName) jdk_30_method_1_code (1 : Nat) (Option.none : Option Jvm.ClassFile.FieldType), Jvm.Cond.code ({ cls := "com/example/orbitloom/orbitloom/core/Timeline", name := "append", desc := "(Lcom/example/orbitloom/orbitloom/core/Timeline$Entry;Ljava/util/List;)V" } : Jvm.MethodName) prog_49_method_12_code (3 : Nat) (Option.none : Option Jvm.ClassFile.FieldType), Jvm.Cond.code ({ cls := "java/util/ArrayList", name := "<init>", desc := "(Ljava/util/Collection;)V" } : Jvm.MethodName) jdk_38_method_3_code (3 : Nat) (Option.none : Option Jvm.ClassFile.FieldType), Jvm.Cond.code ({ cls := "java/util/ArrayList", name := "toArray", desc := "()[Ljava/lang/Object;" } : Jvm.MethodName) jdk_38_method_16_code (1 : Nat) (Option.some (Jvm.ClassFile.FieldType.array (Jvm.ClassFile.FieldType.object "java/lang/Object"))), Jvm.Cond.code ({ cls := "java/util/Arrays", name := "copyOf", desc := "([Ljava/lang/Object;I)[Ljava/lang/Object;" } : Jvm.MethodName) jdk_65_method_119_code (2 : Nat) (Option.some (Jvm.ClassFile.FieldType.array (Jvm.ClassFile.FieldType.object "java/lang/Object"))), Jvm.Cond.code ({ cls := "java/util/Arrays", name := "copyOf", desc := "([Ljava/lang/Object;ILjava/lang/Class;)[Ljava/lang/Object;" } : Jvm.MethodName) jdk_65_method_120_code (4 : Nat) (Option.some (Jvm.ClassFile.FieldType.array (Jvm.ClassFile.FieldType.object "java/lang/Object"))), Jvm.Cond.code ({ cls := "java/lang/Math", name := "min", desc := "(II)I" } : Jvm.MethodName) jdk_29_method_69_code (2 : Nat) (Option.some Jvm.ClassFile.FieldType.int), Jvm.Cond.code ({ cls := "java/util/ArrayList", name := "add", desc := "(Ljava/lang/Object;)Z" } : Jvm.MethodName) jdk_38_method_25_code (2 : Nat) (Option.some Jvm.ClassFile.FieldType.boolean), Jvm.Cond.code ({ cls := "java/util/ArrayList", name := "add", desc := "(Ljava/lang/Object;[Ljava/lang/Object;I)V" } : Jvm.MethodName) jdk_38_method_24_code (4 : Nat) (Option.none : Option Jvm.ClassFile.FieldType), Jvm.Cond.code ({ cls := "java/util/ArrayList", name := "grow", desc := "()[Ljava/lang/Object;" } : Jvm.MethodName) jdk_38_method_7_code (1 : Nat) (Option.some (Jvm.ClassFile.FieldType.array (Jvm.ClassFile.FieldType.object "java/lang/Object"))), Jvm.Cond.code ({ cls := "java/util/ArrayList", name := "grow", desc := "(I)[Ljava/lang/Object;" } : Jvm.MethodName) jdk_38_method_6_code (4 : Nat) (Option.some (Jvm.ClassFile.FieldType.array (Jvm.ClassFile.FieldType.object "java/lang/Object"))), Jvm.Cond.code ({ cls := "java/lang/Math", name := "max", desc := "(II)I" } : Jvm.MethodName) jdk_29_method_65_code (2 : Nat) (Option.some Jvm.ClassFile.FieldType.int), Jvm.Cond.code ({ cls := "com/example/orbitloom/orbitloom/core/Timeline", name := "firstStartingFrom", desc := "(J)I" } : Jvm.MethodName) prog_49_method_5_code (6 : Nat) (Option.some Jvm.ClassFile.FieldType.int), Jvm.Cond.code ({ cls := "com/example/orbitloom/orbitloom/core/Timeline$Entry", name := "start", desc := "()J" } : Jvm.MethodName) prog_50_method_5_code (1 : Nat) (Option.some Jvm.ClassFile.FieldType.long)]
set_option maxRecDepth 65536 in
theorem codes_eq : words1.filter isCode = codes1 := rfl
theorem w_codes : ∀ c ∈ words1.filter isCode, c.before args0 about1 = true := by
  rw [codes_eq]
  intro c hc
  simp only [codes1, List.mem_cons, List.not_mem_nil, or_false] at hc
  rcases hc with rfl | rfl | rfl | rfl | rfl | rfl | rfl | rfl | rfl | rfl | rfl | rfl | rfl | rfl | rfl | rfl | rfl | rfl | rfl | rfl | rfl | rfl
  · exact w_c0
  · exact w_c1
  · exact w_c2
  · exact w_c3
  · exact w_c4
  · exact w_c5
  · exact w_c6
  · exact w_c7
  · exact w_c8
  · exact w_c9
  · exact w_c10
  · exact w_c11
  · exact w_c12
  · exact w_c13
  · exact w_c14
  · exact w_c15
  · exact w_c16
  · exact w_c17
  · exact w_c18
  · exact w_c19
  · exact w_c20
  · exact w_c21
set_option maxRecDepth 65536 in
theorem w_t1 : (words1.take 24).all (fun c => isCode c || c.before args0 about1) = true := by decide +kernel
set_option maxRecDepth 65536 in
theorem w_t2 : ((words1.drop 24).take 24).all (fun c => isCode c || c.before args0 about1) = true := by decide +kernel
set_option maxRecDepth 65536 in
theorem w_t3 : (((words1.drop 24).drop 24).take 24).all (fun c => isCode c || c.before args0 about1) = true := by decide +kernel
set_option maxRecDepth 65536 in
theorem w_t4 : ((((words1.drop 24).drop 24).drop 24).take 24).all (fun c => isCode c || c.before args0 about1) = true := by decide +kernel
set_option maxRecDepth 65536 in
theorem w_t5 : (((((words1.drop 24).drop 24).drop 24).drop 24).take 24).all (fun c => isCode c || c.before args0 about1) = true := by decide +kernel
set_option maxRecDepth 65536 in
theorem w_t6 : ((((((words1.drop 24).drop 24).drop 24).drop 24).drop 24).take 24).all (fun c => isCode c || c.before args0 about1) = true := by decide +kernel
set_option maxRecDepth 65536 in
theorem w_t7 : ((((((words1.drop 24).drop 24).drop 24).drop 24).drop 24).drop 24).all (fun c => isCode c || c.before args0 about1) = true := by decide +kernel
theorem w_tables : (allAtoms (Jvm.Cond.code x code maxLocals ret :: tables_1)).before args0 about1 = true := by
  rw [allAtoms_all]
  show words1.all (fun c => c.before args0 about1) = true
  refine all_split ?_ w_codes
  rw [← List.take_append_drop 24 words1, List.all_append, w_t1, ← List.take_append_drop 24 (words1.drop 24), List.all_append, w_t2, ← List.take_append_drop 24 ((words1.drop 24).drop 24), List.all_append, w_t3, ← List.take_append_drop 24 (((words1.drop 24).drop 24).drop 24), List.all_append, w_t4, ← List.take_append_drop 24 ((((words1.drop 24).drop 24).drop 24).drop 24), List.all_append, w_t5, ← List.take_append_drop 24 (((((words1.drop 24).drop 24).drop 24).drop 24).drop 24), List.all_append, w_t6, w_t7]
  rfl
set_option maxRecDepth 65536 in
theorem w_rest : rest_1_c.before args0 about1 = true := by decide +kernel
set_option maxRecDepth 65536 in
theorem w_case : (Jvm.Cond.and given_1 narrow_1).before args0 about1 = true := by decide +kernel
theorem w_applies : (headSpec (Jvm.Cond.code x code maxLocals ret :: tables_1) room_1).applies x e0.platform about1 = true :=
  (Spec.applies_iff w_frames).mpr ⟨w_running, w_runnable, w_alone, w_named, w_hears, w_ripe, w_room, w_tables⟩
theorem atStart : AtStart classFile x code maxLocals ret World_1 tables_1 room_1 Calls_1 rest_1 Pre_1 launch0 p0 e0 about1 theMethod args0 below0 :=
  ⟨lists_1, trivial, launch0.admits_env _ _ _, launch0.least_env, fairChoices_fair.cas, fairChoices_fair.clock, w_frames, w_args, w_heap, w_applies, ⟨⟨24, k24, 1, by decide +kernel, rfl, rfl, _, rfl, rfl⟩, trivial⟩, w_rest, w_case⟩
end start1
theorem witness_1 : WitnessClaimed_1 := ⟨start1.p0, start1.e0, start1.about1, start1.theMethod, start1.args0, start1.below0, start1.atStart⟩
end Jvm.Pilot.@@N@@
