import JvmDerived
import JvmDerived.Pilot.@@N@@Statement
import JvmDerived.Pilot.@@N@@Code
set_option linter.unusedVariables false
set_option linter.unusedSimpArgs false
@@BLOCK:NumsL.lean.txt@@
namespace Jvm.Pilot.@@N@@
open Jvm Jvm.ClassFile Sem Op Lib Jvm.Free Jvm.Stand Jvm.LawKit Jvm.RoadKit Bundle Jvm.Pilot.@@N@@.Jvm.D
section Own
variable {p : Program} {l : Launch} {e : Env} {R : Room} {s : State} {m : MethodId} {args : Array Value} {below : List Frame} {meth : Method} {c : Code} {T : State} {locs : List Loc} {cells slots cl sl : Nat} {Q : Option Value → Heap → List Loc → Prop}
/-- from the state S the invocation comes to its end, returns, and Q holds of what it returned and left -/
def Goes (p : Program) (e : Env) (below : List Frame) (s : State) (cl sl : Nat) (Q : Option Value → Heap → List Loc → Prop) (S : State) : Prop :=
  ∃ s₂ o, Steps p.tables e below S s₂ ∧ s₂.status = .running ∧ Ended s₂ below o ∧ ∃ v L, o = .returned v ∧ Q v s₂.heap L ∧ FrameEnd s o s₂ L cl sl
theorem Goes.step {S S' : State} (h : ∀ t, Steps p.tables e below S' t → Steps p.tables e below S t) (k : Goes p e below s cl sl Q S') : Goes p e below s cl sl Q S := by
  obtain ⟨s₂, o, a, b⟩ := k
  exact ⟨s₂, o, h _ a, b⟩
theorem Goes.back {S S' : State} (h : Steps p.tables e below S S') (k : Goes p e below s cl sl Q S') : Goes p e below s cl sl Q S := Goes.step (fun _ q => h.trans q) k
theorem Goes.ret (X : Stand p l e R s m args below meth c T locs cells slots) (hx : p.tables.exec = Jvm.exec) (hlk : meth.locks = false) {pc : Nat} {Ls : Array Slot} {w : Value} {t : FieldType} {i : Instr} {rest : List Value} (hret : meth.sig.returnType = some t) (hn : narrow t w = w)
    (hi : (i = .ireturn ∧ (t = .int ∨ t = .boolean ∨ t = .byte ∨ t = .char ∨ t = .short) ∧ ∃ z, w = .int z) ∨ (i = .lreturn ∧ t = .long ∧ ∃ z, w = .long z) ∨ (i = .dreturn ∧ t = .double ∧ ∃ z, w = .double z) ∨ (i = .freturn ∧ t = .float ∧ ∃ z, w = .float z) ∨ (i = .areturn ∧ t.isReference = true ∧ w.isRef = true))
    (hd : decode c.code pc = .ok (i, 1)) (hQ : Q (some w) T.heap locs) (hc : cells ≤ cl) (hs : slots ≤ sl) : Goes p e below s cl sl Q (T.setTop (mkF m pc Ls (w :: rest))) := by
  obtain ⟨fs, hr, hrun, hended, hW, hsame⟩ := X.leave (v := some w) (fun h => by rw [hret] at h; cases h) hlk
  exact ⟨_, _, retOut X hx hret hn hi hd hr, hrun, hended, _, _, rfl, hQ, ⟨_, rfl⟩, hW, hsame.mono hc hs⟩
theorem Goes.retV (X : Stand p l e R s m args below meth c T locs cells slots) (hx : p.tables.exec = Jvm.exec) (hlk : meth.locks = false) {pc : Nat} {Ls : Array Slot} (hret : meth.sig.returnType = none)
    (hd : decode c.code pc = .ok (.return_, 1)) (hQ : Q none T.heap locs) (hc : cells ≤ cl) (hs : slots ≤ sl) : Goes p e below s cl sl Q (T.setTop (mkF m pc Ls [])) := by
  obtain ⟨fs, hr, hrun, hended, hW, hsame⟩ := X.leave (v := none) (fun _ => rfl) hlk
  exact ⟨_, _, X.returnOut hx hret hd hr, hrun, hended, _, _, rfl, hQ, ⟨_, rfl⟩, hW, hsame.mono hc hs⟩
theorem own_eqInt {args : Array Value} {s : State} {t : Term} {k : Int32} (h : (Cond.eq t (.int k)).value args s none s [] = some true) : t.eval args s none [] s = some (.int k) := by
  obtain ⟨x, y, hx, hy, -, k2⟩ := cmp_v (Or.inl h)
  obtain rfl : y = .int k := (Option.some.inj hy).symm
  obtain ⟨z, rfl⟩ := k2
  have e : (Cond.eq t (.int k)).value args s none s [] = some (decide (z = k)) := by simp [Cond.value, hx, hy]
  rw [hx, gotT e h]
theorem own_eqLong {args : Array Value} {s : State} {t : Term} {k : Int64} (h : (Cond.eq t (.long k)).value args s none s [] = some true) : t.eval args s none [] s = some (.long k) := by
  obtain ⟨x, y, hx, hy, -, k2⟩ := cmp_v (Or.inl h)
  obtain rfl : y = .long k := (Option.some.inj hy).symm
  obtain ⟨z, rfl⟩ := k2
  rw [hx, gotT (eq_L hx hy) h]
theorem own_neFld {Z : State} {h : Heap} {a b : Addr} {C n d : String} {x y : Int32} (F : Fld Z h a C n d (.int x)) (G : Fld Z h b C n d (.int y)) (q : x ≠ y) : a ≠ b := fun e => by
  subst e
  obtain ⟨cell, cf, k, i, f, h1, h2, -, -, -, -, h7⟩ := F
  obtain ⟨cell', cf', k', i', f', g1, g2, -, -, -, -, g7⟩ := G
  cases h1.symm.trans g1
  cases h2.symm.trans g2
  rw [h7] at g7
  injection g7 with g8
  injection g8 with g9
  exact q g9
theorem own_miss1 {k : Int32} {a : Int} (b : Int32) (hb : b.toInt = a) (h : ¬ k = b) : a ≠ k.toInt := fun q => h (Int32.toInt_inj.mp (by rw [hb, q]))
theorem own_find3 {k : Int32} {a b c' o1 o2 o3 : Int} {a' b' d' : Int32} (ha : ¬ k = a') (hb : ¬ k = b') (hc : ¬ k = d') (ea : a'.toInt = a := by rfl) (eb : b'.toInt = b := by rfl) (ec : d'.toInt = c' := by rfl) : (#[(a, o1), (b, o2), (c', o3)] : Array (Int × Int)).find? (·.1 == k.toInt) = none :=
  find_miss fun p hp => by
    simp only [List.mem_cons, List.not_mem_nil, or_false] at hp
    rcases hp with rfl | rfl | rfl
    · exact own_miss1 _ ea ha
    · exact own_miss1 _ eb hb
    · exact own_miss1 _ ec hc
theorem own_insKeep {Z : State} {h h' : Heap} {a : Addr} {C : String} {b : Bool} {ws : List Addr} (F : Ins Z h a C b) (K : Keep h h' ws) : Ins Z h' a C b := by
  obtain ⟨cell, cT, h1, h2, h3⟩ := F
  obtain ⟨c', q, r1, r2, r3⟩ := K.2.2 a cell h1
  exact ⟨c', cT, q, h2, by rw [r1, r2]; exact h3⟩
theorem own_insLt {Z : State} {h : Heap} {a : Addr} {C : String} {b : Bool} (F : Ins Z h a C b) : a < h.size := by
  obtain ⟨cell, cT, h1, -⟩ := F
  exact (Array.getElem?_eq_some_iff.mp h1).1
theorem own_cat {v : Value} (h : v.isRef = true) : v.category = 1 := by cases v <;> first | rfl | (simp [Value.isRef] at h)
theorem own_nar {ty : FieldType} {v : Value} (h : v.isRef = true) : narrow ty v = v := by cases v <;> first | (simp [Value.isRef] at h; done) | (cases ty <;> rfl)
theorem own_fit {C : String} {v : Value} (h : v.isRef = true) : fits (.object C) v = true := by cases v <;> first | rfl | (simp [Value.isRef] at h)
/-- a private method is selected by its own type, which is no interface since another method of it is selected -/
theorem own_selPriv {s : State} {args : Array Value} {C : String} {x z y : MethodName} (w : (Cond.selects C x z).before args s = true) (hc : z.cls = y.cls) (hp : (Cond.privateMethod y).before args s = true) (hi : (Cond.instanceMethod y).before args s = true)
    (hy : y.cls ≠ "java/lang/invoke/MethodHandle" ∧ y.cls ≠ "java/lang/invoke/VarHandle") : (Cond.selects y.cls y y).before args s = true := by
  obtain ⟨c2, r2, m2, -, -, q3, -, kP, hkP, hkPi⟩ := Cond.selects_spec w
  have hf := findClass_of_methodNamed q3
  rw [hc] at hf
  exact selects_self_of_private hf hkP hkPi (Cond.privateMethod_at hp) hi hy
/-- an array whose contents aren't told -/
def Arx (Z : State) (h : Heap) (a : Addr) (k : ClassId) (ty : FieldType) (n : Int32) : Prop :=
  ∃ cl : Cell, Arr Z h a cl ty ∧ cl.cls = k ∧ cl.slots.size = n.toNatClampNeg ∧ ¬ n < 0 ∧ ∀ i, i < cl.slots.size → ∃ v, cl.slots[i]? = some v ∧ fits ty v = true
theorem Arx.lt {Z : State} {h : Heap} {a : Addr} {k : ClassId} {ty : FieldType} {n : Int32} (F : Arx Z h a k ty n) : a < h.size := by obtain ⟨cl, A, -⟩ := F; exact A.lt
theorem Arx.ext {Z : State} {h h' : Heap} {a : Addr} {k : ClassId} {ty : FieldType} {n : Int32} (F : Arx Z h a k ty n) (E : Ext h h') : Arx Z h' a k ty n := by obtain ⟨cl, A, r⟩ := F; exact ⟨cl, A.ext E, r⟩
theorem Arx.other {Z : State} {h h' : Heap} {a b : Addr} {k : ClassId} {ty : FieldType} {n : Int32} {sl : Nat} {v : Value} (F : Arx Z h b k ty n) (W : Wr h h' a sl v) (q : b ≠ a) : Arx Z h' b k ty n := by obtain ⟨cl, A, r⟩ := F; exact ⟨cl, A.other W q, r⟩
theorem Arx.keep {Z : State} {h h' : Heap} {a : Addr} {k : ClassId} {ty : FieldType} {n : Int32} {ws : List Addr} (F : Arx Z h a k ty n) (K : Keep h h' ws) (q : a ∉ ws) : Arx Z h' a k ty n := by obtain ⟨cl, A, r⟩ := F; exact ⟨cl, ⟨K.2.1 a cl A.1 q, A.2⟩, r⟩
theorem Arx.set {Z : State} {h h' : Heap} {a : Addr} {k : ClassId} {ty : FieldType} {n : Int32} {cl : Cell} {sl : Nat} {v : Value} (A : Arr Z h a cl ty) (q1 : cl.cls = k) (S : cl.slots.size = n.toNatClampNeg) (P : ¬ n < 0) (G : ∀ i, i < cl.slots.size → ∃ v, cl.slots[i]? = some v ∧ fits ty v = true) (hv : fits ty v = true) (W : Wr h h' a sl v) : Arx Z h' a k ty n := by
  refine ⟨_, A.same W, q1, by rw [sz_set]; exact S, P, fun i hi => ?_⟩
  rw [sz_set] at hi
  by_cases u : sl = i
  · subst u
    exact ⟨v, by simp [Cell.setSlot, hi], hv⟩
  · obtain ⟨w, e1, e2⟩ := G i hi
    refine ⟨w, ?_, e2⟩
    show (cl.slots.setIfInBounds sl v)[i]? = some w
    rw [Array.getElem?_setIfInBounds_ne u]
    exact e1
theorem own_arx {Z : State} {h : Heap} {a : Addr} {k : ClassId} {ty : FieldType} {n : Int32} {vs : List Value} {d : Value} (F : Arv Z h a k ty n vs d) : Arx Z h a k ty n := by
  obtain ⟨cl, A, r1, r2, r3, H, G⟩ := F
  exact ⟨cl, A, r1, r2, r3, fun i hi => ⟨_, H i hi, G i hi⟩⟩
theorem own_arI {cl : Cell} {j : Int32} (G : ∀ i, i < cl.slots.size → ∃ v, cl.slots[i]? = some v ∧ fits .int v = true) (hin : ¬ (j < 0 ∨ cl.slots.size ≤ j.toNatClampNeg)) : ∃ x : Int32, cl.slots[j.toNatClampNeg]? = some (.int x) := by
  obtain ⟨v, e1, e2⟩ := G _ (Nat.lt_of_not_le fun q => hin (Or.inr q))
  obtain ⟨x, rfl⟩ := fit_I e2 (Or.inl rfl)
  exact ⟨x, e1⟩
theorem own_arD {cl : Cell} {j : Int32} (G : ∀ i, i < cl.slots.size → ∃ v, cl.slots[i]? = some v ∧ fits .double v = true) (hin : ¬ (j < 0 ∨ cl.slots.size ≤ j.toNatClampNeg)) : ∃ x, cl.slots[j.toNatClampNeg]? = some (.double x) := by
  obtain ⟨v, e1, e2⟩ := G _ (Nat.lt_of_not_le fun q => hin (Or.inr q))
  obtain ⟨x, rfl⟩ := fit_D e2
  exact ⟨x, e1⟩
end Own
theorem own_arx0 {s : State} {args : Array Value} {t : Term} {a : Addr} {cl : Cell} {ty : FieldType} {n : Int32} (hfit : Fit s) (et : t.eval args s none [] s = some (.ref a)) (A : Arr s s.heap a cl ty) (hl : (Term.length t).eval args s none [] s = some (.int n)) (hn : ¬ n < 0) : Arx s s.heap a cl.cls ty n := by
  obtain ⟨x, c2, e1, e2, e4, e3⟩ := Jvm.Free.SB.Term.length_small hl
  cases et.symm.trans e1
  cases (A.fin (Vm.Alike.refl _)).symm.trans e2
  injection e4 with e5
  have hs : cl.slots.size = n.toNatClampNeg := by
    rw [e5]
    simp only [Int32.toNatClampNeg, len_toInt e3]
    rfl
  refine ⟨cl, A, rfl, hs, hn, fun i hi => ?_⟩
  have hq : ¬ (i.toInt32 < 0 ∨ cl.slots.size ≤ i.toInt32.toNatClampNeg) := idx_in hi e3
  obtain ⟨v, r1, r2⟩ := elem_fit hfit A hq
  refine ⟨v, ?_, r2⟩
  have hi2 : i.toInt32.toNatClampNeg = i := by simp only [Int32.toNatClampNeg, len_toInt (Nat.lt_trans hi e3)]; rfl
  rw [hi2] at r1
  exact r1
section OwnNums
theorem own_maskNN (x : Int32) : 0 ≤ (x &&& 2147483647).toInt ∧ (x &&& 2147483647).toInt < 2 ^ 31 := by
  have h : (x &&& 2147483647).toInt = x.toInt % 2 ^ 31 := Jvm.Kit.i32_mask x 2147483647 (k := 31) (by decide) (by decide)
  omega
theorem own_remB (x : Int32) (n : Int32) (hn : 0 < n.toInt) : 0 ≤ ((x &&& 2147483647) % n).toInt ∧ ((x &&& 2147483647) % n).toInt < n.toInt := by
  rw [Int32.toInt_mod, Int.tmod_eq_emod_of_nonneg (own_maskNN x).1]
  exact ⟨Int.emod_nonneg _ (by omega), Int.emod_lt_of_pos _ hn⟩
theorem own_eqOf {i : Int32} (k : Int32) (h : i.toInt = k.toInt) : i = k := Int32.toInt_inj.mp h
end OwnNums
section OwnCopy
variable {p : Program} {l : Launch} {e : Env} {R : Room} {s : State} {m : MethodId} {args : Array Value} {below : List Frame} {meth : Method} {c : Code} {T : State} {locs : List Loc} {cells slots : Nat} {Z : State} {h : Heap}
theorem own_keepSet {h : Heap} {a : Addr} {cd cx : Cell} (h1 : h[a]? = some cd) (q1 : cx.cls = cd.cls) (q2 : cx.vm = cd.vm) (q3 : cx.slots.size = cd.slots.size) : Keep h (h.setIfInBounds a cx) [a] := by
  refine ⟨by simp, fun x c q r => ?_, fun x c q => ?_⟩
  · have : a ≠ x := fun z => r (by simp [z])
    rw [Array.getElem?_setIfInBounds_ne this]; exact q
  · by_cases z : a = x
    · subst z; cases h1.symm.trans q
      exact ⟨cx, by rw [Array.getElem?_setIfInBounds_self_of_lt (Array.getElem?_eq_some_iff.mp h1).1], q1, q2, q3⟩
    · exact ⟨c, by rw [Array.getElem?_setIfInBounds_ne z]; exact q, rfl, rfl, rfl⟩
/-- System.arraycopy of n doubles from the place sp of one array to the start of another -/
theorem own_copyD (X : Stand p l e R s m args below meth c T locs cells slots) (hx : p.tables.exec = Jvm.exec) (hZ : Z.Warmed39 s.vm) {a0 : Array Value} {own : String} {index : Nat} (hown : s.vm.findClass own = some m.cls)
    (w1 : (Cond.methodLink own index ⟨"java/lang/System", "arraycopy", "(Ljava/lang/Object;ILjava/lang/Object;II)V"⟩).before a0 Z = true) (w2 : (Cond.native ⟨"java/lang/System", "arraycopy", "(Ljava/lang/Object;ILjava/lang/Object;II)V"⟩).before a0 Z = true)
    (w3 : (Cond.static ⟨"java/lang/System", "arraycopy", "(Ljava/lang/Object;ILjava/lang/Object;II)V"⟩).before a0 Z = true) (w4 : (Cond.initialized "java/lang/System").before a0 Z = true) (eT : T.heap = h)
    {src dst : Addr} {k1 k2 : ClassId} {n1 n2 sp n : Int32} {vs us : List Value} {d1 d2 : Value} (FS : Arv Z h src k1 .double n1 vs d1) (FD : Arv Z h dst k2 .double n2 us d2)
    (h1 : ¬ sp < 0) (h3 : ¬ n < 0) (hv : vs.length = n1.toNatClampNeg) (hu : us.length = n2.toNatClampNeg) (h4 : sp.toNatClampNeg + n.toNatClampNeg ≤ vs.length) (h5 : n.toNatClampNeg ≤ us.length)
    {g : JFrame} (hg : g.method = m) (hsize : g.locals.size = c.maxLocals) {rest : List Value} (hstack : g.stack = .int n :: .int 0 :: .ref dst :: .int sp :: .ref src :: rest) (hdg : decode c.code g.pc = .ok (.invokestatic index, 3))
    (hframes : 1 ≤ R.frames) (hlocals : 2 * g.monitorRoom + (rest.map fun v => v.category).sum + (nativeFrameWords "java/lang/System" "arraycopy" 5 + 11) ≤ R.locals) :
    ∃ T' h' L', Stand p l e R s m args below meth c T' (locs ++ L') cells slots ∧ T'.heap = h' ∧ (∀ y ∈ L', y.base = dst) ∧ Keep h h' [dst] ∧ Arv Z h' dst k2 .double n2 ((vs.drop sp.toNatClampNeg).take n.toNatClampNeg ++ us.drop n.toNatClampNeg) d2 ∧
      ∀ target, Steps p.tables e below (T'.setTop { g with pc := g.pc + 3, stack := rest }) target → Steps p.tables e below (T.setTop g) target := by
  obtain ⟨cs, As, q1, S1, P1, H1, G1⟩ := FS
  obtain ⟨cd, Ad, q2, S2, P2, H2, G2⟩ := FD
  obtain ⟨ks, hks, compS, hkS⟩ := (State.isArrayOf_alike hZ.alike As.2.1).2
  obtain ⟨kd, hkd, compD, hkD⟩ := (State.isArrayOf_alike hZ.alike Ad.2.1).2
  have esp : sp.toInt = (sp.toNatClampNeg : Int) := by rw [Int32.lt_iff_toInt_lt] at h1; have z : (0 : Int32).toInt = 0 := rfl; simp only [Int32.toNatClampNeg]; omega
  have en : n.toInt = (n.toNatClampNeg : Int) := by rw [Int32.lt_iff_toInt_lt] at h3; have z : (0 : Int32).toInt = 0 := rfl; simp only [Int32.toNatClampNeg]; omega
  have hfit : ∀ i, i < n.toNatClampNeg → fits .double (cs.slots.getD (sp.toNatClampNeg + i) .null) = true ∧ ∃ x, cs.slots.getD (sp.toNatClampNeg + i) .null = .double x := fun i hi => by
    have hb : sp.toNatClampNeg + i < cs.slots.size := by rw [S1, ← hv]; omega
    have e1 := H1 _ hb
    have e2 := G1 _ hb
    have e3 : cs.slots.getD (sp.toNatClampNeg + i) .null = vs.getD (sp.toNatClampNeg + i) d1 := by
      rw [Array.getElem?_eq_getElem hb] at e1
      simp only [Array.getD, dif_pos hb]
      exact Option.some.inj e1
    rw [e3]
    exact ⟨e2, fit_D e2⟩
  obtain ⟨vm', X', st⟩ := X.arraycopy hx hown (mvT hZ w1) (mvT hZ w2) (mvT hZ w3) (mvT hZ w4) (src := src) (dst := dst) (srcPos := sp) (destPos := 0) (n := n) (cs := cs) (cd := cd) (by rw [eT]; exact As.1) (by rw [eT]; exact Ad.1)
    As.2.1.1 Ad.2.1.1 As.2.2 Ad.2.2 hks hkd hkS hkD rfl h1 (by decide) h3 (by rw [S1, ← hv, esp, en]; omega) (by rw [S2, ← hu, en]; have z : (0 : Int32).toInt = 0 := rfl; omega)
    (fun vm2 _ i hi => ⟨(hfit i hi).1, by obtain ⟨x, hx2⟩ := (hfit i hi).2; rw [hx2]; trivial⟩) hg hsize hstack hdg hframes hlocals
  have z0 : (0 : Int32).toNatClampNeg = 0 := rfl
  obtain ⟨f1, f2, f3, -, -⟩ := Cell.storeRun_facts cd (0 : Int32).toNatClampNeg (cs.stretch sp.toNatClampNeg n.toNatClampNeg)
  have hin : (0 : Int32).toNatClampNeg + (cs.stretch sp.toNatClampNeg n.toNatClampNeg).length ≤ cd.slots.size := by rw [Cell.stretch_length, S2, ← hu, z0]; omega
  have hget := fun j => Cell.storeRun_get cd (0 : Int32).toNatClampNeg (cs.stretch sp.toNatClampNeg n.toNatClampNeg) j hin
  have hlt : dst < h.size := (Array.getElem?_eq_some_iff.mp Ad.1).1
  refine ⟨_, _, _, X', rfl, ?_, ?_, ?_, st⟩
  · intro y hy
    obtain ⟨z, -, rfl⟩ := List.mem_map.mp hy
    rfl
  · show Keep h (T.heap.setIfInBounds dst _) [dst]
    rw [eT]
    exact own_keepSet Ad.1 f1 f2 f3
  · refine ⟨copied cs cd sp 0 n, ⟨?_, ⟨by rw [f2]; exact Ad.2.1.1, by rw [f1]; exact Ad.2.1.2⟩, by rw [f2]; exact Ad.2.2⟩, f1.trans q2, f3.trans S2, P2, ?_, ?_⟩
    · show (T.heap.setIfInBounds dst _)[dst]? = _
      rw [eT, Array.getElem?_setIfInBounds_self_of_lt hlt]
    · intro j hj
      rw [f3] at hj
      show (cd.storeRun _ _).slots[j]? = _
      rw [hget j, Cell.stretch_length, z0]
      by_cases u : j < n.toNatClampNeg
      · rw [if_pos ⟨Nat.zero_le _, by omega⟩]
        have hb : sp.toNatClampNeg + j < cs.slots.size := by rw [S1, ← hv]; omega
        have e1 := H1 _ hb
        have e3 : cs.slots.getD (sp.toNatClampNeg + j) .null = vs.getD (sp.toNatClampNeg + j) d1 := by
          rw [Array.getElem?_eq_getElem hb] at e1
          simp only [Array.getD, dif_pos hb]
          exact Option.some.inj e1
        have e4 : (cs.stretch sp.toNatClampNeg n.toNatClampNeg)[j - 0]? = some (cs.slots.getD (sp.toNatClampNeg + j) .null) := by simp [Cell.stretch, u]
        rw [e4, e3]
        congr 1
        simp only [List.getD_eq_getElem?_getD]
        rw [List.getElem?_append_left (by rw [List.length_take, List.length_drop]; omega), List.getElem?_take, if_pos u, List.getElem?_drop, List.getElem?_eq_getElem (by omega), Option.getD_some, Option.getD_some]
      · rw [if_neg (by omega), H2 j hj]
        congr 1
        simp only [List.getD_eq_getElem?_getD]
        rw [List.getElem?_append_right (by rw [List.length_take, List.length_drop]; omega), List.getElem?_drop, List.length_take, List.length_drop]
        congr 2
        omega
    · intro j hj
      rw [f3] at hj
      simp only [List.getD_eq_getElem?_getD]
      by_cases u : j < n.toNatClampNeg
      · rw [List.getElem?_append_left (by rw [List.length_take, List.length_drop]; omega), List.getElem?_take, if_pos u, List.getElem?_drop]
        have hb : sp.toNatClampNeg + j < cs.slots.size := by rw [S1, ← hv]; omega
        have e2 := G1 _ hb
        rw [List.getD_eq_getElem?_getD, List.getElem?_eq_getElem (by omega), Option.getD_some] at e2
        rw [List.getElem?_eq_getElem (by omega), Option.getD_some]
        exact e2
      · rw [List.getElem?_append_right (by rw [List.length_take, List.length_drop]; omega), List.getElem?_drop, List.length_take, List.length_drop]
        have e2 := G2 _ hj
        rw [List.getD_eq_getElem?_getD] at e2
        have e5 : n.toNatClampNeg + (j - min n.toNatClampNeg (vs.length - sp.toNatClampNeg)) = j := by omega
        rw [e5]
        exact e2
end OwnCopy
section OwnD
theorem own_nn (x : Int32) : cmpValue (FP.dcmp (FP.i2d x) (FP.i2d x)) .l = (0 : Int32) := dcmpV_self (nn_w (i2d_w x)) .l
theorem own_m1 : cmpValue (FP.dcmp (13830554455654793216 : UInt64) (13830554455654793216 : UInt64)) .l = (0 : Int32) := by decide +kernel
theorem own_30 : (0 : Int32) < cmpValue (FP.dcmp (4629137466983448576 : UInt64) FP.dconst0) .l := by decide +kernel
theorem own_three {x i : Int32} (h : (x &&& (2147483647 : Int32)) % (3 : Int32) = i) : i = 0 ∨ i = 1 ∨ i = 2 := by
  have b := own_remB x 3 (by decide)
  rw [h] at b
  have e : (3 : Int32).toInt = 3 := rfl
  have q : i.toInt = 0 ∨ i.toInt = 1 ∨ i.toInt = 2 := by omega
  rcases q with q | q | q
  · exact Or.inl (own_eqOf 0 q)
  · exact Or.inr (Or.inl (own_eqOf 1 q))
  · exact Or.inr (Or.inr (own_eqOf 2 q))
end OwnD
theorem d1_0 : decode method_2_code 0 = .ok (.iload_n 0, 1) := by decide +kernel
theorem d1_1 : decode method_2_code 1 = .ok (.iload_n 1, 1) := by decide +kernel
theorem d1_2 : decode method_2_code 2 = .ok (.imul, 1) := by decide +kernel
theorem d1_3 : decode method_2_code 3 = .ok (.iload_n 2, 1) := by decide +kernel
theorem d1_4 : decode method_2_code 4 = .ok (.iadd, 1) := by decide +kernel
theorem d1_5 : decode method_2_code 5 = .ok (.i2d, 1) := by decide +kernel
theorem d1_6 : decode method_2_code 6 = .ok (.dreturn, 1) := by decide +kernel
theorem pn_1 : plainName "com/example/orbitloom/orbitloom/orbits/TrackSamplePinLaw" = true := by first | (simp [plainName, overriddenIn]; done) | decide +kernel
theorem ef_1 (m : MethodId) (x0 : Int32) (x1 : Int32) (x2 : Int32)  : entryFrame m #[(.int x0), (.int x1), (.int x2)] 3 = mkF m 0 #[.val (.int x0), .val (.int x1), .val (.int x2)] [] := by first | (simp [entryFrame, mkF, argsToLocals, Value.category]; done) | rfl
def Q1 (Z : State) (x0 : Int32) (x1 : Int32) (x2 : Int32) (h0 : Heap) (n0 : Nat) (v : Option Value) (h : Heap) (L : List Loc) : Prop := Fr n0 L ∧ h = h0 ∧ ((v = some (.double (FP.i2d ((x0 * x1) + x2)))))
set_option maxRecDepth 65536 in
set_option maxHeartbeats 40000000 in
theorem rm1 (l : Launch) (Z : State) (a0 : Array Value) (hw : ∀ d ∈ tables_1, d.before a0 Z = true) (ws : List Jvm.Cond) (x0 : Int32) (x1 : Int32) (x2 : Int32) (h0 : Heap) (n0 : Nat) (Z0 : n0 ≤ h0.size) :
    MetFree l (⟨"com/example/orbitloom/orbitloom/orbits/TrackSamplePinLaw", "v", "(III)D"⟩ : MethodName) (head1 (Jvm.Cond.code (⟨"com/example/orbitloom/orbitloom/orbits/TrackSamplePinLaw", "v", "(III)D"⟩ : MethodName) method_2_code 3 (some .double) :: ws) ({ frames := 0, cells := 0, slots := 0, locals := 0 } : Room)) (fun a U => a = #[(.int x0), (.int x1), (.int x2)] ∧ Z.Warmed39 U.vm ∧ U.heap = h0) (fun _ _ _ _ _ => True) (fun _ U o U' => ∃ v L, o = .returned v ∧ Q1 Z x0 x1 x2 h0 n0 v U'.heap L ∧ FrameEnd U o U' L ({ frames := 0, cells := 0, slots := 0, locals := 0 } : Room).cells ({ frames := 0, cells := 0, slots := 0, locals := 0 } : Room).slots) := by
  refine MetFree.of_bodySF (plainFor_of_name pn_1) hisR ?_
  intro p e s m args below meth c s₁ Bd hml0 hP hK
  obtain ⟨rfl, hZ, hh⟩ := hP
  have hx := Bd.exec
  have hby := Bd.bytes
  have hml : c.maxLocals = 3 := hml0
  have hown : s.vm.findClass "com/example/orbitloom/orbitloom/orbits/TrackSamplePinLaw" = some m.cls := findClass_of_methodNamed Bd.named
  have hnm := (name_of_methodNamed Bd.named Bd.method).1
  have X0 : Stand p l e ({ frames := 0, cells := 0, slots := 0, locals := 0 } : Room) s m #[(.int x0), (.int x1), (.int x2)] below meth c s₁ [] 0 0 := Stand.of_body Bd
  have e0 : s₁.heap = h0 := by rw [← hh, Bd.state]; rfl
  have N0 := Fr.nil n0
  have K0 : Keep h0 h0 [] := Keep.refl h0 _
  refine (?_ : Goes p e below s ({ frames := 0, cells := 0, slots := 0, locals := 0 } : Room).cells ({ frames := 0, cells := 0, slots := 0, locals := 0 } : Room).slots (fun v h L => Q1 Z x0 x1 x2 h0 n0 v h L) (s₁.setTop (entryFrame m #[(.int x0), (.int x1), (.int x2)] 3)))
  rw [ef_1 m x0 x1 x2 ]
  show Goes _ _ _ _ _ _ _ (s₁.setTop (mkF m 0 #[.val (.int x0), .val (.int x1), .val (.int x2)] []))
  refine Goes.step (fun _ k => XS.iloadN X0.here hx rfl (hb hby d1_0) rfl  k) ?_
  show Goes _ _ _ _ _ _ _ (s₁.setTop (mkF m 1 #[.val (.int x0), .val (.int x1), .val (.int x2)] [(.int x0)]))
  refine Goes.step (fun _ k => XS.iloadN X0.here hx rfl (hb hby d1_1) rfl  k) ?_
  show Goes _ _ _ _ _ _ _ (s₁.setTop (mkF m 2 #[.val (.int x0), .val (.int x1), .val (.int x2)] [(.int x1), (.int x0)]))
  refine Goes.step (fun _ k => XS.imul X0.here hx rfl (hb hby d1_2) rfl k) ?_
  show Goes _ _ _ _ _ _ _ (s₁.setTop (mkF m 3 #[.val (.int x0), .val (.int x1), .val (.int x2)] [(.int (x0 * x1))]))
  refine Goes.step (fun _ k => XS.iloadN X0.here hx rfl (hb hby d1_3) rfl  k) ?_
  show Goes _ _ _ _ _ _ _ (s₁.setTop (mkF m 4 #[.val (.int x0), .val (.int x1), .val (.int x2)] [(.int x2), (.int (x0 * x1))]))
  refine Goes.step (fun _ k => XS.iadd X0.here hx rfl (hb hby d1_4) rfl k) ?_
  show Goes _ _ _ _ _ _ _ (s₁.setTop (mkF m 5 #[.val (.int x0), .val (.int x1), .val (.int x2)] [(.int ((x0 * x1) + x2))]))
  refine Goes.step (fun _ k => XS.i2dS X0.here hx rfl (hb hby d1_5) rfl rfl k) ?_
  show Goes _ _ _ _ _ _ _ (s₁.setTop (mkF m 6 #[.val (.int x0), .val (.int x1), .val (.int x2)] [(.double (FP.i2d ((x0 * x1) + x2)))]))
  exact Goes.ret X0 hx (BodyLoose.notSynchronized Bd) Bd.returns rfl (Or.inr (Or.inr (Or.inl ⟨rfl, rfl, _, rfl⟩))) (hb hby d1_6) (by show Q1 Z x0 x1 x2 h0 n0 (some (.double (FP.i2d ((x0 * x1) + x2)))) s₁.heap _; rw [e0]; exact ⟨N0, rfl, rfl⟩) (by decide) (by decide)
theorem d2_0 : decode prog_63_method_1_code 0 = .ok (.aload_n 0, 1) := by decide +kernel
theorem d2_1 : decode prog_63_method_1_code 1 = .ok (.invokespecial 1, 3) := by decide +kernel
theorem d2_4 : decode prog_63_method_1_code 4 = .ok (.dload_n 1, 1) := by decide +kernel
theorem d2_5 : decode prog_63_method_1_code 5 = .ok (.dconst 0, 1) := by decide +kernel
theorem d2_6 : decode prog_63_method_1_code 6 = .ok (.dcmp .l, 1) := by decide +kernel
theorem d2_7 : decode prog_63_method_1_code 7 = .ok (.ifCond .le 18, 3) := by decide +kernel
theorem d2_10 : decode prog_63_method_1_code 10 = .ok (.aload_n 3, 1) := by decide +kernel
theorem d2_11 : decode prog_63_method_1_code 11 = .ok (.arraylength, 1) := by decide +kernel
theorem d2_12 : decode prog_63_method_1_code 12 = .ok (.bipush 12, 2) := by decide +kernel
theorem d2_14 : decode prog_63_method_1_code 14 = .ok (.if_icmp .lt 11, 3) := by decide +kernel
theorem d2_17 : decode prog_63_method_1_code 17 = .ok (.aload_n 3, 1) := by decide +kernel
theorem d2_18 : decode prog_63_method_1_code 18 = .ok (.arraylength, 1) := by decide +kernel
theorem d2_19 : decode prog_63_method_1_code 19 = .ok (.bipush 6, 2) := by decide +kernel
theorem d2_21 : decode prog_63_method_1_code 21 = .ok (.irem, 1) := by decide +kernel
theorem d2_22 : decode prog_63_method_1_code 22 = .ok (.ifCond .eq 13, 3) := by decide +kernel
theorem d2_35 : decode prog_63_method_1_code 35 = .ok (.aload_n 0, 1) := by decide +kernel
theorem d2_36 : decode prog_63_method_1_code 36 = .ok (.dload_n 1, 1) := by decide +kernel
theorem d2_37 : decode prog_63_method_1_code 37 = .ok (.putfield 16, 3) := by decide +kernel
theorem d2_40 : decode prog_63_method_1_code 40 = .ok (.aload_n 0, 1) := by decide +kernel
theorem d2_41 : decode prog_63_method_1_code 41 = .ok (.aload_n 3, 1) := by decide +kernel
theorem d2_42 : decode prog_63_method_1_code 42 = .ok (.putfield 20, 3) := by decide +kernel
theorem d2_45 : decode prog_63_method_1_code 45 = .ok (.aload_n 0, 1) := by decide +kernel
theorem d2_46 : decode prog_63_method_1_code 46 = .ok (.aload_n 3, 1) := by decide +kernel
theorem d2_47 : decode prog_63_method_1_code 47 = .ok (.arraylength, 1) := by decide +kernel
theorem d2_48 : decode prog_63_method_1_code 48 = .ok (.bipush 6, 2) := by decide +kernel
theorem d2_50 : decode prog_63_method_1_code 50 = .ok (.idiv, 1) := by decide +kernel
theorem d2_51 : decode prog_63_method_1_code 51 = .ok (.putfield 24, 3) := by decide +kernel
theorem d2_54 : decode prog_63_method_1_code 54 = .ok (.return_, 1) := by decide +kernel
theorem pn_2 : plainName "com/example/orbitloom/orbitloom/orbits/Track" = true := by first | (simp [plainName, overriddenIn]; done) | decide +kernel
theorem ef_2 (m : MethodId) (x0 : Addr) (x2 : Addr) (ka_x2 : ClassId)  : entryFrame m #[(.ref x0), (.double (4629137466983448576 : UInt64)), (.ref x2)] 4 = mkF m 0 #[.val (.ref x0), .val (.double (4629137466983448576 : UInt64)), .second, .val (.ref x2)] [] := by first | (simp [entryFrame, mkF, argsToLocals, Value.category]; done) | rfl
def Q2 (Z : State) (x0 : Addr) (x2 : Addr) (ka_x2 : ClassId) (h0 : Heap) (n0 : Nat) (v : Option Value) (h : Heap) (L : List Loc) : Prop := Fr n0 L ∧ Keep h0 h [x0] ∧ ((v = none ∧ Fld Z h x0 "com/example/orbitloom/orbitloom/orbits/Track" "step" "D" (.double (4629137466983448576 : UInt64)) ∧ Fld Z h x0 "com/example/orbitloom/orbitloom/orbits/Track" "samples" "[D" (.ref x2) ∧ Fld Z h x0 "com/example/orbitloom/orbitloom/orbits/Track" "size" "I" (.int (3 : Int32)) ∧ Exa Z h x0 "com/example/orbitloom/orbitloom/orbits/Track"))
set_option maxRecDepth 65536 in
set_option maxHeartbeats 40000000 in
theorem rm2 (l : Launch) (Z : State) (a0 : Array Value) (hw : ∀ d ∈ tables_1, d.before a0 Z = true) (ws : List Jvm.Cond) (x0 : Addr) (x2 : Addr) (ka_x2 : ClassId) (h0 : Heap) (n0 : Nat) (Z0 : n0 ≤ h0.size) (F0_step : Fld Z h0 x0 "com/example/orbitloom/orbitloom/orbits/Track" "step" "D" (.double (0 : UInt64))) (F0_samples : Fld Z h0 x0 "com/example/orbitloom/orbitloom/orbits/Track" "samples" "[D" .null) (F0_size : Fld Z h0 x0 "com/example/orbitloom/orbitloom/orbits/Track" "size" "I" (.int (0 : Int32))) (E_x0 : Exa Z h0 x0 "com/example/orbitloom/orbitloom/orbits/Track") (V_x2 : Arx Z h0 x2 ka_x2 .double (18 : Int32)) (g_x0 : n0 ≤ x0) (ne_x2_x0 : x2 ≠ x0) :
    MetFree l (⟨"com/example/orbitloom/orbitloom/orbits/Track", "<init>", "(D[D)V"⟩ : MethodName) (head1 (Jvm.Cond.code (⟨"com/example/orbitloom/orbitloom/orbits/Track", "<init>", "(D[D)V"⟩ : MethodName) prog_63_method_1_code 4 none :: ws) ({ frames := 1, cells := 0, slots := 0, locals := 12 } : Room)) (fun a U => a = #[(.ref x0), (.double (4629137466983448576 : UInt64)), (.ref x2)] ∧ Z.Warmed39 U.vm ∧ U.heap = h0) (fun _ _ _ _ _ => True) (fun _ U o U' => ∃ v L, o = .returned v ∧ Q2 Z x0 x2 ka_x2 h0 n0 v U'.heap L ∧ FrameEnd U o U' L ({ frames := 1, cells := 0, slots := 0, locals := 12 } : Room).cells ({ frames := 1, cells := 0, slots := 0, locals := 12 } : Room).slots) := by
  refine MetFree.of_bodySF (plainFor_of_name pn_2) hisR ?_
  intro p e s m args below meth c s₁ Bd hml0 hP hK
  obtain ⟨rfl, hZ, hh⟩ := hP
  have hx := Bd.exec
  have hby := Bd.bytes
  have hml : c.maxLocals = 4 := hml0
  have hown : s.vm.findClass "com/example/orbitloom/orbitloom/orbits/Track" = some m.cls := findClass_of_methodNamed Bd.named
  have hnm := (name_of_methodNamed Bd.named Bd.method).1
  have X0 : Stand p l e ({ frames := 1, cells := 0, slots := 0, locals := 12 } : Room) s m #[(.ref x0), (.double (4629137466983448576 : UInt64)), (.ref x2)] below meth c s₁ [] 0 0 := Stand.of_body Bd
  have e0 : s₁.heap = h0 := by rw [← hh, Bd.state]; rfl
  have N0 := Fr.nil n0
  have K0 : Keep h0 h0 [x0] := Keep.refl h0 _
  refine (?_ : Goes p e below s ({ frames := 1, cells := 0, slots := 0, locals := 12 } : Room).cells ({ frames := 1, cells := 0, slots := 0, locals := 12 } : Room).slots (fun v h L => Q2 Z x0 x2 ka_x2 h0 n0 v h L) (s₁.setTop (entryFrame m #[(.ref x0), (.double (4629137466983448576 : UInt64)), (.ref x2)] 4)))
  rw [ef_2 m x0 x2 ka_x2 ]
  show Goes _ _ _ _ _ _ _ (s₁.setTop (mkF m 0 #[.val (.ref x0), .val (.double (4629137466983448576 : UInt64)), .second, .val (.ref x2)] []))
  refine Goes.step (fun _ k => XS.aloadN X0.here hx rfl (hb hby d2_0) rfl rfl k) ?_
  show Goes _ _ _ _ _ _ _ (s₁.setTop (mkF m 1 #[.val (.ref x0), .val (.double (4629137466983448576 : UInt64)), .second, .val (.ref x2)] [(.ref x0)]))
  obtain ⟨T1, X1, e1, st1⟩ := initO X0 hx hZ hown (hw _ (List.mem_of_getElem? (i := 14) rfl)) (hw _ (List.mem_of_getElem? (i := 15) rfl)) (hw _ (List.mem_of_getElem? (i := 16) rfl)) e0 (g := (mkF m 1 #[.val (.ref x0), .val (.double (4629137466983448576 : UInt64)), .second, .val (.ref x2)] [(.ref x0)])) rfl (by rw [hml]; rfl) rfl (hb hby d2_1) (by decide) (W := 0) (by show 2 * 0 + _ ≤ _; exact Nat.le_of_eq rfl) (by decide)
  refine Goes.step st1 ?_
  show Goes _ _ _ _ _ _ _ (T1.setTop (mkF m 4 #[.val (.ref x0), .val (.double (4629137466983448576 : UInt64)), .second, .val (.ref x2)] []))
  refine Goes.step (fun _ k => XS.dloadN X1.here hx rfl (hb hby d2_4) rfl k) ?_
  show Goes _ _ _ _ _ _ _ (T1.setTop (mkF m 5 #[.val (.ref x0), .val (.double (4629137466983448576 : UInt64)), .second, .val (.ref x2)] [(.double (4629137466983448576 : UInt64))]))
  refine Goes.step (fun _ k => XS.dconst0 X1.here hx rfl (hb hby d2_5) rfl k) ?_
  show Goes _ _ _ _ _ _ _ (T1.setTop (mkF m 6 #[.val (.ref x0), .val (.double (4629137466983448576 : UInt64)), .second, .val (.ref x2)] [(.double FP.dconst0), (.double (4629137466983448576 : UInt64))]))
  refine Goes.step (fun _ k => XS.dcmpS X1.here hx rfl (hb hby d2_6) rfl rfl k) ?_
  show Goes _ _ _ _ _ _ _ (T1.setTop (mkF m 7 #[.val (.ref x0), .val (.double (4629137466983448576 : UInt64)), .second, .val (.ref x2)] [(.int (cmpValue (FP.dcmp (4629137466983448576 : UInt64) FP.dconst0) .l))]))
  refine Goes.step (fun _ k => XS.ifNo X1.here hx rfl (hb hby d2_7) rfl ((if0 _ _).trans (tlt own_30).2.2.2) k) ?_
  show Goes _ _ _ _ _ _ _ (T1.setTop (mkF m 10 #[.val (.ref x0), .val (.double (4629137466983448576 : UInt64)), .second, .val (.ref x2)] []))
  refine Goes.step (fun _ k => XS.aloadN X1.here hx rfl (hb hby d2_10) rfl rfl k) ?_
  show Goes _ _ _ _ _ _ _ (T1.setTop (mkF m 11 #[.val (.ref x0), .val (.double (4629137466983448576 : UInt64)), .second, .val (.ref x2)] [(.ref x2)]))
  obtain ⟨cl2, Ar2, q2, S2, P2, G2⟩ := id V_x2
  refine Goes.step (fun _ k => X1.arraylength hx (by rw [e1]; exact Ar2.1) (State.isArrayOf_alike hZ.alike Ar2.2.1) (g := (mkF m 11 #[.val (.ref x0), .val (.double (4629137466983448576 : UInt64)), .second, .val (.ref x2)] [(.ref x2)])) rfl rfl (hb hby d2_11) _ k) ?_
  rw [len_of S2 P2]
  show Goes _ _ _ _ _ _ _ (T1.setTop (mkF m 12 #[.val (.ref x0), .val (.double (4629137466983448576 : UInt64)), .second, .val (.ref x2)] [(.int (18 : Int32))]))
  refine Goes.step (fun _ k => XS.bipush X1.here hx rfl (hb hby d2_12) k) ?_
  show Goes _ _ _ _ _ _ _ (T1.setTop (mkF m 14 #[.val (.ref x0), .val (.double (4629137466983448576 : UInt64)), .second, .val (.ref x2)] [(.int (12 : Int32)), (.int (18 : Int32))]))
  refine Goes.step (fun _ k => XS.icmpNo X1.here hx rfl (hb hby d2_14) rfl (flt (by decide : ¬ ((18 : Int32) < (12 : Int32)))).1 k) ?_
  show Goes _ _ _ _ _ _ _ (T1.setTop (mkF m 17 #[.val (.ref x0), .val (.double (4629137466983448576 : UInt64)), .second, .val (.ref x2)] []))
  refine Goes.step (fun _ k => XS.aloadN X1.here hx rfl (hb hby d2_17) rfl rfl k) ?_
  show Goes _ _ _ _ _ _ _ (T1.setTop (mkF m 18 #[.val (.ref x0), .val (.double (4629137466983448576 : UInt64)), .second, .val (.ref x2)] [(.ref x2)]))
  obtain ⟨cl3, Ar3, q3, S3, P3, G3⟩ := id V_x2
  refine Goes.step (fun _ k => X1.arraylength hx (by rw [e1]; exact Ar3.1) (State.isArrayOf_alike hZ.alike Ar3.2.1) (g := (mkF m 18 #[.val (.ref x0), .val (.double (4629137466983448576 : UInt64)), .second, .val (.ref x2)] [(.ref x2)])) rfl rfl (hb hby d2_18) _ k) ?_
  rw [len_of S3 P3]
  show Goes _ _ _ _ _ _ _ (T1.setTop (mkF m 19 #[.val (.ref x0), .val (.double (4629137466983448576 : UInt64)), .second, .val (.ref x2)] [(.int (18 : Int32))]))
  refine Goes.step (fun _ k => XS.bipush X1.here hx rfl (hb hby d2_19) k) ?_
  show Goes _ _ _ _ _ _ _ (T1.setTop (mkF m 21 #[.val (.ref x0), .val (.double (4629137466983448576 : UInt64)), .second, .val (.ref x2)] [(.int (6 : Int32)), (.int (18 : Int32))]))
  refine Goes.step (fun _ k => iremM X1 hx rfl (hb hby d2_21) rfl (by decide) k) ?_
  show Goes _ _ _ _ _ _ _ (T1.setTop (mkF m 22 #[.val (.ref x0), .val (.double (4629137466983448576 : UInt64)), .second, .val (.ref x2)] [(.int (0 : Int32))]))
  refine Goes.step (fun _ k => XS.ifYes X1.here hx rfl (pc0 := 22) (pc' := 35) rfl (hb hby d2_22) rfl ((if0 _ _).trans (teq (by decide : (0 : Int32) = (0 : Int32))).1) (by decide) (by decide) k) ?_
  show Goes _ _ _ _ _ _ _ (T1.setTop (mkF m 35 #[.val (.ref x0), .val (.double (4629137466983448576 : UInt64)), .second, .val (.ref x2)] []))
  refine Goes.step (fun _ k => XS.aloadN X1.here hx rfl (hb hby d2_35) rfl rfl k) ?_
  show Goes _ _ _ _ _ _ _ (T1.setTop (mkF m 36 #[.val (.ref x0), .val (.double (4629137466983448576 : UInt64)), .second, .val (.ref x2)] [(.ref x0)]))
  refine Goes.step (fun _ k => XS.dloadN X1.here hx rfl (hb hby d2_36) rfl k) ?_
  show Goes _ _ _ _ _ _ _ (T1.setTop (mkF m 37 #[.val (.ref x0), .val (.double (4629137466983448576 : UInt64)), .second, .val (.ref x2)] [(.double (4629137466983448576 : UInt64)), (.ref x0)]))
  obtain ⟨T4, h4, X4, e4, W4, st4⟩ := putF X1 hx hZ hown (host := "") (Or.inl (hw _ (List.mem_of_getElem? (i := 17) rfl))) Via.refl e1 F0_step E_x0 (Or.inr ⟨(hw _ (List.mem_of_getElem? (i := 18) rfl)), rfl, hnm⟩) (hw _ (List.mem_of_getElem? (i := 8) rfl)) (ty := .double) (by decide) rfl rfl (g := (mkF m 37 #[.val (.ref x0), .val (.double (4629137466983448576 : UInt64)), .second, .val (.ref x2)] [(.double (4629137466983448576 : UInt64)), (.ref x0)])) rfl rfl (hb hby d2_37)
  refine Goes.step st4 ?_
  have f5 := F0_step.same W4
  have f6 := F0_samples.other W4 (Or.inr (slot_ne (Or.inr (hw _ (List.mem_of_getElem? (i := 20) rfl))) (Or.inr (hw _ (List.mem_of_getElem? (i := 18) rfl))) (by decide) (t := (.array .double)) (t' := .double) (by decide) (by decide)))
  have f7 := F0_size.other W4 (Or.inr (slot_ne (Or.inr (hw _ (List.mem_of_getElem? (i := 22) rfl))) (Or.inr (hw _ (List.mem_of_getElem? (i := 18) rfl))) (by decide) (t := .int) (t' := .double) (by decide) (by decide)))
  have f8 := E_x0.wr W4
  have f9 := V_x2.other W4 ne_x2_x0
  have K10 : Keep h0 h4 [x0] := K0.wr W4 (Or.inl (List.mem_of_getElem? (i := 0) rfl))
  have Z10 : n0 ≤ h4.size := by rw [Wr.size W4]; exact Z0
  have N10 := Fr.snoc X4 N0 g_x0
  show Goes _ _ _ _ _ _ _ (T4.setTop (mkF m 40 #[.val (.ref x0), .val (.double (4629137466983448576 : UInt64)), .second, .val (.ref x2)] []))
  refine Goes.step (fun _ k => XS.aloadN X4.here hx rfl (hb hby d2_40) rfl rfl k) ?_
  show Goes _ _ _ _ _ _ _ (T4.setTop (mkF m 41 #[.val (.ref x0), .val (.double (4629137466983448576 : UInt64)), .second, .val (.ref x2)] [(.ref x0)]))
  refine Goes.step (fun _ k => XS.aloadN X4.here hx rfl (hb hby d2_41) rfl rfl k) ?_
  show Goes _ _ _ _ _ _ _ (T4.setTop (mkF m 42 #[.val (.ref x0), .val (.double (4629137466983448576 : UInt64)), .second, .val (.ref x2)] [(.ref x2), (.ref x0)]))
  obtain ⟨T11, h11, X11, e11, W11, st11⟩ := putF X4 hx hZ hown (host := "") (Or.inl (hw _ (List.mem_of_getElem? (i := 19) rfl))) Via.refl e4 f6 f8 (Or.inr ⟨(hw _ (List.mem_of_getElem? (i := 20) rfl)), rfl, hnm⟩) (hw _ (List.mem_of_getElem? (i := 8) rfl)) (ty := (.array .double)) (by decide) rfl rfl (g := (mkF m 42 #[.val (.ref x0), .val (.double (4629137466983448576 : UInt64)), .second, .val (.ref x2)] [(.ref x2), (.ref x0)])) rfl rfl (hb hby d2_42)
  refine Goes.step st11 ?_
  have f12 := f5.other W11 (Or.inr (slot_ne (Or.inr (hw _ (List.mem_of_getElem? (i := 18) rfl))) (Or.inr (hw _ (List.mem_of_getElem? (i := 20) rfl))) (by decide) (t := .double) (t' := (.array .double)) (by decide) (by decide)))
  have f13 := f6.same W11
  have f14 := f7.other W11 (Or.inr (slot_ne (Or.inr (hw _ (List.mem_of_getElem? (i := 22) rfl))) (Or.inr (hw _ (List.mem_of_getElem? (i := 20) rfl))) (by decide) (t := .int) (t' := (.array .double)) (by decide) (by decide)))
  have f15 := f8.wr W11
  have f16 := f9.other W11 ne_x2_x0
  have K17 : Keep h0 h11 [x0] := K10.wr W11 (Or.inl (List.mem_of_getElem? (i := 0) rfl))
  have Z17 : n0 ≤ h11.size := by rw [Wr.size W11]; exact Z10
  have N17 := Fr.snoc X11 N10 g_x0
  show Goes _ _ _ _ _ _ _ (T11.setTop (mkF m 45 #[.val (.ref x0), .val (.double (4629137466983448576 : UInt64)), .second, .val (.ref x2)] []))
  refine Goes.step (fun _ k => XS.aloadN X11.here hx rfl (hb hby d2_45) rfl rfl k) ?_
  show Goes _ _ _ _ _ _ _ (T11.setTop (mkF m 46 #[.val (.ref x0), .val (.double (4629137466983448576 : UInt64)), .second, .val (.ref x2)] [(.ref x0)]))
  refine Goes.step (fun _ k => XS.aloadN X11.here hx rfl (hb hby d2_46) rfl rfl k) ?_
  show Goes _ _ _ _ _ _ _ (T11.setTop (mkF m 47 #[.val (.ref x0), .val (.double (4629137466983448576 : UInt64)), .second, .val (.ref x2)] [(.ref x2), (.ref x0)]))
  obtain ⟨cl18, Ar18, q18, S18, P18, G18⟩ := id f16
  refine Goes.step (fun _ k => X11.arraylength hx (by rw [e11]; exact Ar18.1) (State.isArrayOf_alike hZ.alike Ar18.2.1) (g := (mkF m 47 #[.val (.ref x0), .val (.double (4629137466983448576 : UInt64)), .second, .val (.ref x2)] [(.ref x2), (.ref x0)])) rfl rfl (hb hby d2_47) _ k) ?_
  rw [len_of S18 P18]
  show Goes _ _ _ _ _ _ _ (T11.setTop (mkF m 48 #[.val (.ref x0), .val (.double (4629137466983448576 : UInt64)), .second, .val (.ref x2)] [(.int (18 : Int32)), (.ref x0)]))
  refine Goes.step (fun _ k => XS.bipush X11.here hx rfl (hb hby d2_48) k) ?_
  show Goes _ _ _ _ _ _ _ (T11.setTop (mkF m 50 #[.val (.ref x0), .val (.double (4629137466983448576 : UInt64)), .second, .val (.ref x2)] [(.int (6 : Int32)), (.int (18 : Int32)), (.ref x0)]))
  refine Goes.step (fun _ k => XS.idiv X11.here hx rfl (hb hby d2_50) rfl (by decide) k) ?_
  show Goes _ _ _ _ _ _ _ (T11.setTop (mkF m 51 #[.val (.ref x0), .val (.double (4629137466983448576 : UInt64)), .second, .val (.ref x2)] [(.int (3 : Int32)), (.ref x0)]))
  obtain ⟨T19, h19, X19, e19, W19, st19⟩ := putF X11 hx hZ hown (host := "") (Or.inl (hw _ (List.mem_of_getElem? (i := 21) rfl))) Via.refl e11 f14 f15 (Or.inr ⟨(hw _ (List.mem_of_getElem? (i := 22) rfl)), rfl, hnm⟩) (hw _ (List.mem_of_getElem? (i := 8) rfl)) (ty := .int) (by decide) rfl rfl (g := (mkF m 51 #[.val (.ref x0), .val (.double (4629137466983448576 : UInt64)), .second, .val (.ref x2)] [(.int (3 : Int32)), (.ref x0)])) rfl rfl (hb hby d2_51)
  refine Goes.step st19 ?_
  have f20 := f12.other W19 (Or.inr (slot_ne (Or.inr (hw _ (List.mem_of_getElem? (i := 18) rfl))) (Or.inr (hw _ (List.mem_of_getElem? (i := 22) rfl))) (by decide) (t := .double) (t' := .int) (by decide) (by decide)))
  have f21 := f13.other W19 (Or.inr (slot_ne (Or.inr (hw _ (List.mem_of_getElem? (i := 20) rfl))) (Or.inr (hw _ (List.mem_of_getElem? (i := 22) rfl))) (by decide) (t := (.array .double)) (t' := .int) (by decide) (by decide)))
  have f22 := f14.same W19
  have f23 := f15.wr W19
  have f24 := f16.other W19 ne_x2_x0
  have K25 : Keep h0 h19 [x0] := K17.wr W19 (Or.inl (List.mem_of_getElem? (i := 0) rfl))
  have Z25 : n0 ≤ h19.size := by rw [Wr.size W19]; exact Z17
  have N25 := Fr.snoc X19 N17 g_x0
  show Goes _ _ _ _ _ _ _ (T19.setTop (mkF m 54 #[.val (.ref x0), .val (.double (4629137466983448576 : UInt64)), .second, .val (.ref x2)] []))
  exact Goes.retV X19 hx (BodyLoose.notSynchronized Bd) Bd.returns (hb hby d2_54) (by show Q2 Z x0 x2 ka_x2 h0 n0 none T19.heap _; rw [e19]; exact ⟨N25, K25, ⟨rfl, f20, f21, f22, f23⟩⟩) (by decide) (by decide)
theorem d5_0 : decode prog_63_method_3_code 0 = .ok (.aload_n 0, 1) := by decide +kernel
theorem d5_1 : decode prog_63_method_3_code 1 = .ok (.getfield 24, 3) := by decide +kernel
theorem d5_4 : decode prog_63_method_3_code 4 = .ok (.ireturn, 1) := by decide +kernel
theorem pn_5 : plainName "com/example/orbitloom/orbitloom/orbits/Track" = true := by first | (simp [plainName, overriddenIn]; done) | decide +kernel
theorem ef_5 (m : MethodId) (x0 : Addr) (f0_size : Int32)  : entryFrame m #[(.ref x0)] 1 = mkF m 0 #[.val (.ref x0)] [] := by first | (simp [entryFrame, mkF, argsToLocals, Value.category]; done) | rfl
def Q5 (Z : State) (x0 : Addr) (f0_size : Int32) (h0 : Heap) (n0 : Nat) (v : Option Value) (h : Heap) (L : List Loc) : Prop := Fr n0 L ∧ h = h0 ∧ ((v = some (.int f0_size)))
set_option maxRecDepth 65536 in
set_option maxHeartbeats 40000000 in
theorem rm5 (l : Launch) (Z : State) (a0 : Array Value) (hw : ∀ d ∈ tables_1, d.before a0 Z = true) (ws : List Jvm.Cond) (x0 : Addr) (f0_size : Int32) (h0 : Heap) (n0 : Nat) (Z0 : n0 ≤ h0.size) (F0_size : Fld Z h0 x0 "com/example/orbitloom/orbitloom/orbits/Track" "size" "I" (.int f0_size)) :
    MetFree l (⟨"com/example/orbitloom/orbitloom/orbits/Track", "size", "()I"⟩ : MethodName) (head1 (Jvm.Cond.code (⟨"com/example/orbitloom/orbitloom/orbits/Track", "size", "()I"⟩ : MethodName) prog_63_method_3_code 1 (some .int) :: ws) ({ frames := 0, cells := 0, slots := 0, locals := 0 } : Room)) (fun a U => a = #[(.ref x0)] ∧ Z.Warmed39 U.vm ∧ U.heap = h0) (fun _ _ _ _ _ => True) (fun _ U o U' => ∃ v L, o = .returned v ∧ Q5 Z x0 f0_size h0 n0 v U'.heap L ∧ FrameEnd U o U' L ({ frames := 0, cells := 0, slots := 0, locals := 0 } : Room).cells ({ frames := 0, cells := 0, slots := 0, locals := 0 } : Room).slots) := by
  refine MetFree.of_bodySF (plainFor_of_name pn_5) hisR ?_
  intro p e s m args below meth c s₁ Bd hml0 hP hK
  obtain ⟨rfl, hZ, hh⟩ := hP
  have hx := Bd.exec
  have hby := Bd.bytes
  have hml : c.maxLocals = 1 := hml0
  have hown : s.vm.findClass "com/example/orbitloom/orbitloom/orbits/Track" = some m.cls := findClass_of_methodNamed Bd.named
  have hnm := (name_of_methodNamed Bd.named Bd.method).1
  have X0 : Stand p l e ({ frames := 0, cells := 0, slots := 0, locals := 0 } : Room) s m #[(.ref x0)] below meth c s₁ [] 0 0 := Stand.of_body Bd
  have e0 : s₁.heap = h0 := by rw [← hh, Bd.state]; rfl
  have N0 := Fr.nil n0
  have K0 : Keep h0 h0 [] := Keep.refl h0 _
  refine (?_ : Goes p e below s ({ frames := 0, cells := 0, slots := 0, locals := 0 } : Room).cells ({ frames := 0, cells := 0, slots := 0, locals := 0 } : Room).slots (fun v h L => Q5 Z x0 f0_size h0 n0 v h L) (s₁.setTop (entryFrame m #[(.ref x0)] 1)))
  rw [ef_5 m x0 f0_size ]
  show Goes _ _ _ _ _ _ _ (s₁.setTop (mkF m 0 #[.val (.ref x0)] []))
  refine Goes.step (fun _ k => XS.aloadN X0.here hx rfl (hb hby d5_0) rfl rfl k) ?_
  show Goes _ _ _ _ _ _ _ (s₁.setTop (mkF m 1 #[.val (.ref x0)] [(.ref x0)]))
  obtain ⟨T1, X1, e1, st1⟩ := getF X0 hx hZ hown (host := "") (Or.inl (hw _ (List.mem_of_getElem? (i := 21) rfl))) Via.refl e0 F0_size (g := (mkF m 1 #[.val (.ref x0)] [(.ref x0)])) rfl rfl (hb hby d5_1)
  refine Goes.step st1 ?_
  show Goes _ _ _ _ _ _ _ (T1.setTop (mkF m 4 #[.val (.ref x0)] [(.int f0_size)]))
  exact Goes.ret X1 hx (BodyLoose.notSynchronized Bd) Bd.returns rfl (Or.inl ⟨rfl, by simp, _, rfl⟩) (hb hby d5_4) (by show Q5 Z x0 f0_size h0 n0 (some (.int f0_size)) T1.heap _; rw [e1]; exact ⟨N0, rfl, rfl⟩) (by decide) (by decide)
theorem d4_0 : decode prog_63_method_4_code 0 = .ok (.aload_n 0, 1) := by decide +kernel
theorem d4_1 : decode prog_63_method_4_code 1 = .ok (.getfield 20, 3) := by decide +kernel
theorem d4_4 : decode prog_63_method_4_code 4 = .ok (.iload_n 1, 1) := by decide +kernel
theorem d4_5 : decode prog_63_method_4_code 5 = .ok (.bipush 6, 2) := by decide +kernel
theorem d4_7 : decode prog_63_method_4_code 7 = .ok (.imul, 1) := by decide +kernel
theorem d4_8 : decode prog_63_method_4_code 8 = .ok (.aload_n 2, 1) := by decide +kernel
theorem d4_9 : decode prog_63_method_4_code 9 = .ok (.iconst 0, 1) := by decide +kernel
theorem d4_10 : decode prog_63_method_4_code 10 = .ok (.bipush 6, 2) := by decide +kernel
theorem d4_12 : decode prog_63_method_4_code 12 = .ok (.invokestatic 28, 3) := by decide +kernel
theorem d4_15 : decode prog_63_method_4_code 15 = .ok (.return_, 1) := by decide +kernel
theorem pn_4 : plainName "com/example/orbitloom/orbitloom/orbits/Track" = true := by first | (simp [plainName, overriddenIn]; done) | decide +kernel
theorem ef_4_0 (m : MethodId) (x0 : Addr) (x2 : Addr) (sa : Addr) (k1 : ClassId) (k2 : ClassId) (vs : List Value) (us : List Value) (d1 : Value) (d2 : Value)  : entryFrame m #[(.ref x0), (.int (0 : Int32)), (.ref x2)] 3 = mkF m 0 #[.val (.ref x0), .val (.int (0 : Int32)), .val (.ref x2)] [] := by first | (simp [entryFrame, mkF, argsToLocals, Value.category]; done) | rfl
def Q4_0 (Z : State) (x0 : Addr) (x2 : Addr) (sa : Addr) (k1 : ClassId) (k2 : ClassId) (vs : List Value) (us : List Value) (d1 : Value) (d2 : Value) (h0 : Heap) (n0 : Nat) (v : Option Value) (h : Heap) (L : List Loc) : Prop := Fr n0 L ∧ Keep h0 h [x2] ∧ v = none ∧ Arv Z h x2 k2 .double (8 : Int32) ((vs.drop 0).take 6 ++ us.drop 6) d2
set_option maxRecDepth 65536 in
set_option maxHeartbeats 40000000 in
theorem rm4_0 (l : Launch) (Z : State) (a0 : Array Value) (hw : ∀ d ∈ tables_1, d.before a0 Z = true) (ws : List Jvm.Cond) (x0 : Addr) (x2 : Addr) (sa : Addr) (k1 : ClassId) (k2 : ClassId) (vs : List Value) (us : List Value) (d1 : Value) (d2 : Value) (h0 : Heap) (n0 : Nat) (Z0 : n0 ≤ h0.size) (Fs : Fld Z h0 x0 "com/example/orbitloom/orbitloom/orbits/Track" "samples" "[D" (.ref sa)) (A1 : Arv Z h0 sa k1 .double (18 : Int32) vs d1) (A2 : Arv Z h0 x2 k2 .double (8 : Int32) us d2) (hl1 : vs.length = 18) (hl2 : us.length = 8) (g_x2 : n0 ≤ x2) (ne1 : sa ≠ x2) (ne2 : x0 ≠ x2) :
    MetFree l (⟨"com/example/orbitloom/orbitloom/orbits/Track", "sample", "(I[D)V"⟩ : MethodName) (head1 (Jvm.Cond.code (⟨"com/example/orbitloom/orbitloom/orbits/Track", "sample", "(I[D)V"⟩ : MethodName) prog_63_method_4_code 3 none :: ws) ({ frames := 1, cells := 0, slots := 0, locals := 18 } : Room)) (fun a U => a = #[(.ref x0), (.int (0 : Int32)), (.ref x2)] ∧ Z.Warmed39 U.vm ∧ U.heap = h0) (fun _ _ _ _ _ => True) (fun _ U o U' => ∃ v L, o = .returned v ∧ Q4_0 Z x0 x2 sa k1 k2 vs us d1 d2 h0 n0 v U'.heap L ∧ FrameEnd U o U' L ({ frames := 1, cells := 0, slots := 0, locals := 18 } : Room).cells ({ frames := 1, cells := 0, slots := 0, locals := 18 } : Room).slots) := by
  refine MetFree.of_bodySF (plainFor_of_name pn_4) hisR ?_
  intro p e s m args below meth c s₁ Bd hml0 hP hK
  obtain ⟨rfl, hZ, hh⟩ := hP
  have hx := Bd.exec
  have hby := Bd.bytes
  have hml : c.maxLocals = 3 := hml0
  have hown : s.vm.findClass "com/example/orbitloom/orbitloom/orbits/Track" = some m.cls := findClass_of_methodNamed Bd.named
  have hnm := (name_of_methodNamed Bd.named Bd.method).1
  have X0 : Stand p l e ({ frames := 1, cells := 0, slots := 0, locals := 18 } : Room) s m #[(.ref x0), (.int (0 : Int32)), (.ref x2)] below meth c s₁ [] 0 0 := Stand.of_body Bd
  have e0 : s₁.heap = h0 := by rw [← hh, Bd.state]; rfl
  have N0 := Fr.nil n0
  have K0 : Keep h0 h0 [x2] := Keep.refl h0 _
  refine (?_ : Goes p e below s ({ frames := 1, cells := 0, slots := 0, locals := 18 } : Room).cells ({ frames := 1, cells := 0, slots := 0, locals := 18 } : Room).slots (fun v h L => Q4_0 Z x0 x2 sa k1 k2 vs us d1 d2 h0 n0 v h L) (s₁.setTop (entryFrame m #[(.ref x0), (.int (0 : Int32)), (.ref x2)] 3)))
  rw [ef_4_0 m x0 x2 sa k1 k2 vs us d1 d2 ]
  show Goes _ _ _ _ _ _ _ (s₁.setTop (mkF m 0 #[.val (.ref x0), .val (.int (0 : Int32)), .val (.ref x2)] []))
  refine Goes.step (fun _ k => XS.aloadN X0.here hx rfl (hb hby d4_0) rfl rfl k) ?_
  show Goes _ _ _ _ _ _ _ (s₁.setTop (mkF m 1 #[.val (.ref x0), .val (.int (0 : Int32)), .val (.ref x2)] [(.ref x0)]))
  obtain ⟨T1, X1, e1, st1⟩ := getF X0 hx hZ hown (host := "") (Or.inl (hw _ (List.mem_of_getElem? (i := 19) rfl))) Via.refl e0 Fs (g := (mkF m 1 #[.val (.ref x0), .val (.int (0 : Int32)), .val (.ref x2)] [(.ref x0)])) rfl rfl (hb hby d4_1)
  refine Goes.step st1 ?_
  show Goes _ _ _ _ _ _ _ (T1.setTop (mkF m 4 #[.val (.ref x0), .val (.int (0 : Int32)), .val (.ref x2)] [(.ref sa)]))
  refine Goes.step (fun _ k => XS.iloadN X1.here hx rfl (hb hby d4_4) rfl  k) ?_
  show Goes _ _ _ _ _ _ _ (T1.setTop (mkF m 5 #[.val (.ref x0), .val (.int (0 : Int32)), .val (.ref x2)] [(.int (0 : Int32)), (.ref sa)]))
  refine Goes.step (fun _ k => XS.bipush X1.here hx rfl (hb hby d4_5) k) ?_
  show Goes _ _ _ _ _ _ _ (T1.setTop (mkF m 7 #[.val (.ref x0), .val (.int (0 : Int32)), .val (.ref x2)] [(.int (6 : Int32)), (.int (0 : Int32)), (.ref sa)]))
  refine Goes.step (fun _ k => XS.imul X1.here hx rfl (hb hby d4_7) rfl k) ?_
  show Goes _ _ _ _ _ _ _ (T1.setTop (mkF m 8 #[.val (.ref x0), .val (.int (0 : Int32)), .val (.ref x2)] [(.int (0 : Int32)), (.ref sa)]))
  refine Goes.step (fun _ k => XS.aloadN X1.here hx rfl (hb hby d4_8) rfl rfl k) ?_
  show Goes _ _ _ _ _ _ _ (T1.setTop (mkF m 9 #[.val (.ref x0), .val (.int (0 : Int32)), .val (.ref x2)] [(.ref x2), (.int (0 : Int32)), (.ref sa)]))
  refine Goes.step (fun _ k => XS.iconst X1.here hx rfl (hb hby d4_9) k) ?_
  show Goes _ _ _ _ _ _ _ (T1.setTop (mkF m 10 #[.val (.ref x0), .val (.int (0 : Int32)), .val (.ref x2)] [(.int (0 : Int32)), (.ref x2), (.int (0 : Int32)), (.ref sa)]))
  refine Goes.step (fun _ k => XS.bipush X1.here hx rfl (hb hby d4_10) k) ?_
  show Goes _ _ _ _ _ _ _ (T1.setTop (mkF m 12 #[.val (.ref x0), .val (.int (0 : Int32)), .val (.ref x2)] [(.int (6 : Int32)), (.int (0 : Int32)), (.ref x2), (.int (0 : Int32)), (.ref sa)]))
  obtain ⟨T2, h2, L2, X2, e2, lb2, K2, V2, st2⟩ := own_copyD X1 hx hZ hown (hw _ (List.mem_of_getElem? (i := 29) rfl)) (hw _ (List.mem_of_getElem? (i := 32) rfl)) (hw _ (List.mem_of_getElem? (i := 30) rfl)) (hw _ (List.mem_of_getElem? (i := 31) rfl)) e1 A1 A2 (sp := (0 : Int32)) (n := (6 : Int32)) (by decide) (by decide) (by rw [hl1]; rfl) (by rw [hl2]; rfl) (by rw [hl1]; decide) (by rw [hl2]; decide) (g := (mkF m 12 #[.val (.ref x0), .val (.int (0 : Int32)), .val (.ref x2)] [(.int (6 : Int32)), (.int (0 : Int32)), (.ref x2), (.int (0 : Int32)), (.ref sa)])) rfl (by rw [hml]; rfl) rfl (hb hby d4_12) (by decide) (by show 2 * 0 + _ ≤ _; decide)
  have NA2 : Fr n0 (_ ++ L2) := Fr.app N0 (fun y hy => by rw [lb2 y hy]; exact g_x2)
  have f3 := Fs.keep K2 (ninS ne2 nin0)
  have f4 := A1.keep K2 (ninS ne1 nin0)
  have K6 : Keep h0 h2 [x2] := K0.trans K2 (allS (Or.inl (List.mem_of_getElem? (i := 0) rfl)) all0)
  have Z6 : n0 ≤ h2.size := Nat.le_trans Z0 K2.1
  refine Goes.step st2 ?_
  show Goes _ _ _ _ _ _ _ (T2.setTop (mkF m 15 #[.val (.ref x0), .val (.int (0 : Int32)), .val (.ref x2)] []))
  exact Goes.retV X2 hx (BodyLoose.notSynchronized Bd) Bd.returns (hb hby d4_15) (by show Q4_0 Z x0 x2 sa k1 k2 vs us d1 d2 h0 n0 none T2.heap _; rw [e2]; exact ⟨NA2, K6, rfl, V2⟩) (by decide) (by decide)
theorem ef_4_1 (m : MethodId) (x0 : Addr) (x2 : Addr) (sa : Addr) (k1 : ClassId) (k2 : ClassId) (vs : List Value) (us : List Value) (d1 : Value) (d2 : Value)  : entryFrame m #[(.ref x0), (.int (1 : Int32)), (.ref x2)] 3 = mkF m 0 #[.val (.ref x0), .val (.int (1 : Int32)), .val (.ref x2)] [] := by first | (simp [entryFrame, mkF, argsToLocals, Value.category]; done) | rfl
def Q4_1 (Z : State) (x0 : Addr) (x2 : Addr) (sa : Addr) (k1 : ClassId) (k2 : ClassId) (vs : List Value) (us : List Value) (d1 : Value) (d2 : Value) (h0 : Heap) (n0 : Nat) (v : Option Value) (h : Heap) (L : List Loc) : Prop := Fr n0 L ∧ Keep h0 h [x2] ∧ v = none ∧ Arv Z h x2 k2 .double (8 : Int32) ((vs.drop 6).take 6 ++ us.drop 6) d2
set_option maxRecDepth 65536 in
set_option maxHeartbeats 40000000 in
theorem rm4_1 (l : Launch) (Z : State) (a0 : Array Value) (hw : ∀ d ∈ tables_1, d.before a0 Z = true) (ws : List Jvm.Cond) (x0 : Addr) (x2 : Addr) (sa : Addr) (k1 : ClassId) (k2 : ClassId) (vs : List Value) (us : List Value) (d1 : Value) (d2 : Value) (h0 : Heap) (n0 : Nat) (Z0 : n0 ≤ h0.size) (Fs : Fld Z h0 x0 "com/example/orbitloom/orbitloom/orbits/Track" "samples" "[D" (.ref sa)) (A1 : Arv Z h0 sa k1 .double (18 : Int32) vs d1) (A2 : Arv Z h0 x2 k2 .double (8 : Int32) us d2) (hl1 : vs.length = 18) (hl2 : us.length = 8) (g_x2 : n0 ≤ x2) (ne1 : sa ≠ x2) (ne2 : x0 ≠ x2) :
    MetFree l (⟨"com/example/orbitloom/orbitloom/orbits/Track", "sample", "(I[D)V"⟩ : MethodName) (head1 (Jvm.Cond.code (⟨"com/example/orbitloom/orbitloom/orbits/Track", "sample", "(I[D)V"⟩ : MethodName) prog_63_method_4_code 3 none :: ws) ({ frames := 1, cells := 0, slots := 0, locals := 18 } : Room)) (fun a U => a = #[(.ref x0), (.int (1 : Int32)), (.ref x2)] ∧ Z.Warmed39 U.vm ∧ U.heap = h0) (fun _ _ _ _ _ => True) (fun _ U o U' => ∃ v L, o = .returned v ∧ Q4_1 Z x0 x2 sa k1 k2 vs us d1 d2 h0 n0 v U'.heap L ∧ FrameEnd U o U' L ({ frames := 1, cells := 0, slots := 0, locals := 18 } : Room).cells ({ frames := 1, cells := 0, slots := 0, locals := 18 } : Room).slots) := by
  refine MetFree.of_bodySF (plainFor_of_name pn_4) hisR ?_
  intro p e s m args below meth c s₁ Bd hml0 hP hK
  obtain ⟨rfl, hZ, hh⟩ := hP
  have hx := Bd.exec
  have hby := Bd.bytes
  have hml : c.maxLocals = 3 := hml0
  have hown : s.vm.findClass "com/example/orbitloom/orbitloom/orbits/Track" = some m.cls := findClass_of_methodNamed Bd.named
  have hnm := (name_of_methodNamed Bd.named Bd.method).1
  have X0 : Stand p l e ({ frames := 1, cells := 0, slots := 0, locals := 18 } : Room) s m #[(.ref x0), (.int (1 : Int32)), (.ref x2)] below meth c s₁ [] 0 0 := Stand.of_body Bd
  have e0 : s₁.heap = h0 := by rw [← hh, Bd.state]; rfl
  have N0 := Fr.nil n0
  have K0 : Keep h0 h0 [x2] := Keep.refl h0 _
  refine (?_ : Goes p e below s ({ frames := 1, cells := 0, slots := 0, locals := 18 } : Room).cells ({ frames := 1, cells := 0, slots := 0, locals := 18 } : Room).slots (fun v h L => Q4_1 Z x0 x2 sa k1 k2 vs us d1 d2 h0 n0 v h L) (s₁.setTop (entryFrame m #[(.ref x0), (.int (1 : Int32)), (.ref x2)] 3)))
  rw [ef_4_1 m x0 x2 sa k1 k2 vs us d1 d2 ]
  show Goes _ _ _ _ _ _ _ (s₁.setTop (mkF m 0 #[.val (.ref x0), .val (.int (1 : Int32)), .val (.ref x2)] []))
  refine Goes.step (fun _ k => XS.aloadN X0.here hx rfl (hb hby d4_0) rfl rfl k) ?_
  show Goes _ _ _ _ _ _ _ (s₁.setTop (mkF m 1 #[.val (.ref x0), .val (.int (1 : Int32)), .val (.ref x2)] [(.ref x0)]))
  obtain ⟨T1, X1, e1, st1⟩ := getF X0 hx hZ hown (host := "") (Or.inl (hw _ (List.mem_of_getElem? (i := 19) rfl))) Via.refl e0 Fs (g := (mkF m 1 #[.val (.ref x0), .val (.int (1 : Int32)), .val (.ref x2)] [(.ref x0)])) rfl rfl (hb hby d4_1)
  refine Goes.step st1 ?_
  show Goes _ _ _ _ _ _ _ (T1.setTop (mkF m 4 #[.val (.ref x0), .val (.int (1 : Int32)), .val (.ref x2)] [(.ref sa)]))
  refine Goes.step (fun _ k => XS.iloadN X1.here hx rfl (hb hby d4_4) rfl  k) ?_
  show Goes _ _ _ _ _ _ _ (T1.setTop (mkF m 5 #[.val (.ref x0), .val (.int (1 : Int32)), .val (.ref x2)] [(.int (1 : Int32)), (.ref sa)]))
  refine Goes.step (fun _ k => XS.bipush X1.here hx rfl (hb hby d4_5) k) ?_
  show Goes _ _ _ _ _ _ _ (T1.setTop (mkF m 7 #[.val (.ref x0), .val (.int (1 : Int32)), .val (.ref x2)] [(.int (6 : Int32)), (.int (1 : Int32)), (.ref sa)]))
  refine Goes.step (fun _ k => XS.imul X1.here hx rfl (hb hby d4_7) rfl k) ?_
  show Goes _ _ _ _ _ _ _ (T1.setTop (mkF m 8 #[.val (.ref x0), .val (.int (1 : Int32)), .val (.ref x2)] [(.int (6 : Int32)), (.ref sa)]))
  refine Goes.step (fun _ k => XS.aloadN X1.here hx rfl (hb hby d4_8) rfl rfl k) ?_
  show Goes _ _ _ _ _ _ _ (T1.setTop (mkF m 9 #[.val (.ref x0), .val (.int (1 : Int32)), .val (.ref x2)] [(.ref x2), (.int (6 : Int32)), (.ref sa)]))
  refine Goes.step (fun _ k => XS.iconst X1.here hx rfl (hb hby d4_9) k) ?_
  show Goes _ _ _ _ _ _ _ (T1.setTop (mkF m 10 #[.val (.ref x0), .val (.int (1 : Int32)), .val (.ref x2)] [(.int (0 : Int32)), (.ref x2), (.int (6 : Int32)), (.ref sa)]))
  refine Goes.step (fun _ k => XS.bipush X1.here hx rfl (hb hby d4_10) k) ?_
  show Goes _ _ _ _ _ _ _ (T1.setTop (mkF m 12 #[.val (.ref x0), .val (.int (1 : Int32)), .val (.ref x2)] [(.int (6 : Int32)), (.int (0 : Int32)), (.ref x2), (.int (6 : Int32)), (.ref sa)]))
  obtain ⟨T2, h2, L2, X2, e2, lb2, K2, V2, st2⟩ := own_copyD X1 hx hZ hown (hw _ (List.mem_of_getElem? (i := 29) rfl)) (hw _ (List.mem_of_getElem? (i := 32) rfl)) (hw _ (List.mem_of_getElem? (i := 30) rfl)) (hw _ (List.mem_of_getElem? (i := 31) rfl)) e1 A1 A2 (sp := (6 : Int32)) (n := (6 : Int32)) (by decide) (by decide) (by rw [hl1]; rfl) (by rw [hl2]; rfl) (by rw [hl1]; decide) (by rw [hl2]; decide) (g := (mkF m 12 #[.val (.ref x0), .val (.int (1 : Int32)), .val (.ref x2)] [(.int (6 : Int32)), (.int (0 : Int32)), (.ref x2), (.int (6 : Int32)), (.ref sa)])) rfl (by rw [hml]; rfl) rfl (hb hby d4_12) (by decide) (by show 2 * 0 + _ ≤ _; decide)
  have NA2 : Fr n0 (_ ++ L2) := Fr.app N0 (fun y hy => by rw [lb2 y hy]; exact g_x2)
  have f3 := Fs.keep K2 (ninS ne2 nin0)
  have f4 := A1.keep K2 (ninS ne1 nin0)
  have K6 : Keep h0 h2 [x2] := K0.trans K2 (allS (Or.inl (List.mem_of_getElem? (i := 0) rfl)) all0)
  have Z6 : n0 ≤ h2.size := Nat.le_trans Z0 K2.1
  refine Goes.step st2 ?_
  show Goes _ _ _ _ _ _ _ (T2.setTop (mkF m 15 #[.val (.ref x0), .val (.int (1 : Int32)), .val (.ref x2)] []))
  exact Goes.retV X2 hx (BodyLoose.notSynchronized Bd) Bd.returns (hb hby d4_15) (by show Q4_1 Z x0 x2 sa k1 k2 vs us d1 d2 h0 n0 none T2.heap _; rw [e2]; exact ⟨NA2, K6, rfl, V2⟩) (by decide) (by decide)
theorem ef_4_2 (m : MethodId) (x0 : Addr) (x2 : Addr) (sa : Addr) (k1 : ClassId) (k2 : ClassId) (vs : List Value) (us : List Value) (d1 : Value) (d2 : Value)  : entryFrame m #[(.ref x0), (.int (2 : Int32)), (.ref x2)] 3 = mkF m 0 #[.val (.ref x0), .val (.int (2 : Int32)), .val (.ref x2)] [] := by first | (simp [entryFrame, mkF, argsToLocals, Value.category]; done) | rfl
def Q4_2 (Z : State) (x0 : Addr) (x2 : Addr) (sa : Addr) (k1 : ClassId) (k2 : ClassId) (vs : List Value) (us : List Value) (d1 : Value) (d2 : Value) (h0 : Heap) (n0 : Nat) (v : Option Value) (h : Heap) (L : List Loc) : Prop := Fr n0 L ∧ Keep h0 h [x2] ∧ v = none ∧ Arv Z h x2 k2 .double (8 : Int32) ((vs.drop 12).take 6 ++ us.drop 6) d2
set_option maxRecDepth 65536 in
set_option maxHeartbeats 40000000 in
theorem rm4_2 (l : Launch) (Z : State) (a0 : Array Value) (hw : ∀ d ∈ tables_1, d.before a0 Z = true) (ws : List Jvm.Cond) (x0 : Addr) (x2 : Addr) (sa : Addr) (k1 : ClassId) (k2 : ClassId) (vs : List Value) (us : List Value) (d1 : Value) (d2 : Value) (h0 : Heap) (n0 : Nat) (Z0 : n0 ≤ h0.size) (Fs : Fld Z h0 x0 "com/example/orbitloom/orbitloom/orbits/Track" "samples" "[D" (.ref sa)) (A1 : Arv Z h0 sa k1 .double (18 : Int32) vs d1) (A2 : Arv Z h0 x2 k2 .double (8 : Int32) us d2) (hl1 : vs.length = 18) (hl2 : us.length = 8) (g_x2 : n0 ≤ x2) (ne1 : sa ≠ x2) (ne2 : x0 ≠ x2) :
    MetFree l (⟨"com/example/orbitloom/orbitloom/orbits/Track", "sample", "(I[D)V"⟩ : MethodName) (head1 (Jvm.Cond.code (⟨"com/example/orbitloom/orbitloom/orbits/Track", "sample", "(I[D)V"⟩ : MethodName) prog_63_method_4_code 3 none :: ws) ({ frames := 1, cells := 0, slots := 0, locals := 18 } : Room)) (fun a U => a = #[(.ref x0), (.int (2 : Int32)), (.ref x2)] ∧ Z.Warmed39 U.vm ∧ U.heap = h0) (fun _ _ _ _ _ => True) (fun _ U o U' => ∃ v L, o = .returned v ∧ Q4_2 Z x0 x2 sa k1 k2 vs us d1 d2 h0 n0 v U'.heap L ∧ FrameEnd U o U' L ({ frames := 1, cells := 0, slots := 0, locals := 18 } : Room).cells ({ frames := 1, cells := 0, slots := 0, locals := 18 } : Room).slots) := by
  refine MetFree.of_bodySF (plainFor_of_name pn_4) hisR ?_
  intro p e s m args below meth c s₁ Bd hml0 hP hK
  obtain ⟨rfl, hZ, hh⟩ := hP
  have hx := Bd.exec
  have hby := Bd.bytes
  have hml : c.maxLocals = 3 := hml0
  have hown : s.vm.findClass "com/example/orbitloom/orbitloom/orbits/Track" = some m.cls := findClass_of_methodNamed Bd.named
  have hnm := (name_of_methodNamed Bd.named Bd.method).1
  have X0 : Stand p l e ({ frames := 1, cells := 0, slots := 0, locals := 18 } : Room) s m #[(.ref x0), (.int (2 : Int32)), (.ref x2)] below meth c s₁ [] 0 0 := Stand.of_body Bd
  have e0 : s₁.heap = h0 := by rw [← hh, Bd.state]; rfl
  have N0 := Fr.nil n0
  have K0 : Keep h0 h0 [x2] := Keep.refl h0 _
  refine (?_ : Goes p e below s ({ frames := 1, cells := 0, slots := 0, locals := 18 } : Room).cells ({ frames := 1, cells := 0, slots := 0, locals := 18 } : Room).slots (fun v h L => Q4_2 Z x0 x2 sa k1 k2 vs us d1 d2 h0 n0 v h L) (s₁.setTop (entryFrame m #[(.ref x0), (.int (2 : Int32)), (.ref x2)] 3)))
  rw [ef_4_2 m x0 x2 sa k1 k2 vs us d1 d2 ]
  show Goes _ _ _ _ _ _ _ (s₁.setTop (mkF m 0 #[.val (.ref x0), .val (.int (2 : Int32)), .val (.ref x2)] []))
  refine Goes.step (fun _ k => XS.aloadN X0.here hx rfl (hb hby d4_0) rfl rfl k) ?_
  show Goes _ _ _ _ _ _ _ (s₁.setTop (mkF m 1 #[.val (.ref x0), .val (.int (2 : Int32)), .val (.ref x2)] [(.ref x0)]))
  obtain ⟨T1, X1, e1, st1⟩ := getF X0 hx hZ hown (host := "") (Or.inl (hw _ (List.mem_of_getElem? (i := 19) rfl))) Via.refl e0 Fs (g := (mkF m 1 #[.val (.ref x0), .val (.int (2 : Int32)), .val (.ref x2)] [(.ref x0)])) rfl rfl (hb hby d4_1)
  refine Goes.step st1 ?_
  show Goes _ _ _ _ _ _ _ (T1.setTop (mkF m 4 #[.val (.ref x0), .val (.int (2 : Int32)), .val (.ref x2)] [(.ref sa)]))
  refine Goes.step (fun _ k => XS.iloadN X1.here hx rfl (hb hby d4_4) rfl  k) ?_
  show Goes _ _ _ _ _ _ _ (T1.setTop (mkF m 5 #[.val (.ref x0), .val (.int (2 : Int32)), .val (.ref x2)] [(.int (2 : Int32)), (.ref sa)]))
  refine Goes.step (fun _ k => XS.bipush X1.here hx rfl (hb hby d4_5) k) ?_
  show Goes _ _ _ _ _ _ _ (T1.setTop (mkF m 7 #[.val (.ref x0), .val (.int (2 : Int32)), .val (.ref x2)] [(.int (6 : Int32)), (.int (2 : Int32)), (.ref sa)]))
  refine Goes.step (fun _ k => XS.imul X1.here hx rfl (hb hby d4_7) rfl k) ?_
  show Goes _ _ _ _ _ _ _ (T1.setTop (mkF m 8 #[.val (.ref x0), .val (.int (2 : Int32)), .val (.ref x2)] [(.int (12 : Int32)), (.ref sa)]))
  refine Goes.step (fun _ k => XS.aloadN X1.here hx rfl (hb hby d4_8) rfl rfl k) ?_
  show Goes _ _ _ _ _ _ _ (T1.setTop (mkF m 9 #[.val (.ref x0), .val (.int (2 : Int32)), .val (.ref x2)] [(.ref x2), (.int (12 : Int32)), (.ref sa)]))
  refine Goes.step (fun _ k => XS.iconst X1.here hx rfl (hb hby d4_9) k) ?_
  show Goes _ _ _ _ _ _ _ (T1.setTop (mkF m 10 #[.val (.ref x0), .val (.int (2 : Int32)), .val (.ref x2)] [(.int (0 : Int32)), (.ref x2), (.int (12 : Int32)), (.ref sa)]))
  refine Goes.step (fun _ k => XS.bipush X1.here hx rfl (hb hby d4_10) k) ?_
  show Goes _ _ _ _ _ _ _ (T1.setTop (mkF m 12 #[.val (.ref x0), .val (.int (2 : Int32)), .val (.ref x2)] [(.int (6 : Int32)), (.int (0 : Int32)), (.ref x2), (.int (12 : Int32)), (.ref sa)]))
  obtain ⟨T2, h2, L2, X2, e2, lb2, K2, V2, st2⟩ := own_copyD X1 hx hZ hown (hw _ (List.mem_of_getElem? (i := 29) rfl)) (hw _ (List.mem_of_getElem? (i := 32) rfl)) (hw _ (List.mem_of_getElem? (i := 30) rfl)) (hw _ (List.mem_of_getElem? (i := 31) rfl)) e1 A1 A2 (sp := (12 : Int32)) (n := (6 : Int32)) (by decide) (by decide) (by rw [hl1]; rfl) (by rw [hl2]; rfl) (by rw [hl1]; decide) (by rw [hl2]; decide) (g := (mkF m 12 #[.val (.ref x0), .val (.int (2 : Int32)), .val (.ref x2)] [(.int (6 : Int32)), (.int (0 : Int32)), (.ref x2), (.int (12 : Int32)), (.ref sa)])) rfl (by rw [hml]; rfl) rfl (hb hby d4_12) (by decide) (by show 2 * 0 + _ ≤ _; decide)
  have NA2 : Fr n0 (_ ++ L2) := Fr.app N0 (fun y hy => by rw [lb2 y hy]; exact g_x2)
  have f3 := Fs.keep K2 (ninS ne2 nin0)
  have f4 := A1.keep K2 (ninS ne1 nin0)
  have K6 : Keep h0 h2 [x2] := K0.trans K2 (allS (Or.inl (List.mem_of_getElem? (i := 0) rfl)) all0)
  have Z6 : n0 ≤ h2.size := Nat.le_trans Z0 K2.1
  refine Goes.step st2 ?_
  show Goes _ _ _ _ _ _ _ (T2.setTop (mkF m 15 #[.val (.ref x0), .val (.int (2 : Int32)), .val (.ref x2)] []))
  exact Goes.retV X2 hx (BodyLoose.notSynchronized Bd) Bd.returns (hb hby d4_15) (by show Q4_2 Z x0 x2 sa k1 k2 vs us d1 d2 h0 n0 none T2.heap _; rw [e2]; exact ⟨NA2, K6, rfl, V2⟩) (by decide) (by decide)
theorem pn_0 : plainName "com/example/orbitloom/orbitloom/orbits/TrackSamplePinLaw" = true := by first | (simp [plainName, overriddenIn]; done) | decide +kernel
theorem ef_0 (m : MethodId) (p0 : Int32) (p1 : Int32) (p2 : Int32)  : entryFrame m #[(.int p0), (.int p1), (.int p2)] maxLocals = mkF m 0 #[.val (.int p0), .val (.int p1), .val (.int p2), .unset, .unset, .unset, .unset, .unset, .unset, .unset] [] := by first | (simp [entryFrame, mkF, argsToLocals, Value.category, maxLocals]; done) | rfl
theorem pd_0 : parseMethodDescriptor "(III)D" = some ⟨[.int, .int, .int], some .double⟩ := by decide +kernel
theorem pd_1 : parseMethodDescriptor "(D[D)V" = some ⟨[.double, (.array .double)], none⟩ := by decide +kernel
theorem pd_3 : parseMethodDescriptor "(I[D)V" = some ⟨[.int, (.array .double)], none⟩ := by decide +kernel
theorem pd_5 : parseMethodDescriptor "()I" = some ⟨[], some .int⟩ := by decide +kernel
def Q0 (Z : State) (p0 : Int32) (p1 : Int32) (p2 : Int32) (h0 : Heap) (n0 : Nat) (v : Option Value) (h : Heap) (L : List Loc) : Prop := v = some (.int 1) ∧ Fr n0 L
set_option maxRecDepth 65536 in
set_option maxHeartbeats 40000000 in
theorem rm0 (l : Launch) (Z : State) (a0 : Array Value) (hw : ∀ d ∈ tables_1, d.before a0 Z = true) (ws : List Jvm.Cond) (p0 : Int32) (p1 : Int32) (p2 : Int32) (h0 : Heap) (n0 : Nat) (Z0 : n0 ≤ h0.size) :
    MetFree l x (head1 (Jvm.Cond.code x code maxLocals ret :: ws) room_1) (fun a U => a = #[(.int p0), (.int p1), (.int p2)] ∧ Z.Warmed39 U.vm ∧ U.heap = h0) (fun _ _ _ _ _ => True) (fun _ U o U' => ∃ v L, o = .returned v ∧ Q0 Z p0 p1 p2 h0 n0 v U'.heap L ∧ FrameEnd U o U' L room_1.cells room_1.slots) := by
  refine MetFree.of_bodySF (plainFor_of_name pn_0) hisR ?_
  intro p e s m args below meth c s₁ Bd hml0 hP hK
  obtain ⟨rfl, hZ, hh⟩ := hP
  have hx := Bd.exec
  have hby := Bd.bytes
  have hml : c.maxLocals = 10 := hml0
  have hown : s.vm.findClass "com/example/orbitloom/orbitloom/orbits/TrackSamplePinLaw" = some m.cls := findClass_of_methodNamed Bd.named
  have hnm := (name_of_methodNamed Bd.named Bd.method).1
  have X0 : Stand p l e room_1 s m #[(.int p0), (.int p1), (.int p2)] below meth c s₁ [] 0 0 := Stand.of_body Bd
  have e0 : s₁.heap = h0 := by rw [← hh, Bd.state]; rfl
  have N0 := Fr.nil n0
  have K0 : Keep h0 h0 [] := Keep.refl h0 _
  refine (?_ : Goes p e below s room_1.cells room_1.slots (fun v h L => Q0 Z p0 p1 p2 h0 n0 v h L) (s₁.setTop (entryFrame m #[(.int p0), (.int p1), (.int p2)] maxLocals)))
  rw [ef_0 m p0 p1 p2 ]
  show Goes _ _ _ _ _ _ _ (s₁.setTop (mkF m 0 #[.val (.int p0), .val (.int p1), .val (.int p2), .unset, .unset, .unset, .unset, .unset, .unset, .unset] []))
  refine Goes.step (fun _ k => XS.iloadN X0.here hx rfl (hb hby at_0) rfl  k) ?_
  show Goes _ _ _ _ _ _ _ (s₁.setTop (mkF m 1 #[.val (.int p0), .val (.int p1), .val (.int p2), .unset, .unset, .unset, .unset, .unset, .unset, .unset] [(.int p0)]))
  refine Goes.step (fun _ k => XS.sipush X0.here hx rfl (hb hby at_1) k) ?_
  show Goes _ _ _ _ _ _ _ (s₁.setTop (mkF m 4 #[.val (.int p0), .val (.int p1), .val (.int p2), .unset, .unset, .unset, .unset, .unset, .unset, .unset] [(.int (255 : Int32)), (.int p0)]))
  refine Goes.step (fun _ k => XS.iand X0.here hx rfl (hb hby at_4) rfl k) ?_
  show Goes _ _ _ _ _ _ _ (s₁.setTop (mkF m 5 #[.val (.int p0), .val (.int p1), .val (.int p2), .unset, .unset, .unset, .unset, .unset, .unset, .unset] [(.int (p0 &&& (255 : Int32)))]))
  refine Goes.step (fun _ k => XS.iconst X0.here hx rfl (hb hby at_5) k) ?_
  show Goes _ _ _ _ _ _ _ (s₁.setTop (mkF m 6 #[.val (.int p0), .val (.int p1), .val (.int p2), .unset, .unset, .unset, .unset, .unset, .unset, .unset] [(.int (1 : Int32)), (.int (p0 &&& (255 : Int32)))]))
  refine Goes.step (fun _ k => XS.iadd X0.here hx rfl (hb hby at_6) rfl k) ?_
  show Goes _ _ _ _ _ _ _ (s₁.setTop (mkF m 7 #[.val (.int p0), .val (.int p1), .val (.int p2), .unset, .unset, .unset, .unset, .unset, .unset, .unset] [(.int ((p0 &&& (255 : Int32)) + (1 : Int32)))]))
  refine Goes.step (fun _ k => XS.istoreN X0.here hx rfl (hb hby at_7) rfl (l' := #[.val (.int p0), .val (.int p1), .val (.int p2), .val (.int ((p0 &&& (255 : Int32)) + (1 : Int32))), .unset, .unset, .unset, .unset, .unset, .unset]) rfl k) ?_
  show Goes _ _ _ _ _ _ _ (s₁.setTop (mkF m 8 #[.val (.int p0), .val (.int p1), .val (.int p2), .val (.int ((p0 &&& (255 : Int32)) + (1 : Int32))), .unset, .unset, .unset, .unset, .unset, .unset] []))
  generalize hg_m3 : ((p0 &&& (255 : Int32)) + (1 : Int32)) = m3
  show Goes _ _ _ _ _ _ _ (s₁.setTop (mkF m 8 #[.val (.int p0), .val (.int p1), .val (.int p2), .val (.int m3), .unset, .unset, .unset, .unset, .unset, .unset] []))
  refine Goes.step (fun _ k => XS.iloadN X0.here hx rfl (hb hby at_8) rfl  k) ?_
  show Goes _ _ _ _ _ _ _ (s₁.setTop (mkF m 9 #[.val (.int p0), .val (.int p1), .val (.int p2), .val (.int m3), .unset, .unset, .unset, .unset, .unset, .unset] [(.int p1)]))
  refine Goes.step (fun _ k => X0.ldcInt hx hown (mvT hZ (hw _ (List.mem_of_getElem? (i := 0) rfl))) (g := (mkF m 9 #[.val (.int p0), .val (.int p1), .val (.int p2), .val (.int m3), .unset, .unset, .unset, .unset, .unset, .unset] [(.int p1)])) rfl (hb hby at_9) _ k) ?_
  show Goes _ _ _ _ _ _ _ (s₁.setTop (mkF m 11 #[.val (.int p0), .val (.int p1), .val (.int p2), .val (.int m3), .unset, .unset, .unset, .unset, .unset, .unset] [(.int (65535 : Int32)), (.int p1)]))
  refine Goes.step (fun _ k => XS.iand X0.here hx rfl (hb hby at_11) rfl k) ?_
  show Goes _ _ _ _ _ _ _ (s₁.setTop (mkF m 12 #[.val (.int p0), .val (.int p1), .val (.int p2), .val (.int m3), .unset, .unset, .unset, .unset, .unset, .unset] [(.int (p1 &&& (65535 : Int32)))]))
  refine Goes.step (fun _ k => XS.istore X0.here hx rfl (hb hby at_12) rfl (l' := #[.val (.int p0), .val (.int p1), .val (.int p2), .val (.int m3), .val (.int (p1 &&& (65535 : Int32))), .unset, .unset, .unset, .unset, .unset]) rfl k) ?_
  show Goes _ _ _ _ _ _ _ (s₁.setTop (mkF m 14 #[.val (.int p0), .val (.int p1), .val (.int p2), .val (.int m3), .val (.int (p1 &&& (65535 : Int32))), .unset, .unset, .unset, .unset, .unset] []))
  generalize hg_b4 : (p1 &&& (65535 : Int32)) = b4
  show Goes _ _ _ _ _ _ _ (s₁.setTop (mkF m 14 #[.val (.int p0), .val (.int p1), .val (.int p2), .val (.int m3), .val (.int b4), .unset, .unset, .unset, .unset, .unset] []))
  refine Goes.step (fun _ k => XS.iloadN X0.here hx rfl (hb hby at_14) rfl  k) ?_
  show Goes _ _ _ _ _ _ _ (s₁.setTop (mkF m 15 #[.val (.int p0), .val (.int p1), .val (.int p2), .val (.int m3), .val (.int b4), .unset, .unset, .unset, .unset, .unset] [(.int p2)]))
  refine Goes.step (fun _ k => X0.ldcInt hx hown (mvT hZ (hw _ (List.mem_of_getElem? (i := 1) rfl))) (g := (mkF m 15 #[.val (.int p0), .val (.int p1), .val (.int p2), .val (.int m3), .val (.int b4), .unset, .unset, .unset, .unset, .unset] [(.int p2)])) rfl (hb hby at_15) _ k) ?_
  show Goes _ _ _ _ _ _ _ (s₁.setTop (mkF m 17 #[.val (.int p0), .val (.int p1), .val (.int p2), .val (.int m3), .val (.int b4), .unset, .unset, .unset, .unset, .unset] [(.int (2147483647 : Int32)), (.int p2)]))
  refine Goes.step (fun _ k => XS.iand X0.here hx rfl (hb hby at_17) rfl k) ?_
  show Goes _ _ _ _ _ _ _ (s₁.setTop (mkF m 18 #[.val (.int p0), .val (.int p1), .val (.int p2), .val (.int m3), .val (.int b4), .unset, .unset, .unset, .unset, .unset] [(.int (p2 &&& (2147483647 : Int32)))]))
  refine Goes.step (fun _ k => XS.iconst X0.here hx rfl (hb hby at_18) k) ?_
  show Goes _ _ _ _ _ _ _ (s₁.setTop (mkF m 19 #[.val (.int p0), .val (.int p1), .val (.int p2), .val (.int m3), .val (.int b4), .unset, .unset, .unset, .unset, .unset] [(.int (3 : Int32)), (.int (p2 &&& (2147483647 : Int32)))]))
  refine Goes.step (fun _ k => iremM X0 hx rfl (hb hby at_19) rfl (by decide) k) ?_
  show Goes _ _ _ _ _ _ _ (s₁.setTop (mkF m 20 #[.val (.int p0), .val (.int p1), .val (.int p2), .val (.int m3), .val (.int b4), .unset, .unset, .unset, .unset, .unset] [(.int ((p2 &&& (2147483647 : Int32)) % (3 : Int32)))]))
  refine Goes.step (fun _ k => XS.istore X0.here hx rfl (hb hby at_20) rfl (l' := #[.val (.int p0), .val (.int p1), .val (.int p2), .val (.int m3), .val (.int b4), .val (.int ((p2 &&& (2147483647 : Int32)) % (3 : Int32))), .unset, .unset, .unset, .unset]) rfl k) ?_
  show Goes _ _ _ _ _ _ _ (s₁.setTop (mkF m 22 #[.val (.int p0), .val (.int p1), .val (.int p2), .val (.int m3), .val (.int b4), .val (.int ((p2 &&& (2147483647 : Int32)) % (3 : Int32))), .unset, .unset, .unset, .unset] []))
  refine Goes.step (fun _ k => XS.bipush X0.here hx rfl (hb hby at_22) k) ?_
  show Goes _ _ _ _ _ _ _ (s₁.setTop (mkF m 24 #[.val (.int p0), .val (.int p1), .val (.int p2), .val (.int m3), .val (.int b4), .val (.int ((p2 &&& (2147483647 : Int32)) % (3 : Int32))), .unset, .unset, .unset, .unset] [(.int (18 : Int32))]))
  obtain ⟨T1, h1, k1, X1, e1, E1, A1, st1⟩ := newP X0 hx hZ (hw _ (List.mem_of_getElem? (i := 2) rfl)) e0 (g := (mkF m 24 #[.val (.int p0), .val (.int p1), .val (.int p2), .val (.int m3), .val (.int b4), .val (.int ((p2 &&& (2147483647 : Int32)) % (3 : Int32))), .unset, .unset, .unset, .unset] [(.int (18 : Int32))])) rfl (hb hby at_24) rfl (by decide) (cap := 18) (by decide) (by decide) (by decide) (by decide)
  obtain ⟨b1, g1⟩ : ∃ z, z = h0.size := ⟨_, rfl⟩
  rw [← g1] at A1 st1
  refine Goes.step st1 ?_
  have g_b1 : n0 ≤ b1 := Nat.le_trans Z0 (Nat.le_of_eq g1.symm)
  have sz_b1 : h0.size ≤ b1 := Nat.le_trans K0.1 (Nat.le_of_eq g1.symm)
  have K2 : Keep h0 h1 [] := K0.ext E1
  have Z2 : n0 ≤ h1.size := Nat.le_trans Z0 E1.1
  have V_b1 : Arv Z h1 b1 k1 .double (18 : Int32) [(.double (0 : UInt64)), (.double (0 : UInt64)), (.double (0 : UInt64)), (.double (0 : UInt64)), (.double (0 : UInt64)), (.double (0 : UInt64)), (.double (0 : UInt64)), (.double (0 : UInt64)), (.double (0 : UInt64)), (.double (0 : UInt64)), (.double (0 : UInt64)), (.double (0 : UInt64)), (.double (0 : UInt64)), (.double (0 : UInt64)), (.double (0 : UInt64)), (.double (0 : UInt64)), (.double (0 : UInt64)), (.double (0 : UInt64))] (.double (0 : UInt64)) := (Arv.new A1 (by decide)).pad (pad_rep [] (.double (0 : UInt64)) 18)
  show Goes _ _ _ _ _ _ _ (T1.setTop (mkF m 26 #[.val (.int p0), .val (.int p1), .val (.int p2), .val (.int m3), .val (.int b4), .val (.int ((p2 &&& (2147483647 : Int32)) % (3 : Int32))), .unset, .unset, .unset, .unset] [(.ref b1)]))
  refine Goes.step (fun _ k => XS.dup X1.here hx rfl (hb hby at_26) rfl rfl k) ?_
  show Goes _ _ _ _ _ _ _ (T1.setTop (mkF m 27 #[.val (.int p0), .val (.int p1), .val (.int p2), .val (.int m3), .val (.int b4), .val (.int ((p2 &&& (2147483647 : Int32)) % (3 : Int32))), .unset, .unset, .unset, .unset] [(.ref b1), (.ref b1)]))
  refine Goes.step (fun _ k => XS.iconst X1.here hx rfl (hb hby at_27) k) ?_
  show Goes _ _ _ _ _ _ _ (T1.setTop (mkF m 28 #[.val (.int p0), .val (.int p1), .val (.int p2), .val (.int m3), .val (.int b4), .val (.int ((p2 &&& (2147483647 : Int32)) % (3 : Int32))), .unset, .unset, .unset, .unset] [(.int (0 : Int32)), (.ref b1), (.ref b1)]))
  refine Goes.step (fun _ k => XS.iconst X1.here hx rfl (hb hby at_28) k) ?_
  show Goes _ _ _ _ _ _ _ (T1.setTop (mkF m 29 #[.val (.int p0), .val (.int p1), .val (.int p2), .val (.int m3), .val (.int b4), .val (.int ((p2 &&& (2147483647 : Int32)) % (3 : Int32))), .unset, .unset, .unset, .unset] [(.int (0 : Int32)), (.int (0 : Int32)), (.ref b1), (.ref b1)]))
  refine Goes.step (fun _ k => XS.iloadN X1.here hx rfl (hb hby at_29) rfl  k) ?_
  show Goes _ _ _ _ _ _ _ (T1.setTop (mkF m 30 #[.val (.int p0), .val (.int p1), .val (.int p2), .val (.int m3), .val (.int b4), .val (.int ((p2 &&& (2147483647 : Int32)) % (3 : Int32))), .unset, .unset, .unset, .unset] [(.int m3), (.int (0 : Int32)), (.int (0 : Int32)), (.ref b1), (.ref b1)]))
  refine Goes.step (fun _ k => XS.iload X1.here hx rfl (hb hby at_30) rfl  k) ?_
  show Goes _ _ _ _ _ _ _ (T1.setTop (mkF m 32 #[.val (.int p0), .val (.int p1), .val (.int p2), .val (.int m3), .val (.int b4), .val (.int ((p2 &&& (2147483647 : Int32)) % (3 : Int32))), .unset, .unset, .unset, .unset] [(.int b4), (.int m3), (.int (0 : Int32)), (.int (0 : Int32)), (.ref b1), (.ref b1)]))
  obtain ⟨_, _, ⟨T3, L3, k3, n3⟩, -, X3, ⟨Lc3, hQ3, l3, y3, z3⟩, st3⟩ := Jvm.LawKit.callS X1 hx (y := (⟨"com/example/orbitloom/orbitloom/orbits/TrackSamplePinLaw", "v", "(III)D"⟩ : MethodName)) hown (mvT hZ (hw _ (List.mem_of_getElem? (i := 3) rfl))) (mvT hZ (hw _ (List.mem_of_getElem? (i := 4) rfl))) (mvT hZ (hw _ (List.mem_of_getElem? (i := 5) rfl))) (mvT hZ (hw _ (List.mem_of_getElem? (i := 6) rfl))) (by decide) (backOf (W := 3) (rm1 l Z a0 hw [] (0 : Int32) m3 b4 h1 n0 Z2 ) hZ (hw _ (List.mem_of_getElem? (i := 6) rfl)) (hw _ (List.mem_of_getElem? (i := 5) rfl)) (by decide) (by decide)) (g := (mkF m 32 #[.val (.int p0), .val (.int p1), .val (.int p2), .val (.int m3), .val (.int b4), .val (.int ((p2 &&& (2147483647 : Int32)) % (3 : Int32))), .unset, .unset, .unset, .unset] [(.int b4), (.int m3), (.int (0 : Int32)), (.int (0 : Int32)), (.ref b1), (.ref b1)])) rfl (by rw [hml]; rfl) (argsL := [(.int (0 : Int32)), (.int m3), (.int b4)]) (rest := [(.int (0 : Int32)), (.ref b1), (.ref b1)]) (lenOf pd_0 rfl) rfl (by show 2 * 0 + _ ≤ _; exact Nat.le_of_eq rfl) (hb hby at_32) (fun _ _ => ⟨rfl, e1, (by decide : 1 + 0 ≤ _), (by decide : 18 + 0 ≤ _)⟩)
  dsimp only [Pt.U, Pt.locs, Pt.cells, Pt.slots] at X3 l3 y3 z3 st3 hQ3
  rw [l3, y3, z3] at X3
  obtain ⟨N3, eh3, hR3⟩ := hQ3
  have NA3 := Fr.app N0 N3
  obtain rfl := hR3
  refine Goes.step st3 ?_
  show Goes _ _ _ _ _ _ _ (T3.setTop (mkF m 35 #[.val (.int p0), .val (.int p1), .val (.int p2), .val (.int m3), .val (.int b4), .val (.int ((p2 &&& (2147483647 : Int32)) % (3 : Int32))), .unset, .unset, .unset, .unset] [(.double (FP.i2d (((0 : Int32) * m3) + b4))), (.int (0 : Int32)), (.ref b1), (.ref b1)]))
  obtain ⟨cl4, Ar4, q4, S4, P4, H4, G4⟩ := id V_b1
  have hin4 : ¬ ((0 : Int32) < 0 ∨ cl4.slots.size ≤ ((0 : Int32)).toNatClampNeg) := inb_of S4 ⟨by decide, by decide⟩
  obtain ⟨T5, h5, X5, e5, W5, st5⟩ := stD X3 hx hZ eh3 Ar4 (j := (0 : Int32)) hin4 (g := (mkF m 35 #[.val (.int p0), .val (.int p1), .val (.int p2), .val (.int m3), .val (.int b4), .val (.int ((p2 &&& (2147483647 : Int32)) % (3 : Int32))), .unset, .unset, .unset, .unset] [(.double (FP.i2d (((0 : Int32) * m3) + b4))), (.int (0 : Int32)), (.ref b1), (.ref b1)])) rfl rfl (hb hby at_35)
  refine Goes.step st5 ?_
  have V5 : Arv Z h5 b1 k1 .double (18 : Int32) [(.double (FP.i2d (((0 : Int32) * m3) + b4))), (.double (0 : UInt64)), (.double (0 : UInt64)), (.double (0 : UInt64)), (.double (0 : UInt64)), (.double (0 : UInt64)), (.double (0 : UInt64)), (.double (0 : UInt64)), (.double (0 : UInt64)), (.double (0 : UInt64)), (.double (0 : UInt64)), (.double (0 : UInt64)), (.double (0 : UInt64)), (.double (0 : UInt64)), (.double (0 : UInt64)), (.double (0 : UInt64)), (.double (0 : UInt64)), (.double (0 : UInt64))] (.double (0 : UInt64)) := Arv.set Ar4 q4 S4 P4 H4 G4 rfl W5 0 rfl (Nat.le_of_ble_eq_true rfl)
  have f6 := V5
  have K7 : Keep h0 h5 [] := K2.wr W5 (Or.inr sz_b1)
  have Z7 : n0 ≤ h5.size := by rw [Wr.size W5]; exact Z2
  have N7 := Fr.snoc X5 NA3 g_b1
  show Goes _ _ _ _ _ _ _ (T5.setTop (mkF m 36 #[.val (.int p0), .val (.int p1), .val (.int p2), .val (.int m3), .val (.int b4), .val (.int ((p2 &&& (2147483647 : Int32)) % (3 : Int32))), .unset, .unset, .unset, .unset] [(.ref b1)]))
  refine Goes.step (fun _ k => XS.dup X5.here hx rfl (hb hby at_36) rfl rfl k) ?_
  show Goes _ _ _ _ _ _ _ (T5.setTop (mkF m 37 #[.val (.int p0), .val (.int p1), .val (.int p2), .val (.int m3), .val (.int b4), .val (.int ((p2 &&& (2147483647 : Int32)) % (3 : Int32))), .unset, .unset, .unset, .unset] [(.ref b1), (.ref b1)]))
  refine Goes.step (fun _ k => XS.iconst X5.here hx rfl (hb hby at_37) k) ?_
  show Goes _ _ _ _ _ _ _ (T5.setTop (mkF m 38 #[.val (.int p0), .val (.int p1), .val (.int p2), .val (.int m3), .val (.int b4), .val (.int ((p2 &&& (2147483647 : Int32)) % (3 : Int32))), .unset, .unset, .unset, .unset] [(.int (1 : Int32)), (.ref b1), (.ref b1)]))
  refine Goes.step (fun _ k => XS.iconst X5.here hx rfl (hb hby at_38) k) ?_
  show Goes _ _ _ _ _ _ _ (T5.setTop (mkF m 39 #[.val (.int p0), .val (.int p1), .val (.int p2), .val (.int m3), .val (.int b4), .val (.int ((p2 &&& (2147483647 : Int32)) % (3 : Int32))), .unset, .unset, .unset, .unset] [(.int (1 : Int32)), (.int (1 : Int32)), (.ref b1), (.ref b1)]))
  refine Goes.step (fun _ k => XS.iloadN X5.here hx rfl (hb hby at_39) rfl  k) ?_
  show Goes _ _ _ _ _ _ _ (T5.setTop (mkF m 40 #[.val (.int p0), .val (.int p1), .val (.int p2), .val (.int m3), .val (.int b4), .val (.int ((p2 &&& (2147483647 : Int32)) % (3 : Int32))), .unset, .unset, .unset, .unset] [(.int m3), (.int (1 : Int32)), (.int (1 : Int32)), (.ref b1), (.ref b1)]))
  refine Goes.step (fun _ k => XS.iload X5.here hx rfl (hb hby at_40) rfl  k) ?_
  show Goes _ _ _ _ _ _ _ (T5.setTop (mkF m 42 #[.val (.int p0), .val (.int p1), .val (.int p2), .val (.int m3), .val (.int b4), .val (.int ((p2 &&& (2147483647 : Int32)) % (3 : Int32))), .unset, .unset, .unset, .unset] [(.int b4), (.int m3), (.int (1 : Int32)), (.int (1 : Int32)), (.ref b1), (.ref b1)]))
  obtain ⟨_, _, ⟨T8, L8, k8, n8⟩, -, X8, ⟨Lc8, hQ8, l8, y8, z8⟩, st8⟩ := Jvm.LawKit.callS X5 hx (y := (⟨"com/example/orbitloom/orbitloom/orbits/TrackSamplePinLaw", "v", "(III)D"⟩ : MethodName)) hown (mvT hZ (hw _ (List.mem_of_getElem? (i := 3) rfl))) (mvT hZ (hw _ (List.mem_of_getElem? (i := 4) rfl))) (mvT hZ (hw _ (List.mem_of_getElem? (i := 5) rfl))) (mvT hZ (hw _ (List.mem_of_getElem? (i := 6) rfl))) (by decide) (backOf (W := 3) (rm1 l Z a0 hw [] (1 : Int32) m3 b4 h5 n0 Z7 ) hZ (hw _ (List.mem_of_getElem? (i := 6) rfl)) (hw _ (List.mem_of_getElem? (i := 5) rfl)) (by decide) (by decide)) (g := (mkF m 42 #[.val (.int p0), .val (.int p1), .val (.int p2), .val (.int m3), .val (.int b4), .val (.int ((p2 &&& (2147483647 : Int32)) % (3 : Int32))), .unset, .unset, .unset, .unset] [(.int b4), (.int m3), (.int (1 : Int32)), (.int (1 : Int32)), (.ref b1), (.ref b1)])) rfl (by rw [hml]; rfl) (argsL := [(.int (1 : Int32)), (.int m3), (.int b4)]) (rest := [(.int (1 : Int32)), (.ref b1), (.ref b1)]) (lenOf pd_0 rfl) rfl (by show 2 * 0 + _ ≤ _; exact Nat.le_of_eq rfl) (hb hby at_42) (fun _ _ => ⟨rfl, e5, (by decide : 1 + 0 ≤ _), (by decide : 18 + 0 ≤ _)⟩)
  dsimp only [Pt.U, Pt.locs, Pt.cells, Pt.slots] at X8 l8 y8 z8 st8 hQ8
  rw [l8, y8, z8] at X8
  obtain ⟨N8, eh8, hR8⟩ := hQ8
  have NA8 := Fr.app N7 N8
  obtain rfl := hR8
  refine Goes.step st8 ?_
  show Goes _ _ _ _ _ _ _ (T8.setTop (mkF m 45 #[.val (.int p0), .val (.int p1), .val (.int p2), .val (.int m3), .val (.int b4), .val (.int ((p2 &&& (2147483647 : Int32)) % (3 : Int32))), .unset, .unset, .unset, .unset] [(.double (FP.i2d (((1 : Int32) * m3) + b4))), (.int (1 : Int32)), (.ref b1), (.ref b1)]))
  obtain ⟨cl9, Ar9, q9, S9, P9, H9, G9⟩ := id f6
  have hin9 : ¬ ((1 : Int32) < 0 ∨ cl9.slots.size ≤ ((1 : Int32)).toNatClampNeg) := inb_of S9 ⟨by decide, by decide⟩
  obtain ⟨T10, h10, X10, e10, W10, st10⟩ := stD X8 hx hZ eh8 Ar9 (j := (1 : Int32)) hin9 (g := (mkF m 45 #[.val (.int p0), .val (.int p1), .val (.int p2), .val (.int m3), .val (.int b4), .val (.int ((p2 &&& (2147483647 : Int32)) % (3 : Int32))), .unset, .unset, .unset, .unset] [(.double (FP.i2d (((1 : Int32) * m3) + b4))), (.int (1 : Int32)), (.ref b1), (.ref b1)])) rfl rfl (hb hby at_45)
  refine Goes.step st10 ?_
  have V10 : Arv Z h10 b1 k1 .double (18 : Int32) [(.double (FP.i2d (((0 : Int32) * m3) + b4))), (.double (FP.i2d (((1 : Int32) * m3) + b4))), (.double (0 : UInt64)), (.double (0 : UInt64)), (.double (0 : UInt64)), (.double (0 : UInt64)), (.double (0 : UInt64)), (.double (0 : UInt64)), (.double (0 : UInt64)), (.double (0 : UInt64)), (.double (0 : UInt64)), (.double (0 : UInt64)), (.double (0 : UInt64)), (.double (0 : UInt64)), (.double (0 : UInt64)), (.double (0 : UInt64)), (.double (0 : UInt64)), (.double (0 : UInt64))] (.double (0 : UInt64)) := Arv.set Ar9 q9 S9 P9 H9 G9 rfl W10 1 rfl (Nat.le_of_ble_eq_true rfl)
  have f11 := V10
  have K12 : Keep h0 h10 [] := K7.wr W10 (Or.inr sz_b1)
  have Z12 : n0 ≤ h10.size := by rw [Wr.size W10]; exact Z7
  have N12 := Fr.snoc X10 NA8 g_b1
  show Goes _ _ _ _ _ _ _ (T10.setTop (mkF m 46 #[.val (.int p0), .val (.int p1), .val (.int p2), .val (.int m3), .val (.int b4), .val (.int ((p2 &&& (2147483647 : Int32)) % (3 : Int32))), .unset, .unset, .unset, .unset] [(.ref b1)]))
  refine Goes.step (fun _ k => XS.dup X10.here hx rfl (hb hby at_46) rfl rfl k) ?_
  show Goes _ _ _ _ _ _ _ (T10.setTop (mkF m 47 #[.val (.int p0), .val (.int p1), .val (.int p2), .val (.int m3), .val (.int b4), .val (.int ((p2 &&& (2147483647 : Int32)) % (3 : Int32))), .unset, .unset, .unset, .unset] [(.ref b1), (.ref b1)]))
  refine Goes.step (fun _ k => XS.iconst X10.here hx rfl (hb hby at_47) k) ?_
  show Goes _ _ _ _ _ _ _ (T10.setTop (mkF m 48 #[.val (.int p0), .val (.int p1), .val (.int p2), .val (.int m3), .val (.int b4), .val (.int ((p2 &&& (2147483647 : Int32)) % (3 : Int32))), .unset, .unset, .unset, .unset] [(.int (2 : Int32)), (.ref b1), (.ref b1)]))
  refine Goes.step (fun _ k => XS.iconst X10.here hx rfl (hb hby at_48) k) ?_
  show Goes _ _ _ _ _ _ _ (T10.setTop (mkF m 49 #[.val (.int p0), .val (.int p1), .val (.int p2), .val (.int m3), .val (.int b4), .val (.int ((p2 &&& (2147483647 : Int32)) % (3 : Int32))), .unset, .unset, .unset, .unset] [(.int (2 : Int32)), (.int (2 : Int32)), (.ref b1), (.ref b1)]))
  refine Goes.step (fun _ k => XS.iloadN X10.here hx rfl (hb hby at_49) rfl  k) ?_
  show Goes _ _ _ _ _ _ _ (T10.setTop (mkF m 50 #[.val (.int p0), .val (.int p1), .val (.int p2), .val (.int m3), .val (.int b4), .val (.int ((p2 &&& (2147483647 : Int32)) % (3 : Int32))), .unset, .unset, .unset, .unset] [(.int m3), (.int (2 : Int32)), (.int (2 : Int32)), (.ref b1), (.ref b1)]))
  refine Goes.step (fun _ k => XS.iload X10.here hx rfl (hb hby at_50) rfl  k) ?_
  show Goes _ _ _ _ _ _ _ (T10.setTop (mkF m 52 #[.val (.int p0), .val (.int p1), .val (.int p2), .val (.int m3), .val (.int b4), .val (.int ((p2 &&& (2147483647 : Int32)) % (3 : Int32))), .unset, .unset, .unset, .unset] [(.int b4), (.int m3), (.int (2 : Int32)), (.int (2 : Int32)), (.ref b1), (.ref b1)]))
  obtain ⟨_, _, ⟨T13, L13, k13, n13⟩, -, X13, ⟨Lc13, hQ13, l13, y13, z13⟩, st13⟩ := Jvm.LawKit.callS X10 hx (y := (⟨"com/example/orbitloom/orbitloom/orbits/TrackSamplePinLaw", "v", "(III)D"⟩ : MethodName)) hown (mvT hZ (hw _ (List.mem_of_getElem? (i := 3) rfl))) (mvT hZ (hw _ (List.mem_of_getElem? (i := 4) rfl))) (mvT hZ (hw _ (List.mem_of_getElem? (i := 5) rfl))) (mvT hZ (hw _ (List.mem_of_getElem? (i := 6) rfl))) (by decide) (backOf (W := 3) (rm1 l Z a0 hw [] (2 : Int32) m3 b4 h10 n0 Z12 ) hZ (hw _ (List.mem_of_getElem? (i := 6) rfl)) (hw _ (List.mem_of_getElem? (i := 5) rfl)) (by decide) (by decide)) (g := (mkF m 52 #[.val (.int p0), .val (.int p1), .val (.int p2), .val (.int m3), .val (.int b4), .val (.int ((p2 &&& (2147483647 : Int32)) % (3 : Int32))), .unset, .unset, .unset, .unset] [(.int b4), (.int m3), (.int (2 : Int32)), (.int (2 : Int32)), (.ref b1), (.ref b1)])) rfl (by rw [hml]; rfl) (argsL := [(.int (2 : Int32)), (.int m3), (.int b4)]) (rest := [(.int (2 : Int32)), (.ref b1), (.ref b1)]) (lenOf pd_0 rfl) rfl (by show 2 * 0 + _ ≤ _; exact Nat.le_of_eq rfl) (hb hby at_52) (fun _ _ => ⟨rfl, e10, (by decide : 1 + 0 ≤ _), (by decide : 18 + 0 ≤ _)⟩)
  dsimp only [Pt.U, Pt.locs, Pt.cells, Pt.slots] at X13 l13 y13 z13 st13 hQ13
  rw [l13, y13, z13] at X13
  obtain ⟨N13, eh13, hR13⟩ := hQ13
  have NA13 := Fr.app N12 N13
  obtain rfl := hR13
  refine Goes.step st13 ?_
  show Goes _ _ _ _ _ _ _ (T13.setTop (mkF m 55 #[.val (.int p0), .val (.int p1), .val (.int p2), .val (.int m3), .val (.int b4), .val (.int ((p2 &&& (2147483647 : Int32)) % (3 : Int32))), .unset, .unset, .unset, .unset] [(.double (FP.i2d (((2 : Int32) * m3) + b4))), (.int (2 : Int32)), (.ref b1), (.ref b1)]))
  obtain ⟨cl14, Ar14, q14, S14, P14, H14, G14⟩ := id f11
  have hin14 : ¬ ((2 : Int32) < 0 ∨ cl14.slots.size ≤ ((2 : Int32)).toNatClampNeg) := inb_of S14 ⟨by decide, by decide⟩
  obtain ⟨T15, h15, X15, e15, W15, st15⟩ := stD X13 hx hZ eh13 Ar14 (j := (2 : Int32)) hin14 (g := (mkF m 55 #[.val (.int p0), .val (.int p1), .val (.int p2), .val (.int m3), .val (.int b4), .val (.int ((p2 &&& (2147483647 : Int32)) % (3 : Int32))), .unset, .unset, .unset, .unset] [(.double (FP.i2d (((2 : Int32) * m3) + b4))), (.int (2 : Int32)), (.ref b1), (.ref b1)])) rfl rfl (hb hby at_55)
  refine Goes.step st15 ?_
  have V15 : Arv Z h15 b1 k1 .double (18 : Int32) [(.double (FP.i2d (((0 : Int32) * m3) + b4))), (.double (FP.i2d (((1 : Int32) * m3) + b4))), (.double (FP.i2d (((2 : Int32) * m3) + b4))), (.double (0 : UInt64)), (.double (0 : UInt64)), (.double (0 : UInt64)), (.double (0 : UInt64)), (.double (0 : UInt64)), (.double (0 : UInt64)), (.double (0 : UInt64)), (.double (0 : UInt64)), (.double (0 : UInt64)), (.double (0 : UInt64)), (.double (0 : UInt64)), (.double (0 : UInt64)), (.double (0 : UInt64)), (.double (0 : UInt64)), (.double (0 : UInt64))] (.double (0 : UInt64)) := Arv.set Ar14 q14 S14 P14 H14 G14 rfl W15 2 rfl (Nat.le_of_ble_eq_true rfl)
  have f16 := V15
  have K17 : Keep h0 h15 [] := K12.wr W15 (Or.inr sz_b1)
  have Z17 : n0 ≤ h15.size := by rw [Wr.size W15]; exact Z12
  have N17 := Fr.snoc X15 NA13 g_b1
  show Goes _ _ _ _ _ _ _ (T15.setTop (mkF m 56 #[.val (.int p0), .val (.int p1), .val (.int p2), .val (.int m3), .val (.int b4), .val (.int ((p2 &&& (2147483647 : Int32)) % (3 : Int32))), .unset, .unset, .unset, .unset] [(.ref b1)]))
  refine Goes.step (fun _ k => XS.dup X15.here hx rfl (hb hby at_56) rfl rfl k) ?_
  show Goes _ _ _ _ _ _ _ (T15.setTop (mkF m 57 #[.val (.int p0), .val (.int p1), .val (.int p2), .val (.int m3), .val (.int b4), .val (.int ((p2 &&& (2147483647 : Int32)) % (3 : Int32))), .unset, .unset, .unset, .unset] [(.ref b1), (.ref b1)]))
  refine Goes.step (fun _ k => XS.iconst X15.here hx rfl (hb hby at_57) k) ?_
  show Goes _ _ _ _ _ _ _ (T15.setTop (mkF m 58 #[.val (.int p0), .val (.int p1), .val (.int p2), .val (.int m3), .val (.int b4), .val (.int ((p2 &&& (2147483647 : Int32)) % (3 : Int32))), .unset, .unset, .unset, .unset] [(.int (3 : Int32)), (.ref b1), (.ref b1)]))
  refine Goes.step (fun _ k => XS.iconst X15.here hx rfl (hb hby at_58) k) ?_
  show Goes _ _ _ _ _ _ _ (T15.setTop (mkF m 59 #[.val (.int p0), .val (.int p1), .val (.int p2), .val (.int m3), .val (.int b4), .val (.int ((p2 &&& (2147483647 : Int32)) % (3 : Int32))), .unset, .unset, .unset, .unset] [(.int (3 : Int32)), (.int (3 : Int32)), (.ref b1), (.ref b1)]))
  refine Goes.step (fun _ k => XS.iloadN X15.here hx rfl (hb hby at_59) rfl  k) ?_
  show Goes _ _ _ _ _ _ _ (T15.setTop (mkF m 60 #[.val (.int p0), .val (.int p1), .val (.int p2), .val (.int m3), .val (.int b4), .val (.int ((p2 &&& (2147483647 : Int32)) % (3 : Int32))), .unset, .unset, .unset, .unset] [(.int m3), (.int (3 : Int32)), (.int (3 : Int32)), (.ref b1), (.ref b1)]))
  refine Goes.step (fun _ k => XS.iload X15.here hx rfl (hb hby at_60) rfl  k) ?_
  show Goes _ _ _ _ _ _ _ (T15.setTop (mkF m 62 #[.val (.int p0), .val (.int p1), .val (.int p2), .val (.int m3), .val (.int b4), .val (.int ((p2 &&& (2147483647 : Int32)) % (3 : Int32))), .unset, .unset, .unset, .unset] [(.int b4), (.int m3), (.int (3 : Int32)), (.int (3 : Int32)), (.ref b1), (.ref b1)]))
  obtain ⟨_, _, ⟨T18, L18, k18, n18⟩, -, X18, ⟨Lc18, hQ18, l18, y18, z18⟩, st18⟩ := Jvm.LawKit.callS X15 hx (y := (⟨"com/example/orbitloom/orbitloom/orbits/TrackSamplePinLaw", "v", "(III)D"⟩ : MethodName)) hown (mvT hZ (hw _ (List.mem_of_getElem? (i := 3) rfl))) (mvT hZ (hw _ (List.mem_of_getElem? (i := 4) rfl))) (mvT hZ (hw _ (List.mem_of_getElem? (i := 5) rfl))) (mvT hZ (hw _ (List.mem_of_getElem? (i := 6) rfl))) (by decide) (backOf (W := 3) (rm1 l Z a0 hw [] (3 : Int32) m3 b4 h15 n0 Z17 ) hZ (hw _ (List.mem_of_getElem? (i := 6) rfl)) (hw _ (List.mem_of_getElem? (i := 5) rfl)) (by decide) (by decide)) (g := (mkF m 62 #[.val (.int p0), .val (.int p1), .val (.int p2), .val (.int m3), .val (.int b4), .val (.int ((p2 &&& (2147483647 : Int32)) % (3 : Int32))), .unset, .unset, .unset, .unset] [(.int b4), (.int m3), (.int (3 : Int32)), (.int (3 : Int32)), (.ref b1), (.ref b1)])) rfl (by rw [hml]; rfl) (argsL := [(.int (3 : Int32)), (.int m3), (.int b4)]) (rest := [(.int (3 : Int32)), (.ref b1), (.ref b1)]) (lenOf pd_0 rfl) rfl (by show 2 * 0 + _ ≤ _; exact Nat.le_of_eq rfl) (hb hby at_62) (fun _ _ => ⟨rfl, e15, (by decide : 1 + 0 ≤ _), (by decide : 18 + 0 ≤ _)⟩)
  dsimp only [Pt.U, Pt.locs, Pt.cells, Pt.slots] at X18 l18 y18 z18 st18 hQ18
  rw [l18, y18, z18] at X18
  obtain ⟨N18, eh18, hR18⟩ := hQ18
  have NA18 := Fr.app N17 N18
  obtain rfl := hR18
  refine Goes.step st18 ?_
  show Goes _ _ _ _ _ _ _ (T18.setTop (mkF m 65 #[.val (.int p0), .val (.int p1), .val (.int p2), .val (.int m3), .val (.int b4), .val (.int ((p2 &&& (2147483647 : Int32)) % (3 : Int32))), .unset, .unset, .unset, .unset] [(.double (FP.i2d (((3 : Int32) * m3) + b4))), (.int (3 : Int32)), (.ref b1), (.ref b1)]))
  obtain ⟨cl19, Ar19, q19, S19, P19, H19, G19⟩ := id f16
  have hin19 : ¬ ((3 : Int32) < 0 ∨ cl19.slots.size ≤ ((3 : Int32)).toNatClampNeg) := inb_of S19 ⟨by decide, by decide⟩
  obtain ⟨T20, h20, X20, e20, W20, st20⟩ := stD X18 hx hZ eh18 Ar19 (j := (3 : Int32)) hin19 (g := (mkF m 65 #[.val (.int p0), .val (.int p1), .val (.int p2), .val (.int m3), .val (.int b4), .val (.int ((p2 &&& (2147483647 : Int32)) % (3 : Int32))), .unset, .unset, .unset, .unset] [(.double (FP.i2d (((3 : Int32) * m3) + b4))), (.int (3 : Int32)), (.ref b1), (.ref b1)])) rfl rfl (hb hby at_65)
  refine Goes.step st20 ?_
  have V20 : Arv Z h20 b1 k1 .double (18 : Int32) [(.double (FP.i2d (((0 : Int32) * m3) + b4))), (.double (FP.i2d (((1 : Int32) * m3) + b4))), (.double (FP.i2d (((2 : Int32) * m3) + b4))), (.double (FP.i2d (((3 : Int32) * m3) + b4))), (.double (0 : UInt64)), (.double (0 : UInt64)), (.double (0 : UInt64)), (.double (0 : UInt64)), (.double (0 : UInt64)), (.double (0 : UInt64)), (.double (0 : UInt64)), (.double (0 : UInt64)), (.double (0 : UInt64)), (.double (0 : UInt64)), (.double (0 : UInt64)), (.double (0 : UInt64)), (.double (0 : UInt64)), (.double (0 : UInt64))] (.double (0 : UInt64)) := Arv.set Ar19 q19 S19 P19 H19 G19 rfl W20 3 rfl (Nat.le_of_ble_eq_true rfl)
  have f21 := V20
  have K22 : Keep h0 h20 [] := K17.wr W20 (Or.inr sz_b1)
  have Z22 : n0 ≤ h20.size := by rw [Wr.size W20]; exact Z17
  have N22 := Fr.snoc X20 NA18 g_b1
  show Goes _ _ _ _ _ _ _ (T20.setTop (mkF m 66 #[.val (.int p0), .val (.int p1), .val (.int p2), .val (.int m3), .val (.int b4), .val (.int ((p2 &&& (2147483647 : Int32)) % (3 : Int32))), .unset, .unset, .unset, .unset] [(.ref b1)]))
  refine Goes.step (fun _ k => XS.dup X20.here hx rfl (hb hby at_66) rfl rfl k) ?_
  show Goes _ _ _ _ _ _ _ (T20.setTop (mkF m 67 #[.val (.int p0), .val (.int p1), .val (.int p2), .val (.int m3), .val (.int b4), .val (.int ((p2 &&& (2147483647 : Int32)) % (3 : Int32))), .unset, .unset, .unset, .unset] [(.ref b1), (.ref b1)]))
  refine Goes.step (fun _ k => XS.iconst X20.here hx rfl (hb hby at_67) k) ?_
  show Goes _ _ _ _ _ _ _ (T20.setTop (mkF m 68 #[.val (.int p0), .val (.int p1), .val (.int p2), .val (.int m3), .val (.int b4), .val (.int ((p2 &&& (2147483647 : Int32)) % (3 : Int32))), .unset, .unset, .unset, .unset] [(.int (4 : Int32)), (.ref b1), (.ref b1)]))
  refine Goes.step (fun _ k => XS.iconst X20.here hx rfl (hb hby at_68) k) ?_
  show Goes _ _ _ _ _ _ _ (T20.setTop (mkF m 69 #[.val (.int p0), .val (.int p1), .val (.int p2), .val (.int m3), .val (.int b4), .val (.int ((p2 &&& (2147483647 : Int32)) % (3 : Int32))), .unset, .unset, .unset, .unset] [(.int (4 : Int32)), (.int (4 : Int32)), (.ref b1), (.ref b1)]))
  refine Goes.step (fun _ k => XS.iloadN X20.here hx rfl (hb hby at_69) rfl  k) ?_
  show Goes _ _ _ _ _ _ _ (T20.setTop (mkF m 70 #[.val (.int p0), .val (.int p1), .val (.int p2), .val (.int m3), .val (.int b4), .val (.int ((p2 &&& (2147483647 : Int32)) % (3 : Int32))), .unset, .unset, .unset, .unset] [(.int m3), (.int (4 : Int32)), (.int (4 : Int32)), (.ref b1), (.ref b1)]))
  refine Goes.step (fun _ k => XS.iload X20.here hx rfl (hb hby at_70) rfl  k) ?_
  show Goes _ _ _ _ _ _ _ (T20.setTop (mkF m 72 #[.val (.int p0), .val (.int p1), .val (.int p2), .val (.int m3), .val (.int b4), .val (.int ((p2 &&& (2147483647 : Int32)) % (3 : Int32))), .unset, .unset, .unset, .unset] [(.int b4), (.int m3), (.int (4 : Int32)), (.int (4 : Int32)), (.ref b1), (.ref b1)]))
  obtain ⟨_, _, ⟨T23, L23, k23, n23⟩, -, X23, ⟨Lc23, hQ23, l23, y23, z23⟩, st23⟩ := Jvm.LawKit.callS X20 hx (y := (⟨"com/example/orbitloom/orbitloom/orbits/TrackSamplePinLaw", "v", "(III)D"⟩ : MethodName)) hown (mvT hZ (hw _ (List.mem_of_getElem? (i := 3) rfl))) (mvT hZ (hw _ (List.mem_of_getElem? (i := 4) rfl))) (mvT hZ (hw _ (List.mem_of_getElem? (i := 5) rfl))) (mvT hZ (hw _ (List.mem_of_getElem? (i := 6) rfl))) (by decide) (backOf (W := 3) (rm1 l Z a0 hw [] (4 : Int32) m3 b4 h20 n0 Z22 ) hZ (hw _ (List.mem_of_getElem? (i := 6) rfl)) (hw _ (List.mem_of_getElem? (i := 5) rfl)) (by decide) (by decide)) (g := (mkF m 72 #[.val (.int p0), .val (.int p1), .val (.int p2), .val (.int m3), .val (.int b4), .val (.int ((p2 &&& (2147483647 : Int32)) % (3 : Int32))), .unset, .unset, .unset, .unset] [(.int b4), (.int m3), (.int (4 : Int32)), (.int (4 : Int32)), (.ref b1), (.ref b1)])) rfl (by rw [hml]; rfl) (argsL := [(.int (4 : Int32)), (.int m3), (.int b4)]) (rest := [(.int (4 : Int32)), (.ref b1), (.ref b1)]) (lenOf pd_0 rfl) rfl (by show 2 * 0 + _ ≤ _; exact Nat.le_of_eq rfl) (hb hby at_72) (fun _ _ => ⟨rfl, e20, (by decide : 1 + 0 ≤ _), (by decide : 18 + 0 ≤ _)⟩)
  dsimp only [Pt.U, Pt.locs, Pt.cells, Pt.slots] at X23 l23 y23 z23 st23 hQ23
  rw [l23, y23, z23] at X23
  obtain ⟨N23, eh23, hR23⟩ := hQ23
  have NA23 := Fr.app N22 N23
  obtain rfl := hR23
  refine Goes.step st23 ?_
  show Goes _ _ _ _ _ _ _ (T23.setTop (mkF m 75 #[.val (.int p0), .val (.int p1), .val (.int p2), .val (.int m3), .val (.int b4), .val (.int ((p2 &&& (2147483647 : Int32)) % (3 : Int32))), .unset, .unset, .unset, .unset] [(.double (FP.i2d (((4 : Int32) * m3) + b4))), (.int (4 : Int32)), (.ref b1), (.ref b1)]))
  obtain ⟨cl24, Ar24, q24, S24, P24, H24, G24⟩ := id f21
  have hin24 : ¬ ((4 : Int32) < 0 ∨ cl24.slots.size ≤ ((4 : Int32)).toNatClampNeg) := inb_of S24 ⟨by decide, by decide⟩
  obtain ⟨T25, h25, X25, e25, W25, st25⟩ := stD X23 hx hZ eh23 Ar24 (j := (4 : Int32)) hin24 (g := (mkF m 75 #[.val (.int p0), .val (.int p1), .val (.int p2), .val (.int m3), .val (.int b4), .val (.int ((p2 &&& (2147483647 : Int32)) % (3 : Int32))), .unset, .unset, .unset, .unset] [(.double (FP.i2d (((4 : Int32) * m3) + b4))), (.int (4 : Int32)), (.ref b1), (.ref b1)])) rfl rfl (hb hby at_75)
  refine Goes.step st25 ?_
  have V25 : Arv Z h25 b1 k1 .double (18 : Int32) [(.double (FP.i2d (((0 : Int32) * m3) + b4))), (.double (FP.i2d (((1 : Int32) * m3) + b4))), (.double (FP.i2d (((2 : Int32) * m3) + b4))), (.double (FP.i2d (((3 : Int32) * m3) + b4))), (.double (FP.i2d (((4 : Int32) * m3) + b4))), (.double (0 : UInt64)), (.double (0 : UInt64)), (.double (0 : UInt64)), (.double (0 : UInt64)), (.double (0 : UInt64)), (.double (0 : UInt64)), (.double (0 : UInt64)), (.double (0 : UInt64)), (.double (0 : UInt64)), (.double (0 : UInt64)), (.double (0 : UInt64)), (.double (0 : UInt64)), (.double (0 : UInt64))] (.double (0 : UInt64)) := Arv.set Ar24 q24 S24 P24 H24 G24 rfl W25 4 rfl (Nat.le_of_ble_eq_true rfl)
  have f26 := V25
  have K27 : Keep h0 h25 [] := K22.wr W25 (Or.inr sz_b1)
  have Z27 : n0 ≤ h25.size := by rw [Wr.size W25]; exact Z22
  have N27 := Fr.snoc X25 NA23 g_b1
  show Goes _ _ _ _ _ _ _ (T25.setTop (mkF m 76 #[.val (.int p0), .val (.int p1), .val (.int p2), .val (.int m3), .val (.int b4), .val (.int ((p2 &&& (2147483647 : Int32)) % (3 : Int32))), .unset, .unset, .unset, .unset] [(.ref b1)]))
  refine Goes.step (fun _ k => XS.dup X25.here hx rfl (hb hby at_76) rfl rfl k) ?_
  show Goes _ _ _ _ _ _ _ (T25.setTop (mkF m 77 #[.val (.int p0), .val (.int p1), .val (.int p2), .val (.int m3), .val (.int b4), .val (.int ((p2 &&& (2147483647 : Int32)) % (3 : Int32))), .unset, .unset, .unset, .unset] [(.ref b1), (.ref b1)]))
  refine Goes.step (fun _ k => XS.iconst X25.here hx rfl (hb hby at_77) k) ?_
  show Goes _ _ _ _ _ _ _ (T25.setTop (mkF m 78 #[.val (.int p0), .val (.int p1), .val (.int p2), .val (.int m3), .val (.int b4), .val (.int ((p2 &&& (2147483647 : Int32)) % (3 : Int32))), .unset, .unset, .unset, .unset] [(.int (5 : Int32)), (.ref b1), (.ref b1)]))
  refine Goes.step (fun _ k => XS.iconst X25.here hx rfl (hb hby at_78) k) ?_
  show Goes _ _ _ _ _ _ _ (T25.setTop (mkF m 79 #[.val (.int p0), .val (.int p1), .val (.int p2), .val (.int m3), .val (.int b4), .val (.int ((p2 &&& (2147483647 : Int32)) % (3 : Int32))), .unset, .unset, .unset, .unset] [(.int (5 : Int32)), (.int (5 : Int32)), (.ref b1), (.ref b1)]))
  refine Goes.step (fun _ k => XS.iloadN X25.here hx rfl (hb hby at_79) rfl  k) ?_
  show Goes _ _ _ _ _ _ _ (T25.setTop (mkF m 80 #[.val (.int p0), .val (.int p1), .val (.int p2), .val (.int m3), .val (.int b4), .val (.int ((p2 &&& (2147483647 : Int32)) % (3 : Int32))), .unset, .unset, .unset, .unset] [(.int m3), (.int (5 : Int32)), (.int (5 : Int32)), (.ref b1), (.ref b1)]))
  refine Goes.step (fun _ k => XS.iload X25.here hx rfl (hb hby at_80) rfl  k) ?_
  show Goes _ _ _ _ _ _ _ (T25.setTop (mkF m 82 #[.val (.int p0), .val (.int p1), .val (.int p2), .val (.int m3), .val (.int b4), .val (.int ((p2 &&& (2147483647 : Int32)) % (3 : Int32))), .unset, .unset, .unset, .unset] [(.int b4), (.int m3), (.int (5 : Int32)), (.int (5 : Int32)), (.ref b1), (.ref b1)]))
  obtain ⟨_, _, ⟨T28, L28, k28, n28⟩, -, X28, ⟨Lc28, hQ28, l28, y28, z28⟩, st28⟩ := Jvm.LawKit.callS X25 hx (y := (⟨"com/example/orbitloom/orbitloom/orbits/TrackSamplePinLaw", "v", "(III)D"⟩ : MethodName)) hown (mvT hZ (hw _ (List.mem_of_getElem? (i := 3) rfl))) (mvT hZ (hw _ (List.mem_of_getElem? (i := 4) rfl))) (mvT hZ (hw _ (List.mem_of_getElem? (i := 5) rfl))) (mvT hZ (hw _ (List.mem_of_getElem? (i := 6) rfl))) (by decide) (backOf (W := 3) (rm1 l Z a0 hw [] (5 : Int32) m3 b4 h25 n0 Z27 ) hZ (hw _ (List.mem_of_getElem? (i := 6) rfl)) (hw _ (List.mem_of_getElem? (i := 5) rfl)) (by decide) (by decide)) (g := (mkF m 82 #[.val (.int p0), .val (.int p1), .val (.int p2), .val (.int m3), .val (.int b4), .val (.int ((p2 &&& (2147483647 : Int32)) % (3 : Int32))), .unset, .unset, .unset, .unset] [(.int b4), (.int m3), (.int (5 : Int32)), (.int (5 : Int32)), (.ref b1), (.ref b1)])) rfl (by rw [hml]; rfl) (argsL := [(.int (5 : Int32)), (.int m3), (.int b4)]) (rest := [(.int (5 : Int32)), (.ref b1), (.ref b1)]) (lenOf pd_0 rfl) rfl (by show 2 * 0 + _ ≤ _; exact Nat.le_of_eq rfl) (hb hby at_82) (fun _ _ => ⟨rfl, e25, (by decide : 1 + 0 ≤ _), (by decide : 18 + 0 ≤ _)⟩)
  dsimp only [Pt.U, Pt.locs, Pt.cells, Pt.slots] at X28 l28 y28 z28 st28 hQ28
  rw [l28, y28, z28] at X28
  obtain ⟨N28, eh28, hR28⟩ := hQ28
  have NA28 := Fr.app N27 N28
  obtain rfl := hR28
  refine Goes.step st28 ?_
  show Goes _ _ _ _ _ _ _ (T28.setTop (mkF m 85 #[.val (.int p0), .val (.int p1), .val (.int p2), .val (.int m3), .val (.int b4), .val (.int ((p2 &&& (2147483647 : Int32)) % (3 : Int32))), .unset, .unset, .unset, .unset] [(.double (FP.i2d (((5 : Int32) * m3) + b4))), (.int (5 : Int32)), (.ref b1), (.ref b1)]))
  obtain ⟨cl29, Ar29, q29, S29, P29, H29, G29⟩ := id f26
  have hin29 : ¬ ((5 : Int32) < 0 ∨ cl29.slots.size ≤ ((5 : Int32)).toNatClampNeg) := inb_of S29 ⟨by decide, by decide⟩
  obtain ⟨T30, h30, X30, e30, W30, st30⟩ := stD X28 hx hZ eh28 Ar29 (j := (5 : Int32)) hin29 (g := (mkF m 85 #[.val (.int p0), .val (.int p1), .val (.int p2), .val (.int m3), .val (.int b4), .val (.int ((p2 &&& (2147483647 : Int32)) % (3 : Int32))), .unset, .unset, .unset, .unset] [(.double (FP.i2d (((5 : Int32) * m3) + b4))), (.int (5 : Int32)), (.ref b1), (.ref b1)])) rfl rfl (hb hby at_85)
  refine Goes.step st30 ?_
  have V30 : Arv Z h30 b1 k1 .double (18 : Int32) [(.double (FP.i2d (((0 : Int32) * m3) + b4))), (.double (FP.i2d (((1 : Int32) * m3) + b4))), (.double (FP.i2d (((2 : Int32) * m3) + b4))), (.double (FP.i2d (((3 : Int32) * m3) + b4))), (.double (FP.i2d (((4 : Int32) * m3) + b4))), (.double (FP.i2d (((5 : Int32) * m3) + b4))), (.double (0 : UInt64)), (.double (0 : UInt64)), (.double (0 : UInt64)), (.double (0 : UInt64)), (.double (0 : UInt64)), (.double (0 : UInt64)), (.double (0 : UInt64)), (.double (0 : UInt64)), (.double (0 : UInt64)), (.double (0 : UInt64)), (.double (0 : UInt64)), (.double (0 : UInt64))] (.double (0 : UInt64)) := Arv.set Ar29 q29 S29 P29 H29 G29 rfl W30 5 rfl (Nat.le_of_ble_eq_true rfl)
  have f31 := V30
  have K32 : Keep h0 h30 [] := K27.wr W30 (Or.inr sz_b1)
  have Z32 : n0 ≤ h30.size := by rw [Wr.size W30]; exact Z27
  have N32 := Fr.snoc X30 NA28 g_b1
  show Goes _ _ _ _ _ _ _ (T30.setTop (mkF m 86 #[.val (.int p0), .val (.int p1), .val (.int p2), .val (.int m3), .val (.int b4), .val (.int ((p2 &&& (2147483647 : Int32)) % (3 : Int32))), .unset, .unset, .unset, .unset] [(.ref b1)]))
  refine Goes.step (fun _ k => XS.dup X30.here hx rfl (hb hby at_86) rfl rfl k) ?_
  show Goes _ _ _ _ _ _ _ (T30.setTop (mkF m 87 #[.val (.int p0), .val (.int p1), .val (.int p2), .val (.int m3), .val (.int b4), .val (.int ((p2 &&& (2147483647 : Int32)) % (3 : Int32))), .unset, .unset, .unset, .unset] [(.ref b1), (.ref b1)]))
  refine Goes.step (fun _ k => XS.bipush X30.here hx rfl (hb hby at_87) k) ?_
  show Goes _ _ _ _ _ _ _ (T30.setTop (mkF m 89 #[.val (.int p0), .val (.int p1), .val (.int p2), .val (.int m3), .val (.int b4), .val (.int ((p2 &&& (2147483647 : Int32)) % (3 : Int32))), .unset, .unset, .unset, .unset] [(.int (6 : Int32)), (.ref b1), (.ref b1)]))
  refine Goes.step (fun _ k => XS.bipush X30.here hx rfl (hb hby at_89) k) ?_
  show Goes _ _ _ _ _ _ _ (T30.setTop (mkF m 91 #[.val (.int p0), .val (.int p1), .val (.int p2), .val (.int m3), .val (.int b4), .val (.int ((p2 &&& (2147483647 : Int32)) % (3 : Int32))), .unset, .unset, .unset, .unset] [(.int (6 : Int32)), (.int (6 : Int32)), (.ref b1), (.ref b1)]))
  refine Goes.step (fun _ k => XS.iloadN X30.here hx rfl (hb hby at_91) rfl  k) ?_
  show Goes _ _ _ _ _ _ _ (T30.setTop (mkF m 92 #[.val (.int p0), .val (.int p1), .val (.int p2), .val (.int m3), .val (.int b4), .val (.int ((p2 &&& (2147483647 : Int32)) % (3 : Int32))), .unset, .unset, .unset, .unset] [(.int m3), (.int (6 : Int32)), (.int (6 : Int32)), (.ref b1), (.ref b1)]))
  refine Goes.step (fun _ k => XS.iload X30.here hx rfl (hb hby at_92) rfl  k) ?_
  show Goes _ _ _ _ _ _ _ (T30.setTop (mkF m 94 #[.val (.int p0), .val (.int p1), .val (.int p2), .val (.int m3), .val (.int b4), .val (.int ((p2 &&& (2147483647 : Int32)) % (3 : Int32))), .unset, .unset, .unset, .unset] [(.int b4), (.int m3), (.int (6 : Int32)), (.int (6 : Int32)), (.ref b1), (.ref b1)]))
  obtain ⟨_, _, ⟨T33, L33, k33, n33⟩, -, X33, ⟨Lc33, hQ33, l33, y33, z33⟩, st33⟩ := Jvm.LawKit.callS X30 hx (y := (⟨"com/example/orbitloom/orbitloom/orbits/TrackSamplePinLaw", "v", "(III)D"⟩ : MethodName)) hown (mvT hZ (hw _ (List.mem_of_getElem? (i := 3) rfl))) (mvT hZ (hw _ (List.mem_of_getElem? (i := 4) rfl))) (mvT hZ (hw _ (List.mem_of_getElem? (i := 5) rfl))) (mvT hZ (hw _ (List.mem_of_getElem? (i := 6) rfl))) (by decide) (backOf (W := 3) (rm1 l Z a0 hw [] (6 : Int32) m3 b4 h30 n0 Z32 ) hZ (hw _ (List.mem_of_getElem? (i := 6) rfl)) (hw _ (List.mem_of_getElem? (i := 5) rfl)) (by decide) (by decide)) (g := (mkF m 94 #[.val (.int p0), .val (.int p1), .val (.int p2), .val (.int m3), .val (.int b4), .val (.int ((p2 &&& (2147483647 : Int32)) % (3 : Int32))), .unset, .unset, .unset, .unset] [(.int b4), (.int m3), (.int (6 : Int32)), (.int (6 : Int32)), (.ref b1), (.ref b1)])) rfl (by rw [hml]; rfl) (argsL := [(.int (6 : Int32)), (.int m3), (.int b4)]) (rest := [(.int (6 : Int32)), (.ref b1), (.ref b1)]) (lenOf pd_0 rfl) rfl (by show 2 * 0 + _ ≤ _; exact Nat.le_of_eq rfl) (hb hby at_94) (fun _ _ => ⟨rfl, e30, (by decide : 1 + 0 ≤ _), (by decide : 18 + 0 ≤ _)⟩)
  dsimp only [Pt.U, Pt.locs, Pt.cells, Pt.slots] at X33 l33 y33 z33 st33 hQ33
  rw [l33, y33, z33] at X33
  obtain ⟨N33, eh33, hR33⟩ := hQ33
  have NA33 := Fr.app N32 N33
  obtain rfl := hR33
  refine Goes.step st33 ?_
  show Goes _ _ _ _ _ _ _ (T33.setTop (mkF m 97 #[.val (.int p0), .val (.int p1), .val (.int p2), .val (.int m3), .val (.int b4), .val (.int ((p2 &&& (2147483647 : Int32)) % (3 : Int32))), .unset, .unset, .unset, .unset] [(.double (FP.i2d (((6 : Int32) * m3) + b4))), (.int (6 : Int32)), (.ref b1), (.ref b1)]))
  obtain ⟨cl34, Ar34, q34, S34, P34, H34, G34⟩ := id f31
  have hin34 : ¬ ((6 : Int32) < 0 ∨ cl34.slots.size ≤ ((6 : Int32)).toNatClampNeg) := inb_of S34 ⟨by decide, by decide⟩
  obtain ⟨T35, h35, X35, e35, W35, st35⟩ := stD X33 hx hZ eh33 Ar34 (j := (6 : Int32)) hin34 (g := (mkF m 97 #[.val (.int p0), .val (.int p1), .val (.int p2), .val (.int m3), .val (.int b4), .val (.int ((p2 &&& (2147483647 : Int32)) % (3 : Int32))), .unset, .unset, .unset, .unset] [(.double (FP.i2d (((6 : Int32) * m3) + b4))), (.int (6 : Int32)), (.ref b1), (.ref b1)])) rfl rfl (hb hby at_97)
  refine Goes.step st35 ?_
  have V35 : Arv Z h35 b1 k1 .double (18 : Int32) [(.double (FP.i2d (((0 : Int32) * m3) + b4))), (.double (FP.i2d (((1 : Int32) * m3) + b4))), (.double (FP.i2d (((2 : Int32) * m3) + b4))), (.double (FP.i2d (((3 : Int32) * m3) + b4))), (.double (FP.i2d (((4 : Int32) * m3) + b4))), (.double (FP.i2d (((5 : Int32) * m3) + b4))), (.double (FP.i2d (((6 : Int32) * m3) + b4))), (.double (0 : UInt64)), (.double (0 : UInt64)), (.double (0 : UInt64)), (.double (0 : UInt64)), (.double (0 : UInt64)), (.double (0 : UInt64)), (.double (0 : UInt64)), (.double (0 : UInt64)), (.double (0 : UInt64)), (.double (0 : UInt64)), (.double (0 : UInt64))] (.double (0 : UInt64)) := Arv.set Ar34 q34 S34 P34 H34 G34 rfl W35 6 rfl (Nat.le_of_ble_eq_true rfl)
  have f36 := V35
  have K37 : Keep h0 h35 [] := K32.wr W35 (Or.inr sz_b1)
  have Z37 : n0 ≤ h35.size := by rw [Wr.size W35]; exact Z32
  have N37 := Fr.snoc X35 NA33 g_b1
  show Goes _ _ _ _ _ _ _ (T35.setTop (mkF m 98 #[.val (.int p0), .val (.int p1), .val (.int p2), .val (.int m3), .val (.int b4), .val (.int ((p2 &&& (2147483647 : Int32)) % (3 : Int32))), .unset, .unset, .unset, .unset] [(.ref b1)]))
  refine Goes.step (fun _ k => XS.dup X35.here hx rfl (hb hby at_98) rfl rfl k) ?_
  show Goes _ _ _ _ _ _ _ (T35.setTop (mkF m 99 #[.val (.int p0), .val (.int p1), .val (.int p2), .val (.int m3), .val (.int b4), .val (.int ((p2 &&& (2147483647 : Int32)) % (3 : Int32))), .unset, .unset, .unset, .unset] [(.ref b1), (.ref b1)]))
  refine Goes.step (fun _ k => XS.bipush X35.here hx rfl (hb hby at_99) k) ?_
  show Goes _ _ _ _ _ _ _ (T35.setTop (mkF m 101 #[.val (.int p0), .val (.int p1), .val (.int p2), .val (.int m3), .val (.int b4), .val (.int ((p2 &&& (2147483647 : Int32)) % (3 : Int32))), .unset, .unset, .unset, .unset] [(.int (7 : Int32)), (.ref b1), (.ref b1)]))
  refine Goes.step (fun _ k => XS.bipush X35.here hx rfl (hb hby at_101) k) ?_
  show Goes _ _ _ _ _ _ _ (T35.setTop (mkF m 103 #[.val (.int p0), .val (.int p1), .val (.int p2), .val (.int m3), .val (.int b4), .val (.int ((p2 &&& (2147483647 : Int32)) % (3 : Int32))), .unset, .unset, .unset, .unset] [(.int (7 : Int32)), (.int (7 : Int32)), (.ref b1), (.ref b1)]))
  refine Goes.step (fun _ k => XS.iloadN X35.here hx rfl (hb hby at_103) rfl  k) ?_
  show Goes _ _ _ _ _ _ _ (T35.setTop (mkF m 104 #[.val (.int p0), .val (.int p1), .val (.int p2), .val (.int m3), .val (.int b4), .val (.int ((p2 &&& (2147483647 : Int32)) % (3 : Int32))), .unset, .unset, .unset, .unset] [(.int m3), (.int (7 : Int32)), (.int (7 : Int32)), (.ref b1), (.ref b1)]))
  refine Goes.step (fun _ k => XS.iload X35.here hx rfl (hb hby at_104) rfl  k) ?_
  show Goes _ _ _ _ _ _ _ (T35.setTop (mkF m 106 #[.val (.int p0), .val (.int p1), .val (.int p2), .val (.int m3), .val (.int b4), .val (.int ((p2 &&& (2147483647 : Int32)) % (3 : Int32))), .unset, .unset, .unset, .unset] [(.int b4), (.int m3), (.int (7 : Int32)), (.int (7 : Int32)), (.ref b1), (.ref b1)]))
  obtain ⟨_, _, ⟨T38, L38, k38, n38⟩, -, X38, ⟨Lc38, hQ38, l38, y38, z38⟩, st38⟩ := Jvm.LawKit.callS X35 hx (y := (⟨"com/example/orbitloom/orbitloom/orbits/TrackSamplePinLaw", "v", "(III)D"⟩ : MethodName)) hown (mvT hZ (hw _ (List.mem_of_getElem? (i := 3) rfl))) (mvT hZ (hw _ (List.mem_of_getElem? (i := 4) rfl))) (mvT hZ (hw _ (List.mem_of_getElem? (i := 5) rfl))) (mvT hZ (hw _ (List.mem_of_getElem? (i := 6) rfl))) (by decide) (backOf (W := 3) (rm1 l Z a0 hw [] (7 : Int32) m3 b4 h35 n0 Z37 ) hZ (hw _ (List.mem_of_getElem? (i := 6) rfl)) (hw _ (List.mem_of_getElem? (i := 5) rfl)) (by decide) (by decide)) (g := (mkF m 106 #[.val (.int p0), .val (.int p1), .val (.int p2), .val (.int m3), .val (.int b4), .val (.int ((p2 &&& (2147483647 : Int32)) % (3 : Int32))), .unset, .unset, .unset, .unset] [(.int b4), (.int m3), (.int (7 : Int32)), (.int (7 : Int32)), (.ref b1), (.ref b1)])) rfl (by rw [hml]; rfl) (argsL := [(.int (7 : Int32)), (.int m3), (.int b4)]) (rest := [(.int (7 : Int32)), (.ref b1), (.ref b1)]) (lenOf pd_0 rfl) rfl (by show 2 * 0 + _ ≤ _; exact Nat.le_of_eq rfl) (hb hby at_106) (fun _ _ => ⟨rfl, e35, (by decide : 1 + 0 ≤ _), (by decide : 18 + 0 ≤ _)⟩)
  dsimp only [Pt.U, Pt.locs, Pt.cells, Pt.slots] at X38 l38 y38 z38 st38 hQ38
  rw [l38, y38, z38] at X38
  obtain ⟨N38, eh38, hR38⟩ := hQ38
  have NA38 := Fr.app N37 N38
  obtain rfl := hR38
  refine Goes.step st38 ?_
  show Goes _ _ _ _ _ _ _ (T38.setTop (mkF m 109 #[.val (.int p0), .val (.int p1), .val (.int p2), .val (.int m3), .val (.int b4), .val (.int ((p2 &&& (2147483647 : Int32)) % (3 : Int32))), .unset, .unset, .unset, .unset] [(.double (FP.i2d (((7 : Int32) * m3) + b4))), (.int (7 : Int32)), (.ref b1), (.ref b1)]))
  obtain ⟨cl39, Ar39, q39, S39, P39, H39, G39⟩ := id f36
  have hin39 : ¬ ((7 : Int32) < 0 ∨ cl39.slots.size ≤ ((7 : Int32)).toNatClampNeg) := inb_of S39 ⟨by decide, by decide⟩
  obtain ⟨T40, h40, X40, e40, W40, st40⟩ := stD X38 hx hZ eh38 Ar39 (j := (7 : Int32)) hin39 (g := (mkF m 109 #[.val (.int p0), .val (.int p1), .val (.int p2), .val (.int m3), .val (.int b4), .val (.int ((p2 &&& (2147483647 : Int32)) % (3 : Int32))), .unset, .unset, .unset, .unset] [(.double (FP.i2d (((7 : Int32) * m3) + b4))), (.int (7 : Int32)), (.ref b1), (.ref b1)])) rfl rfl (hb hby at_109)
  refine Goes.step st40 ?_
  have V40 : Arv Z h40 b1 k1 .double (18 : Int32) [(.double (FP.i2d (((0 : Int32) * m3) + b4))), (.double (FP.i2d (((1 : Int32) * m3) + b4))), (.double (FP.i2d (((2 : Int32) * m3) + b4))), (.double (FP.i2d (((3 : Int32) * m3) + b4))), (.double (FP.i2d (((4 : Int32) * m3) + b4))), (.double (FP.i2d (((5 : Int32) * m3) + b4))), (.double (FP.i2d (((6 : Int32) * m3) + b4))), (.double (FP.i2d (((7 : Int32) * m3) + b4))), (.double (0 : UInt64)), (.double (0 : UInt64)), (.double (0 : UInt64)), (.double (0 : UInt64)), (.double (0 : UInt64)), (.double (0 : UInt64)), (.double (0 : UInt64)), (.double (0 : UInt64)), (.double (0 : UInt64)), (.double (0 : UInt64))] (.double (0 : UInt64)) := Arv.set Ar39 q39 S39 P39 H39 G39 rfl W40 7 rfl (Nat.le_of_ble_eq_true rfl)
  have f41 := V40
  have K42 : Keep h0 h40 [] := K37.wr W40 (Or.inr sz_b1)
  have Z42 : n0 ≤ h40.size := by rw [Wr.size W40]; exact Z37
  have N42 := Fr.snoc X40 NA38 g_b1
  show Goes _ _ _ _ _ _ _ (T40.setTop (mkF m 110 #[.val (.int p0), .val (.int p1), .val (.int p2), .val (.int m3), .val (.int b4), .val (.int ((p2 &&& (2147483647 : Int32)) % (3 : Int32))), .unset, .unset, .unset, .unset] [(.ref b1)]))
  refine Goes.step (fun _ k => XS.dup X40.here hx rfl (hb hby at_110) rfl rfl k) ?_
  show Goes _ _ _ _ _ _ _ (T40.setTop (mkF m 111 #[.val (.int p0), .val (.int p1), .val (.int p2), .val (.int m3), .val (.int b4), .val (.int ((p2 &&& (2147483647 : Int32)) % (3 : Int32))), .unset, .unset, .unset, .unset] [(.ref b1), (.ref b1)]))
  refine Goes.step (fun _ k => XS.bipush X40.here hx rfl (hb hby at_111) k) ?_
  show Goes _ _ _ _ _ _ _ (T40.setTop (mkF m 113 #[.val (.int p0), .val (.int p1), .val (.int p2), .val (.int m3), .val (.int b4), .val (.int ((p2 &&& (2147483647 : Int32)) % (3 : Int32))), .unset, .unset, .unset, .unset] [(.int (8 : Int32)), (.ref b1), (.ref b1)]))
  refine Goes.step (fun _ k => XS.bipush X40.here hx rfl (hb hby at_113) k) ?_
  show Goes _ _ _ _ _ _ _ (T40.setTop (mkF m 115 #[.val (.int p0), .val (.int p1), .val (.int p2), .val (.int m3), .val (.int b4), .val (.int ((p2 &&& (2147483647 : Int32)) % (3 : Int32))), .unset, .unset, .unset, .unset] [(.int (8 : Int32)), (.int (8 : Int32)), (.ref b1), (.ref b1)]))
  refine Goes.step (fun _ k => XS.iloadN X40.here hx rfl (hb hby at_115) rfl  k) ?_
  show Goes _ _ _ _ _ _ _ (T40.setTop (mkF m 116 #[.val (.int p0), .val (.int p1), .val (.int p2), .val (.int m3), .val (.int b4), .val (.int ((p2 &&& (2147483647 : Int32)) % (3 : Int32))), .unset, .unset, .unset, .unset] [(.int m3), (.int (8 : Int32)), (.int (8 : Int32)), (.ref b1), (.ref b1)]))
  refine Goes.step (fun _ k => XS.iload X40.here hx rfl (hb hby at_116) rfl  k) ?_
  show Goes _ _ _ _ _ _ _ (T40.setTop (mkF m 118 #[.val (.int p0), .val (.int p1), .val (.int p2), .val (.int m3), .val (.int b4), .val (.int ((p2 &&& (2147483647 : Int32)) % (3 : Int32))), .unset, .unset, .unset, .unset] [(.int b4), (.int m3), (.int (8 : Int32)), (.int (8 : Int32)), (.ref b1), (.ref b1)]))
  obtain ⟨_, _, ⟨T43, L43, k43, n43⟩, -, X43, ⟨Lc43, hQ43, l43, y43, z43⟩, st43⟩ := Jvm.LawKit.callS X40 hx (y := (⟨"com/example/orbitloom/orbitloom/orbits/TrackSamplePinLaw", "v", "(III)D"⟩ : MethodName)) hown (mvT hZ (hw _ (List.mem_of_getElem? (i := 3) rfl))) (mvT hZ (hw _ (List.mem_of_getElem? (i := 4) rfl))) (mvT hZ (hw _ (List.mem_of_getElem? (i := 5) rfl))) (mvT hZ (hw _ (List.mem_of_getElem? (i := 6) rfl))) (by decide) (backOf (W := 3) (rm1 l Z a0 hw [] (8 : Int32) m3 b4 h40 n0 Z42 ) hZ (hw _ (List.mem_of_getElem? (i := 6) rfl)) (hw _ (List.mem_of_getElem? (i := 5) rfl)) (by decide) (by decide)) (g := (mkF m 118 #[.val (.int p0), .val (.int p1), .val (.int p2), .val (.int m3), .val (.int b4), .val (.int ((p2 &&& (2147483647 : Int32)) % (3 : Int32))), .unset, .unset, .unset, .unset] [(.int b4), (.int m3), (.int (8 : Int32)), (.int (8 : Int32)), (.ref b1), (.ref b1)])) rfl (by rw [hml]; rfl) (argsL := [(.int (8 : Int32)), (.int m3), (.int b4)]) (rest := [(.int (8 : Int32)), (.ref b1), (.ref b1)]) (lenOf pd_0 rfl) rfl (by show 2 * 0 + _ ≤ _; exact Nat.le_of_eq rfl) (hb hby at_118) (fun _ _ => ⟨rfl, e40, (by decide : 1 + 0 ≤ _), (by decide : 18 + 0 ≤ _)⟩)
  dsimp only [Pt.U, Pt.locs, Pt.cells, Pt.slots] at X43 l43 y43 z43 st43 hQ43
  rw [l43, y43, z43] at X43
  obtain ⟨N43, eh43, hR43⟩ := hQ43
  have NA43 := Fr.app N42 N43
  obtain rfl := hR43
  refine Goes.step st43 ?_
  show Goes _ _ _ _ _ _ _ (T43.setTop (mkF m 121 #[.val (.int p0), .val (.int p1), .val (.int p2), .val (.int m3), .val (.int b4), .val (.int ((p2 &&& (2147483647 : Int32)) % (3 : Int32))), .unset, .unset, .unset, .unset] [(.double (FP.i2d (((8 : Int32) * m3) + b4))), (.int (8 : Int32)), (.ref b1), (.ref b1)]))
  obtain ⟨cl44, Ar44, q44, S44, P44, H44, G44⟩ := id f41
  have hin44 : ¬ ((8 : Int32) < 0 ∨ cl44.slots.size ≤ ((8 : Int32)).toNatClampNeg) := inb_of S44 ⟨by decide, by decide⟩
  obtain ⟨T45, h45, X45, e45, W45, st45⟩ := stD X43 hx hZ eh43 Ar44 (j := (8 : Int32)) hin44 (g := (mkF m 121 #[.val (.int p0), .val (.int p1), .val (.int p2), .val (.int m3), .val (.int b4), .val (.int ((p2 &&& (2147483647 : Int32)) % (3 : Int32))), .unset, .unset, .unset, .unset] [(.double (FP.i2d (((8 : Int32) * m3) + b4))), (.int (8 : Int32)), (.ref b1), (.ref b1)])) rfl rfl (hb hby at_121)
  refine Goes.step st45 ?_
  have V45 : Arv Z h45 b1 k1 .double (18 : Int32) [(.double (FP.i2d (((0 : Int32) * m3) + b4))), (.double (FP.i2d (((1 : Int32) * m3) + b4))), (.double (FP.i2d (((2 : Int32) * m3) + b4))), (.double (FP.i2d (((3 : Int32) * m3) + b4))), (.double (FP.i2d (((4 : Int32) * m3) + b4))), (.double (FP.i2d (((5 : Int32) * m3) + b4))), (.double (FP.i2d (((6 : Int32) * m3) + b4))), (.double (FP.i2d (((7 : Int32) * m3) + b4))), (.double (FP.i2d (((8 : Int32) * m3) + b4))), (.double (0 : UInt64)), (.double (0 : UInt64)), (.double (0 : UInt64)), (.double (0 : UInt64)), (.double (0 : UInt64)), (.double (0 : UInt64)), (.double (0 : UInt64)), (.double (0 : UInt64)), (.double (0 : UInt64))] (.double (0 : UInt64)) := Arv.set Ar44 q44 S44 P44 H44 G44 rfl W45 8 rfl (Nat.le_of_ble_eq_true rfl)
  have f46 := V45
  have K47 : Keep h0 h45 [] := K42.wr W45 (Or.inr sz_b1)
  have Z47 : n0 ≤ h45.size := by rw [Wr.size W45]; exact Z42
  have N47 := Fr.snoc X45 NA43 g_b1
  show Goes _ _ _ _ _ _ _ (T45.setTop (mkF m 122 #[.val (.int p0), .val (.int p1), .val (.int p2), .val (.int m3), .val (.int b4), .val (.int ((p2 &&& (2147483647 : Int32)) % (3 : Int32))), .unset, .unset, .unset, .unset] [(.ref b1)]))
  refine Goes.step (fun _ k => XS.dup X45.here hx rfl (hb hby at_122) rfl rfl k) ?_
  show Goes _ _ _ _ _ _ _ (T45.setTop (mkF m 123 #[.val (.int p0), .val (.int p1), .val (.int p2), .val (.int m3), .val (.int b4), .val (.int ((p2 &&& (2147483647 : Int32)) % (3 : Int32))), .unset, .unset, .unset, .unset] [(.ref b1), (.ref b1)]))
  refine Goes.step (fun _ k => XS.bipush X45.here hx rfl (hb hby at_123) k) ?_
  show Goes _ _ _ _ _ _ _ (T45.setTop (mkF m 125 #[.val (.int p0), .val (.int p1), .val (.int p2), .val (.int m3), .val (.int b4), .val (.int ((p2 &&& (2147483647 : Int32)) % (3 : Int32))), .unset, .unset, .unset, .unset] [(.int (9 : Int32)), (.ref b1), (.ref b1)]))
  refine Goes.step (fun _ k => XS.bipush X45.here hx rfl (hb hby at_125) k) ?_
  show Goes _ _ _ _ _ _ _ (T45.setTop (mkF m 127 #[.val (.int p0), .val (.int p1), .val (.int p2), .val (.int m3), .val (.int b4), .val (.int ((p2 &&& (2147483647 : Int32)) % (3 : Int32))), .unset, .unset, .unset, .unset] [(.int (9 : Int32)), (.int (9 : Int32)), (.ref b1), (.ref b1)]))
  refine Goes.step (fun _ k => XS.iloadN X45.here hx rfl (hb hby at_127) rfl  k) ?_
  show Goes _ _ _ _ _ _ _ (T45.setTop (mkF m 128 #[.val (.int p0), .val (.int p1), .val (.int p2), .val (.int m3), .val (.int b4), .val (.int ((p2 &&& (2147483647 : Int32)) % (3 : Int32))), .unset, .unset, .unset, .unset] [(.int m3), (.int (9 : Int32)), (.int (9 : Int32)), (.ref b1), (.ref b1)]))
  refine Goes.step (fun _ k => XS.iload X45.here hx rfl (hb hby at_128) rfl  k) ?_
  show Goes _ _ _ _ _ _ _ (T45.setTop (mkF m 130 #[.val (.int p0), .val (.int p1), .val (.int p2), .val (.int m3), .val (.int b4), .val (.int ((p2 &&& (2147483647 : Int32)) % (3 : Int32))), .unset, .unset, .unset, .unset] [(.int b4), (.int m3), (.int (9 : Int32)), (.int (9 : Int32)), (.ref b1), (.ref b1)]))
  obtain ⟨_, _, ⟨T48, L48, k48, n48⟩, -, X48, ⟨Lc48, hQ48, l48, y48, z48⟩, st48⟩ := Jvm.LawKit.callS X45 hx (y := (⟨"com/example/orbitloom/orbitloom/orbits/TrackSamplePinLaw", "v", "(III)D"⟩ : MethodName)) hown (mvT hZ (hw _ (List.mem_of_getElem? (i := 3) rfl))) (mvT hZ (hw _ (List.mem_of_getElem? (i := 4) rfl))) (mvT hZ (hw _ (List.mem_of_getElem? (i := 5) rfl))) (mvT hZ (hw _ (List.mem_of_getElem? (i := 6) rfl))) (by decide) (backOf (W := 3) (rm1 l Z a0 hw [] (9 : Int32) m3 b4 h45 n0 Z47 ) hZ (hw _ (List.mem_of_getElem? (i := 6) rfl)) (hw _ (List.mem_of_getElem? (i := 5) rfl)) (by decide) (by decide)) (g := (mkF m 130 #[.val (.int p0), .val (.int p1), .val (.int p2), .val (.int m3), .val (.int b4), .val (.int ((p2 &&& (2147483647 : Int32)) % (3 : Int32))), .unset, .unset, .unset, .unset] [(.int b4), (.int m3), (.int (9 : Int32)), (.int (9 : Int32)), (.ref b1), (.ref b1)])) rfl (by rw [hml]; rfl) (argsL := [(.int (9 : Int32)), (.int m3), (.int b4)]) (rest := [(.int (9 : Int32)), (.ref b1), (.ref b1)]) (lenOf pd_0 rfl) rfl (by show 2 * 0 + _ ≤ _; exact Nat.le_of_eq rfl) (hb hby at_130) (fun _ _ => ⟨rfl, e45, (by decide : 1 + 0 ≤ _), (by decide : 18 + 0 ≤ _)⟩)
  dsimp only [Pt.U, Pt.locs, Pt.cells, Pt.slots] at X48 l48 y48 z48 st48 hQ48
  rw [l48, y48, z48] at X48
  obtain ⟨N48, eh48, hR48⟩ := hQ48
  have NA48 := Fr.app N47 N48
  obtain rfl := hR48
  refine Goes.step st48 ?_
  show Goes _ _ _ _ _ _ _ (T48.setTop (mkF m 133 #[.val (.int p0), .val (.int p1), .val (.int p2), .val (.int m3), .val (.int b4), .val (.int ((p2 &&& (2147483647 : Int32)) % (3 : Int32))), .unset, .unset, .unset, .unset] [(.double (FP.i2d (((9 : Int32) * m3) + b4))), (.int (9 : Int32)), (.ref b1), (.ref b1)]))
  obtain ⟨cl49, Ar49, q49, S49, P49, H49, G49⟩ := id f46
  have hin49 : ¬ ((9 : Int32) < 0 ∨ cl49.slots.size ≤ ((9 : Int32)).toNatClampNeg) := inb_of S49 ⟨by decide, by decide⟩
  obtain ⟨T50, h50, X50, e50, W50, st50⟩ := stD X48 hx hZ eh48 Ar49 (j := (9 : Int32)) hin49 (g := (mkF m 133 #[.val (.int p0), .val (.int p1), .val (.int p2), .val (.int m3), .val (.int b4), .val (.int ((p2 &&& (2147483647 : Int32)) % (3 : Int32))), .unset, .unset, .unset, .unset] [(.double (FP.i2d (((9 : Int32) * m3) + b4))), (.int (9 : Int32)), (.ref b1), (.ref b1)])) rfl rfl (hb hby at_133)
  refine Goes.step st50 ?_
  have V50 : Arv Z h50 b1 k1 .double (18 : Int32) [(.double (FP.i2d (((0 : Int32) * m3) + b4))), (.double (FP.i2d (((1 : Int32) * m3) + b4))), (.double (FP.i2d (((2 : Int32) * m3) + b4))), (.double (FP.i2d (((3 : Int32) * m3) + b4))), (.double (FP.i2d (((4 : Int32) * m3) + b4))), (.double (FP.i2d (((5 : Int32) * m3) + b4))), (.double (FP.i2d (((6 : Int32) * m3) + b4))), (.double (FP.i2d (((7 : Int32) * m3) + b4))), (.double (FP.i2d (((8 : Int32) * m3) + b4))), (.double (FP.i2d (((9 : Int32) * m3) + b4))), (.double (0 : UInt64)), (.double (0 : UInt64)), (.double (0 : UInt64)), (.double (0 : UInt64)), (.double (0 : UInt64)), (.double (0 : UInt64)), (.double (0 : UInt64)), (.double (0 : UInt64))] (.double (0 : UInt64)) := Arv.set Ar49 q49 S49 P49 H49 G49 rfl W50 9 rfl (Nat.le_of_ble_eq_true rfl)
  have f51 := V50
  have K52 : Keep h0 h50 [] := K47.wr W50 (Or.inr sz_b1)
  have Z52 : n0 ≤ h50.size := by rw [Wr.size W50]; exact Z47
  have N52 := Fr.snoc X50 NA48 g_b1
  show Goes _ _ _ _ _ _ _ (T50.setTop (mkF m 134 #[.val (.int p0), .val (.int p1), .val (.int p2), .val (.int m3), .val (.int b4), .val (.int ((p2 &&& (2147483647 : Int32)) % (3 : Int32))), .unset, .unset, .unset, .unset] [(.ref b1)]))
  refine Goes.step (fun _ k => XS.dup X50.here hx rfl (hb hby at_134) rfl rfl k) ?_
  show Goes _ _ _ _ _ _ _ (T50.setTop (mkF m 135 #[.val (.int p0), .val (.int p1), .val (.int p2), .val (.int m3), .val (.int b4), .val (.int ((p2 &&& (2147483647 : Int32)) % (3 : Int32))), .unset, .unset, .unset, .unset] [(.ref b1), (.ref b1)]))
  refine Goes.step (fun _ k => XS.bipush X50.here hx rfl (hb hby at_135) k) ?_
  show Goes _ _ _ _ _ _ _ (T50.setTop (mkF m 137 #[.val (.int p0), .val (.int p1), .val (.int p2), .val (.int m3), .val (.int b4), .val (.int ((p2 &&& (2147483647 : Int32)) % (3 : Int32))), .unset, .unset, .unset, .unset] [(.int (10 : Int32)), (.ref b1), (.ref b1)]))
  refine Goes.step (fun _ k => XS.bipush X50.here hx rfl (hb hby at_137) k) ?_
  show Goes _ _ _ _ _ _ _ (T50.setTop (mkF m 139 #[.val (.int p0), .val (.int p1), .val (.int p2), .val (.int m3), .val (.int b4), .val (.int ((p2 &&& (2147483647 : Int32)) % (3 : Int32))), .unset, .unset, .unset, .unset] [(.int (10 : Int32)), (.int (10 : Int32)), (.ref b1), (.ref b1)]))
  refine Goes.step (fun _ k => XS.iloadN X50.here hx rfl (hb hby at_139) rfl  k) ?_
  show Goes _ _ _ _ _ _ _ (T50.setTop (mkF m 140 #[.val (.int p0), .val (.int p1), .val (.int p2), .val (.int m3), .val (.int b4), .val (.int ((p2 &&& (2147483647 : Int32)) % (3 : Int32))), .unset, .unset, .unset, .unset] [(.int m3), (.int (10 : Int32)), (.int (10 : Int32)), (.ref b1), (.ref b1)]))
  refine Goes.step (fun _ k => XS.iload X50.here hx rfl (hb hby at_140) rfl  k) ?_
  show Goes _ _ _ _ _ _ _ (T50.setTop (mkF m 142 #[.val (.int p0), .val (.int p1), .val (.int p2), .val (.int m3), .val (.int b4), .val (.int ((p2 &&& (2147483647 : Int32)) % (3 : Int32))), .unset, .unset, .unset, .unset] [(.int b4), (.int m3), (.int (10 : Int32)), (.int (10 : Int32)), (.ref b1), (.ref b1)]))
  obtain ⟨_, _, ⟨T53, L53, k53, n53⟩, -, X53, ⟨Lc53, hQ53, l53, y53, z53⟩, st53⟩ := Jvm.LawKit.callS X50 hx (y := (⟨"com/example/orbitloom/orbitloom/orbits/TrackSamplePinLaw", "v", "(III)D"⟩ : MethodName)) hown (mvT hZ (hw _ (List.mem_of_getElem? (i := 3) rfl))) (mvT hZ (hw _ (List.mem_of_getElem? (i := 4) rfl))) (mvT hZ (hw _ (List.mem_of_getElem? (i := 5) rfl))) (mvT hZ (hw _ (List.mem_of_getElem? (i := 6) rfl))) (by decide) (backOf (W := 3) (rm1 l Z a0 hw [] (10 : Int32) m3 b4 h50 n0 Z52 ) hZ (hw _ (List.mem_of_getElem? (i := 6) rfl)) (hw _ (List.mem_of_getElem? (i := 5) rfl)) (by decide) (by decide)) (g := (mkF m 142 #[.val (.int p0), .val (.int p1), .val (.int p2), .val (.int m3), .val (.int b4), .val (.int ((p2 &&& (2147483647 : Int32)) % (3 : Int32))), .unset, .unset, .unset, .unset] [(.int b4), (.int m3), (.int (10 : Int32)), (.int (10 : Int32)), (.ref b1), (.ref b1)])) rfl (by rw [hml]; rfl) (argsL := [(.int (10 : Int32)), (.int m3), (.int b4)]) (rest := [(.int (10 : Int32)), (.ref b1), (.ref b1)]) (lenOf pd_0 rfl) rfl (by show 2 * 0 + _ ≤ _; exact Nat.le_of_eq rfl) (hb hby at_142) (fun _ _ => ⟨rfl, e50, (by decide : 1 + 0 ≤ _), (by decide : 18 + 0 ≤ _)⟩)
  dsimp only [Pt.U, Pt.locs, Pt.cells, Pt.slots] at X53 l53 y53 z53 st53 hQ53
  rw [l53, y53, z53] at X53
  obtain ⟨N53, eh53, hR53⟩ := hQ53
  have NA53 := Fr.app N52 N53
  obtain rfl := hR53
  refine Goes.step st53 ?_
  show Goes _ _ _ _ _ _ _ (T53.setTop (mkF m 145 #[.val (.int p0), .val (.int p1), .val (.int p2), .val (.int m3), .val (.int b4), .val (.int ((p2 &&& (2147483647 : Int32)) % (3 : Int32))), .unset, .unset, .unset, .unset] [(.double (FP.i2d (((10 : Int32) * m3) + b4))), (.int (10 : Int32)), (.ref b1), (.ref b1)]))
  obtain ⟨cl54, Ar54, q54, S54, P54, H54, G54⟩ := id f51
  have hin54 : ¬ ((10 : Int32) < 0 ∨ cl54.slots.size ≤ ((10 : Int32)).toNatClampNeg) := inb_of S54 ⟨by decide, by decide⟩
  obtain ⟨T55, h55, X55, e55, W55, st55⟩ := stD X53 hx hZ eh53 Ar54 (j := (10 : Int32)) hin54 (g := (mkF m 145 #[.val (.int p0), .val (.int p1), .val (.int p2), .val (.int m3), .val (.int b4), .val (.int ((p2 &&& (2147483647 : Int32)) % (3 : Int32))), .unset, .unset, .unset, .unset] [(.double (FP.i2d (((10 : Int32) * m3) + b4))), (.int (10 : Int32)), (.ref b1), (.ref b1)])) rfl rfl (hb hby at_145)
  refine Goes.step st55 ?_
  have V55 : Arv Z h55 b1 k1 .double (18 : Int32) [(.double (FP.i2d (((0 : Int32) * m3) + b4))), (.double (FP.i2d (((1 : Int32) * m3) + b4))), (.double (FP.i2d (((2 : Int32) * m3) + b4))), (.double (FP.i2d (((3 : Int32) * m3) + b4))), (.double (FP.i2d (((4 : Int32) * m3) + b4))), (.double (FP.i2d (((5 : Int32) * m3) + b4))), (.double (FP.i2d (((6 : Int32) * m3) + b4))), (.double (FP.i2d (((7 : Int32) * m3) + b4))), (.double (FP.i2d (((8 : Int32) * m3) + b4))), (.double (FP.i2d (((9 : Int32) * m3) + b4))), (.double (FP.i2d (((10 : Int32) * m3) + b4))), (.double (0 : UInt64)), (.double (0 : UInt64)), (.double (0 : UInt64)), (.double (0 : UInt64)), (.double (0 : UInt64)), (.double (0 : UInt64)), (.double (0 : UInt64))] (.double (0 : UInt64)) := Arv.set Ar54 q54 S54 P54 H54 G54 rfl W55 10 rfl (Nat.le_of_ble_eq_true rfl)
  have f56 := V55
  have K57 : Keep h0 h55 [] := K52.wr W55 (Or.inr sz_b1)
  have Z57 : n0 ≤ h55.size := by rw [Wr.size W55]; exact Z52
  have N57 := Fr.snoc X55 NA53 g_b1
  show Goes _ _ _ _ _ _ _ (T55.setTop (mkF m 146 #[.val (.int p0), .val (.int p1), .val (.int p2), .val (.int m3), .val (.int b4), .val (.int ((p2 &&& (2147483647 : Int32)) % (3 : Int32))), .unset, .unset, .unset, .unset] [(.ref b1)]))
  refine Goes.step (fun _ k => XS.dup X55.here hx rfl (hb hby at_146) rfl rfl k) ?_
  show Goes _ _ _ _ _ _ _ (T55.setTop (mkF m 147 #[.val (.int p0), .val (.int p1), .val (.int p2), .val (.int m3), .val (.int b4), .val (.int ((p2 &&& (2147483647 : Int32)) % (3 : Int32))), .unset, .unset, .unset, .unset] [(.ref b1), (.ref b1)]))
  refine Goes.step (fun _ k => XS.bipush X55.here hx rfl (hb hby at_147) k) ?_
  show Goes _ _ _ _ _ _ _ (T55.setTop (mkF m 149 #[.val (.int p0), .val (.int p1), .val (.int p2), .val (.int m3), .val (.int b4), .val (.int ((p2 &&& (2147483647 : Int32)) % (3 : Int32))), .unset, .unset, .unset, .unset] [(.int (11 : Int32)), (.ref b1), (.ref b1)]))
  refine Goes.step (fun _ k => XS.bipush X55.here hx rfl (hb hby at_149) k) ?_
  show Goes _ _ _ _ _ _ _ (T55.setTop (mkF m 151 #[.val (.int p0), .val (.int p1), .val (.int p2), .val (.int m3), .val (.int b4), .val (.int ((p2 &&& (2147483647 : Int32)) % (3 : Int32))), .unset, .unset, .unset, .unset] [(.int (11 : Int32)), (.int (11 : Int32)), (.ref b1), (.ref b1)]))
  refine Goes.step (fun _ k => XS.iloadN X55.here hx rfl (hb hby at_151) rfl  k) ?_
  show Goes _ _ _ _ _ _ _ (T55.setTop (mkF m 152 #[.val (.int p0), .val (.int p1), .val (.int p2), .val (.int m3), .val (.int b4), .val (.int ((p2 &&& (2147483647 : Int32)) % (3 : Int32))), .unset, .unset, .unset, .unset] [(.int m3), (.int (11 : Int32)), (.int (11 : Int32)), (.ref b1), (.ref b1)]))
  refine Goes.step (fun _ k => XS.iload X55.here hx rfl (hb hby at_152) rfl  k) ?_
  show Goes _ _ _ _ _ _ _ (T55.setTop (mkF m 154 #[.val (.int p0), .val (.int p1), .val (.int p2), .val (.int m3), .val (.int b4), .val (.int ((p2 &&& (2147483647 : Int32)) % (3 : Int32))), .unset, .unset, .unset, .unset] [(.int b4), (.int m3), (.int (11 : Int32)), (.int (11 : Int32)), (.ref b1), (.ref b1)]))
  obtain ⟨_, _, ⟨T58, L58, k58, n58⟩, -, X58, ⟨Lc58, hQ58, l58, y58, z58⟩, st58⟩ := Jvm.LawKit.callS X55 hx (y := (⟨"com/example/orbitloom/orbitloom/orbits/TrackSamplePinLaw", "v", "(III)D"⟩ : MethodName)) hown (mvT hZ (hw _ (List.mem_of_getElem? (i := 3) rfl))) (mvT hZ (hw _ (List.mem_of_getElem? (i := 4) rfl))) (mvT hZ (hw _ (List.mem_of_getElem? (i := 5) rfl))) (mvT hZ (hw _ (List.mem_of_getElem? (i := 6) rfl))) (by decide) (backOf (W := 3) (rm1 l Z a0 hw [] (11 : Int32) m3 b4 h55 n0 Z57 ) hZ (hw _ (List.mem_of_getElem? (i := 6) rfl)) (hw _ (List.mem_of_getElem? (i := 5) rfl)) (by decide) (by decide)) (g := (mkF m 154 #[.val (.int p0), .val (.int p1), .val (.int p2), .val (.int m3), .val (.int b4), .val (.int ((p2 &&& (2147483647 : Int32)) % (3 : Int32))), .unset, .unset, .unset, .unset] [(.int b4), (.int m3), (.int (11 : Int32)), (.int (11 : Int32)), (.ref b1), (.ref b1)])) rfl (by rw [hml]; rfl) (argsL := [(.int (11 : Int32)), (.int m3), (.int b4)]) (rest := [(.int (11 : Int32)), (.ref b1), (.ref b1)]) (lenOf pd_0 rfl) rfl (by show 2 * 0 + _ ≤ _; exact Nat.le_of_eq rfl) (hb hby at_154) (fun _ _ => ⟨rfl, e55, (by decide : 1 + 0 ≤ _), (by decide : 18 + 0 ≤ _)⟩)
  dsimp only [Pt.U, Pt.locs, Pt.cells, Pt.slots] at X58 l58 y58 z58 st58 hQ58
  rw [l58, y58, z58] at X58
  obtain ⟨N58, eh58, hR58⟩ := hQ58
  have NA58 := Fr.app N57 N58
  obtain rfl := hR58
  refine Goes.step st58 ?_
  show Goes _ _ _ _ _ _ _ (T58.setTop (mkF m 157 #[.val (.int p0), .val (.int p1), .val (.int p2), .val (.int m3), .val (.int b4), .val (.int ((p2 &&& (2147483647 : Int32)) % (3 : Int32))), .unset, .unset, .unset, .unset] [(.double (FP.i2d (((11 : Int32) * m3) + b4))), (.int (11 : Int32)), (.ref b1), (.ref b1)]))
  obtain ⟨cl59, Ar59, q59, S59, P59, H59, G59⟩ := id f56
  have hin59 : ¬ ((11 : Int32) < 0 ∨ cl59.slots.size ≤ ((11 : Int32)).toNatClampNeg) := inb_of S59 ⟨by decide, by decide⟩
  obtain ⟨T60, h60, X60, e60, W60, st60⟩ := stD X58 hx hZ eh58 Ar59 (j := (11 : Int32)) hin59 (g := (mkF m 157 #[.val (.int p0), .val (.int p1), .val (.int p2), .val (.int m3), .val (.int b4), .val (.int ((p2 &&& (2147483647 : Int32)) % (3 : Int32))), .unset, .unset, .unset, .unset] [(.double (FP.i2d (((11 : Int32) * m3) + b4))), (.int (11 : Int32)), (.ref b1), (.ref b1)])) rfl rfl (hb hby at_157)
  refine Goes.step st60 ?_
  have V60 : Arv Z h60 b1 k1 .double (18 : Int32) [(.double (FP.i2d (((0 : Int32) * m3) + b4))), (.double (FP.i2d (((1 : Int32) * m3) + b4))), (.double (FP.i2d (((2 : Int32) * m3) + b4))), (.double (FP.i2d (((3 : Int32) * m3) + b4))), (.double (FP.i2d (((4 : Int32) * m3) + b4))), (.double (FP.i2d (((5 : Int32) * m3) + b4))), (.double (FP.i2d (((6 : Int32) * m3) + b4))), (.double (FP.i2d (((7 : Int32) * m3) + b4))), (.double (FP.i2d (((8 : Int32) * m3) + b4))), (.double (FP.i2d (((9 : Int32) * m3) + b4))), (.double (FP.i2d (((10 : Int32) * m3) + b4))), (.double (FP.i2d (((11 : Int32) * m3) + b4))), (.double (0 : UInt64)), (.double (0 : UInt64)), (.double (0 : UInt64)), (.double (0 : UInt64)), (.double (0 : UInt64)), (.double (0 : UInt64))] (.double (0 : UInt64)) := Arv.set Ar59 q59 S59 P59 H59 G59 rfl W60 11 rfl (Nat.le_of_ble_eq_true rfl)
  have f61 := V60
  have K62 : Keep h0 h60 [] := K57.wr W60 (Or.inr sz_b1)
  have Z62 : n0 ≤ h60.size := by rw [Wr.size W60]; exact Z57
  have N62 := Fr.snoc X60 NA58 g_b1
  show Goes _ _ _ _ _ _ _ (T60.setTop (mkF m 158 #[.val (.int p0), .val (.int p1), .val (.int p2), .val (.int m3), .val (.int b4), .val (.int ((p2 &&& (2147483647 : Int32)) % (3 : Int32))), .unset, .unset, .unset, .unset] [(.ref b1)]))
  refine Goes.step (fun _ k => XS.dup X60.here hx rfl (hb hby at_158) rfl rfl k) ?_
  show Goes _ _ _ _ _ _ _ (T60.setTop (mkF m 159 #[.val (.int p0), .val (.int p1), .val (.int p2), .val (.int m3), .val (.int b4), .val (.int ((p2 &&& (2147483647 : Int32)) % (3 : Int32))), .unset, .unset, .unset, .unset] [(.ref b1), (.ref b1)]))
  refine Goes.step (fun _ k => XS.bipush X60.here hx rfl (hb hby at_159) k) ?_
  show Goes _ _ _ _ _ _ _ (T60.setTop (mkF m 161 #[.val (.int p0), .val (.int p1), .val (.int p2), .val (.int m3), .val (.int b4), .val (.int ((p2 &&& (2147483647 : Int32)) % (3 : Int32))), .unset, .unset, .unset, .unset] [(.int (12 : Int32)), (.ref b1), (.ref b1)]))
  refine Goes.step (fun _ k => XS.bipush X60.here hx rfl (hb hby at_161) k) ?_
  show Goes _ _ _ _ _ _ _ (T60.setTop (mkF m 163 #[.val (.int p0), .val (.int p1), .val (.int p2), .val (.int m3), .val (.int b4), .val (.int ((p2 &&& (2147483647 : Int32)) % (3 : Int32))), .unset, .unset, .unset, .unset] [(.int (12 : Int32)), (.int (12 : Int32)), (.ref b1), (.ref b1)]))
  refine Goes.step (fun _ k => XS.iloadN X60.here hx rfl (hb hby at_163) rfl  k) ?_
  show Goes _ _ _ _ _ _ _ (T60.setTop (mkF m 164 #[.val (.int p0), .val (.int p1), .val (.int p2), .val (.int m3), .val (.int b4), .val (.int ((p2 &&& (2147483647 : Int32)) % (3 : Int32))), .unset, .unset, .unset, .unset] [(.int m3), (.int (12 : Int32)), (.int (12 : Int32)), (.ref b1), (.ref b1)]))
  refine Goes.step (fun _ k => XS.iload X60.here hx rfl (hb hby at_164) rfl  k) ?_
  show Goes _ _ _ _ _ _ _ (T60.setTop (mkF m 166 #[.val (.int p0), .val (.int p1), .val (.int p2), .val (.int m3), .val (.int b4), .val (.int ((p2 &&& (2147483647 : Int32)) % (3 : Int32))), .unset, .unset, .unset, .unset] [(.int b4), (.int m3), (.int (12 : Int32)), (.int (12 : Int32)), (.ref b1), (.ref b1)]))
  obtain ⟨_, _, ⟨T63, L63, k63, n63⟩, -, X63, ⟨Lc63, hQ63, l63, y63, z63⟩, st63⟩ := Jvm.LawKit.callS X60 hx (y := (⟨"com/example/orbitloom/orbitloom/orbits/TrackSamplePinLaw", "v", "(III)D"⟩ : MethodName)) hown (mvT hZ (hw _ (List.mem_of_getElem? (i := 3) rfl))) (mvT hZ (hw _ (List.mem_of_getElem? (i := 4) rfl))) (mvT hZ (hw _ (List.mem_of_getElem? (i := 5) rfl))) (mvT hZ (hw _ (List.mem_of_getElem? (i := 6) rfl))) (by decide) (backOf (W := 3) (rm1 l Z a0 hw [] (12 : Int32) m3 b4 h60 n0 Z62 ) hZ (hw _ (List.mem_of_getElem? (i := 6) rfl)) (hw _ (List.mem_of_getElem? (i := 5) rfl)) (by decide) (by decide)) (g := (mkF m 166 #[.val (.int p0), .val (.int p1), .val (.int p2), .val (.int m3), .val (.int b4), .val (.int ((p2 &&& (2147483647 : Int32)) % (3 : Int32))), .unset, .unset, .unset, .unset] [(.int b4), (.int m3), (.int (12 : Int32)), (.int (12 : Int32)), (.ref b1), (.ref b1)])) rfl (by rw [hml]; rfl) (argsL := [(.int (12 : Int32)), (.int m3), (.int b4)]) (rest := [(.int (12 : Int32)), (.ref b1), (.ref b1)]) (lenOf pd_0 rfl) rfl (by show 2 * 0 + _ ≤ _; exact Nat.le_of_eq rfl) (hb hby at_166) (fun _ _ => ⟨rfl, e60, (by decide : 1 + 0 ≤ _), (by decide : 18 + 0 ≤ _)⟩)
  dsimp only [Pt.U, Pt.locs, Pt.cells, Pt.slots] at X63 l63 y63 z63 st63 hQ63
  rw [l63, y63, z63] at X63
  obtain ⟨N63, eh63, hR63⟩ := hQ63
  have NA63 := Fr.app N62 N63
  obtain rfl := hR63
  refine Goes.step st63 ?_
  show Goes _ _ _ _ _ _ _ (T63.setTop (mkF m 169 #[.val (.int p0), .val (.int p1), .val (.int p2), .val (.int m3), .val (.int b4), .val (.int ((p2 &&& (2147483647 : Int32)) % (3 : Int32))), .unset, .unset, .unset, .unset] [(.double (FP.i2d (((12 : Int32) * m3) + b4))), (.int (12 : Int32)), (.ref b1), (.ref b1)]))
  obtain ⟨cl64, Ar64, q64, S64, P64, H64, G64⟩ := id f61
  have hin64 : ¬ ((12 : Int32) < 0 ∨ cl64.slots.size ≤ ((12 : Int32)).toNatClampNeg) := inb_of S64 ⟨by decide, by decide⟩
  obtain ⟨T65, h65, X65, e65, W65, st65⟩ := stD X63 hx hZ eh63 Ar64 (j := (12 : Int32)) hin64 (g := (mkF m 169 #[.val (.int p0), .val (.int p1), .val (.int p2), .val (.int m3), .val (.int b4), .val (.int ((p2 &&& (2147483647 : Int32)) % (3 : Int32))), .unset, .unset, .unset, .unset] [(.double (FP.i2d (((12 : Int32) * m3) + b4))), (.int (12 : Int32)), (.ref b1), (.ref b1)])) rfl rfl (hb hby at_169)
  refine Goes.step st65 ?_
  have V65 : Arv Z h65 b1 k1 .double (18 : Int32) [(.double (FP.i2d (((0 : Int32) * m3) + b4))), (.double (FP.i2d (((1 : Int32) * m3) + b4))), (.double (FP.i2d (((2 : Int32) * m3) + b4))), (.double (FP.i2d (((3 : Int32) * m3) + b4))), (.double (FP.i2d (((4 : Int32) * m3) + b4))), (.double (FP.i2d (((5 : Int32) * m3) + b4))), (.double (FP.i2d (((6 : Int32) * m3) + b4))), (.double (FP.i2d (((7 : Int32) * m3) + b4))), (.double (FP.i2d (((8 : Int32) * m3) + b4))), (.double (FP.i2d (((9 : Int32) * m3) + b4))), (.double (FP.i2d (((10 : Int32) * m3) + b4))), (.double (FP.i2d (((11 : Int32) * m3) + b4))), (.double (FP.i2d (((12 : Int32) * m3) + b4))), (.double (0 : UInt64)), (.double (0 : UInt64)), (.double (0 : UInt64)), (.double (0 : UInt64)), (.double (0 : UInt64))] (.double (0 : UInt64)) := Arv.set Ar64 q64 S64 P64 H64 G64 rfl W65 12 rfl (Nat.le_of_ble_eq_true rfl)
  have f66 := V65
  have K67 : Keep h0 h65 [] := K62.wr W65 (Or.inr sz_b1)
  have Z67 : n0 ≤ h65.size := by rw [Wr.size W65]; exact Z62
  have N67 := Fr.snoc X65 NA63 g_b1
  show Goes _ _ _ _ _ _ _ (T65.setTop (mkF m 170 #[.val (.int p0), .val (.int p1), .val (.int p2), .val (.int m3), .val (.int b4), .val (.int ((p2 &&& (2147483647 : Int32)) % (3 : Int32))), .unset, .unset, .unset, .unset] [(.ref b1)]))
  refine Goes.step (fun _ k => XS.dup X65.here hx rfl (hb hby at_170) rfl rfl k) ?_
  show Goes _ _ _ _ _ _ _ (T65.setTop (mkF m 171 #[.val (.int p0), .val (.int p1), .val (.int p2), .val (.int m3), .val (.int b4), .val (.int ((p2 &&& (2147483647 : Int32)) % (3 : Int32))), .unset, .unset, .unset, .unset] [(.ref b1), (.ref b1)]))
  refine Goes.step (fun _ k => XS.bipush X65.here hx rfl (hb hby at_171) k) ?_
  show Goes _ _ _ _ _ _ _ (T65.setTop (mkF m 173 #[.val (.int p0), .val (.int p1), .val (.int p2), .val (.int m3), .val (.int b4), .val (.int ((p2 &&& (2147483647 : Int32)) % (3 : Int32))), .unset, .unset, .unset, .unset] [(.int (13 : Int32)), (.ref b1), (.ref b1)]))
  refine Goes.step (fun _ k => XS.bipush X65.here hx rfl (hb hby at_173) k) ?_
  show Goes _ _ _ _ _ _ _ (T65.setTop (mkF m 175 #[.val (.int p0), .val (.int p1), .val (.int p2), .val (.int m3), .val (.int b4), .val (.int ((p2 &&& (2147483647 : Int32)) % (3 : Int32))), .unset, .unset, .unset, .unset] [(.int (13 : Int32)), (.int (13 : Int32)), (.ref b1), (.ref b1)]))
  refine Goes.step (fun _ k => XS.iloadN X65.here hx rfl (hb hby at_175) rfl  k) ?_
  show Goes _ _ _ _ _ _ _ (T65.setTop (mkF m 176 #[.val (.int p0), .val (.int p1), .val (.int p2), .val (.int m3), .val (.int b4), .val (.int ((p2 &&& (2147483647 : Int32)) % (3 : Int32))), .unset, .unset, .unset, .unset] [(.int m3), (.int (13 : Int32)), (.int (13 : Int32)), (.ref b1), (.ref b1)]))
  refine Goes.step (fun _ k => XS.iload X65.here hx rfl (hb hby at_176) rfl  k) ?_
  show Goes _ _ _ _ _ _ _ (T65.setTop (mkF m 178 #[.val (.int p0), .val (.int p1), .val (.int p2), .val (.int m3), .val (.int b4), .val (.int ((p2 &&& (2147483647 : Int32)) % (3 : Int32))), .unset, .unset, .unset, .unset] [(.int b4), (.int m3), (.int (13 : Int32)), (.int (13 : Int32)), (.ref b1), (.ref b1)]))
  obtain ⟨_, _, ⟨T68, L68, k68, n68⟩, -, X68, ⟨Lc68, hQ68, l68, y68, z68⟩, st68⟩ := Jvm.LawKit.callS X65 hx (y := (⟨"com/example/orbitloom/orbitloom/orbits/TrackSamplePinLaw", "v", "(III)D"⟩ : MethodName)) hown (mvT hZ (hw _ (List.mem_of_getElem? (i := 3) rfl))) (mvT hZ (hw _ (List.mem_of_getElem? (i := 4) rfl))) (mvT hZ (hw _ (List.mem_of_getElem? (i := 5) rfl))) (mvT hZ (hw _ (List.mem_of_getElem? (i := 6) rfl))) (by decide) (backOf (W := 3) (rm1 l Z a0 hw [] (13 : Int32) m3 b4 h65 n0 Z67 ) hZ (hw _ (List.mem_of_getElem? (i := 6) rfl)) (hw _ (List.mem_of_getElem? (i := 5) rfl)) (by decide) (by decide)) (g := (mkF m 178 #[.val (.int p0), .val (.int p1), .val (.int p2), .val (.int m3), .val (.int b4), .val (.int ((p2 &&& (2147483647 : Int32)) % (3 : Int32))), .unset, .unset, .unset, .unset] [(.int b4), (.int m3), (.int (13 : Int32)), (.int (13 : Int32)), (.ref b1), (.ref b1)])) rfl (by rw [hml]; rfl) (argsL := [(.int (13 : Int32)), (.int m3), (.int b4)]) (rest := [(.int (13 : Int32)), (.ref b1), (.ref b1)]) (lenOf pd_0 rfl) rfl (by show 2 * 0 + _ ≤ _; exact Nat.le_of_eq rfl) (hb hby at_178) (fun _ _ => ⟨rfl, e65, (by decide : 1 + 0 ≤ _), (by decide : 18 + 0 ≤ _)⟩)
  dsimp only [Pt.U, Pt.locs, Pt.cells, Pt.slots] at X68 l68 y68 z68 st68 hQ68
  rw [l68, y68, z68] at X68
  obtain ⟨N68, eh68, hR68⟩ := hQ68
  have NA68 := Fr.app N67 N68
  obtain rfl := hR68
  refine Goes.step st68 ?_
  show Goes _ _ _ _ _ _ _ (T68.setTop (mkF m 181 #[.val (.int p0), .val (.int p1), .val (.int p2), .val (.int m3), .val (.int b4), .val (.int ((p2 &&& (2147483647 : Int32)) % (3 : Int32))), .unset, .unset, .unset, .unset] [(.double (FP.i2d (((13 : Int32) * m3) + b4))), (.int (13 : Int32)), (.ref b1), (.ref b1)]))
  obtain ⟨cl69, Ar69, q69, S69, P69, H69, G69⟩ := id f66
  have hin69 : ¬ ((13 : Int32) < 0 ∨ cl69.slots.size ≤ ((13 : Int32)).toNatClampNeg) := inb_of S69 ⟨by decide, by decide⟩
  obtain ⟨T70, h70, X70, e70, W70, st70⟩ := stD X68 hx hZ eh68 Ar69 (j := (13 : Int32)) hin69 (g := (mkF m 181 #[.val (.int p0), .val (.int p1), .val (.int p2), .val (.int m3), .val (.int b4), .val (.int ((p2 &&& (2147483647 : Int32)) % (3 : Int32))), .unset, .unset, .unset, .unset] [(.double (FP.i2d (((13 : Int32) * m3) + b4))), (.int (13 : Int32)), (.ref b1), (.ref b1)])) rfl rfl (hb hby at_181)
  refine Goes.step st70 ?_
  have V70 : Arv Z h70 b1 k1 .double (18 : Int32) [(.double (FP.i2d (((0 : Int32) * m3) + b4))), (.double (FP.i2d (((1 : Int32) * m3) + b4))), (.double (FP.i2d (((2 : Int32) * m3) + b4))), (.double (FP.i2d (((3 : Int32) * m3) + b4))), (.double (FP.i2d (((4 : Int32) * m3) + b4))), (.double (FP.i2d (((5 : Int32) * m3) + b4))), (.double (FP.i2d (((6 : Int32) * m3) + b4))), (.double (FP.i2d (((7 : Int32) * m3) + b4))), (.double (FP.i2d (((8 : Int32) * m3) + b4))), (.double (FP.i2d (((9 : Int32) * m3) + b4))), (.double (FP.i2d (((10 : Int32) * m3) + b4))), (.double (FP.i2d (((11 : Int32) * m3) + b4))), (.double (FP.i2d (((12 : Int32) * m3) + b4))), (.double (FP.i2d (((13 : Int32) * m3) + b4))), (.double (0 : UInt64)), (.double (0 : UInt64)), (.double (0 : UInt64)), (.double (0 : UInt64))] (.double (0 : UInt64)) := Arv.set Ar69 q69 S69 P69 H69 G69 rfl W70 13 rfl (Nat.le_of_ble_eq_true rfl)
  have f71 := V70
  have K72 : Keep h0 h70 [] := K67.wr W70 (Or.inr sz_b1)
  have Z72 : n0 ≤ h70.size := by rw [Wr.size W70]; exact Z67
  have N72 := Fr.snoc X70 NA68 g_b1
  show Goes _ _ _ _ _ _ _ (T70.setTop (mkF m 182 #[.val (.int p0), .val (.int p1), .val (.int p2), .val (.int m3), .val (.int b4), .val (.int ((p2 &&& (2147483647 : Int32)) % (3 : Int32))), .unset, .unset, .unset, .unset] [(.ref b1)]))
  refine Goes.step (fun _ k => XS.dup X70.here hx rfl (hb hby at_182) rfl rfl k) ?_
  show Goes _ _ _ _ _ _ _ (T70.setTop (mkF m 183 #[.val (.int p0), .val (.int p1), .val (.int p2), .val (.int m3), .val (.int b4), .val (.int ((p2 &&& (2147483647 : Int32)) % (3 : Int32))), .unset, .unset, .unset, .unset] [(.ref b1), (.ref b1)]))
  refine Goes.step (fun _ k => XS.bipush X70.here hx rfl (hb hby at_183) k) ?_
  show Goes _ _ _ _ _ _ _ (T70.setTop (mkF m 185 #[.val (.int p0), .val (.int p1), .val (.int p2), .val (.int m3), .val (.int b4), .val (.int ((p2 &&& (2147483647 : Int32)) % (3 : Int32))), .unset, .unset, .unset, .unset] [(.int (14 : Int32)), (.ref b1), (.ref b1)]))
  refine Goes.step (fun _ k => XS.bipush X70.here hx rfl (hb hby at_185) k) ?_
  show Goes _ _ _ _ _ _ _ (T70.setTop (mkF m 187 #[.val (.int p0), .val (.int p1), .val (.int p2), .val (.int m3), .val (.int b4), .val (.int ((p2 &&& (2147483647 : Int32)) % (3 : Int32))), .unset, .unset, .unset, .unset] [(.int (14 : Int32)), (.int (14 : Int32)), (.ref b1), (.ref b1)]))
  refine Goes.step (fun _ k => XS.iloadN X70.here hx rfl (hb hby at_187) rfl  k) ?_
  show Goes _ _ _ _ _ _ _ (T70.setTop (mkF m 188 #[.val (.int p0), .val (.int p1), .val (.int p2), .val (.int m3), .val (.int b4), .val (.int ((p2 &&& (2147483647 : Int32)) % (3 : Int32))), .unset, .unset, .unset, .unset] [(.int m3), (.int (14 : Int32)), (.int (14 : Int32)), (.ref b1), (.ref b1)]))
  refine Goes.step (fun _ k => XS.iload X70.here hx rfl (hb hby at_188) rfl  k) ?_
  show Goes _ _ _ _ _ _ _ (T70.setTop (mkF m 190 #[.val (.int p0), .val (.int p1), .val (.int p2), .val (.int m3), .val (.int b4), .val (.int ((p2 &&& (2147483647 : Int32)) % (3 : Int32))), .unset, .unset, .unset, .unset] [(.int b4), (.int m3), (.int (14 : Int32)), (.int (14 : Int32)), (.ref b1), (.ref b1)]))
  obtain ⟨_, _, ⟨T73, L73, k73, n73⟩, -, X73, ⟨Lc73, hQ73, l73, y73, z73⟩, st73⟩ := Jvm.LawKit.callS X70 hx (y := (⟨"com/example/orbitloom/orbitloom/orbits/TrackSamplePinLaw", "v", "(III)D"⟩ : MethodName)) hown (mvT hZ (hw _ (List.mem_of_getElem? (i := 3) rfl))) (mvT hZ (hw _ (List.mem_of_getElem? (i := 4) rfl))) (mvT hZ (hw _ (List.mem_of_getElem? (i := 5) rfl))) (mvT hZ (hw _ (List.mem_of_getElem? (i := 6) rfl))) (by decide) (backOf (W := 3) (rm1 l Z a0 hw [] (14 : Int32) m3 b4 h70 n0 Z72 ) hZ (hw _ (List.mem_of_getElem? (i := 6) rfl)) (hw _ (List.mem_of_getElem? (i := 5) rfl)) (by decide) (by decide)) (g := (mkF m 190 #[.val (.int p0), .val (.int p1), .val (.int p2), .val (.int m3), .val (.int b4), .val (.int ((p2 &&& (2147483647 : Int32)) % (3 : Int32))), .unset, .unset, .unset, .unset] [(.int b4), (.int m3), (.int (14 : Int32)), (.int (14 : Int32)), (.ref b1), (.ref b1)])) rfl (by rw [hml]; rfl) (argsL := [(.int (14 : Int32)), (.int m3), (.int b4)]) (rest := [(.int (14 : Int32)), (.ref b1), (.ref b1)]) (lenOf pd_0 rfl) rfl (by show 2 * 0 + _ ≤ _; exact Nat.le_of_eq rfl) (hb hby at_190) (fun _ _ => ⟨rfl, e70, (by decide : 1 + 0 ≤ _), (by decide : 18 + 0 ≤ _)⟩)
  dsimp only [Pt.U, Pt.locs, Pt.cells, Pt.slots] at X73 l73 y73 z73 st73 hQ73
  rw [l73, y73, z73] at X73
  obtain ⟨N73, eh73, hR73⟩ := hQ73
  have NA73 := Fr.app N72 N73
  obtain rfl := hR73
  refine Goes.step st73 ?_
  show Goes _ _ _ _ _ _ _ (T73.setTop (mkF m 193 #[.val (.int p0), .val (.int p1), .val (.int p2), .val (.int m3), .val (.int b4), .val (.int ((p2 &&& (2147483647 : Int32)) % (3 : Int32))), .unset, .unset, .unset, .unset] [(.double (FP.i2d (((14 : Int32) * m3) + b4))), (.int (14 : Int32)), (.ref b1), (.ref b1)]))
  obtain ⟨cl74, Ar74, q74, S74, P74, H74, G74⟩ := id f71
  have hin74 : ¬ ((14 : Int32) < 0 ∨ cl74.slots.size ≤ ((14 : Int32)).toNatClampNeg) := inb_of S74 ⟨by decide, by decide⟩
  obtain ⟨T75, h75, X75, e75, W75, st75⟩ := stD X73 hx hZ eh73 Ar74 (j := (14 : Int32)) hin74 (g := (mkF m 193 #[.val (.int p0), .val (.int p1), .val (.int p2), .val (.int m3), .val (.int b4), .val (.int ((p2 &&& (2147483647 : Int32)) % (3 : Int32))), .unset, .unset, .unset, .unset] [(.double (FP.i2d (((14 : Int32) * m3) + b4))), (.int (14 : Int32)), (.ref b1), (.ref b1)])) rfl rfl (hb hby at_193)
  refine Goes.step st75 ?_
  have V75 : Arv Z h75 b1 k1 .double (18 : Int32) [(.double (FP.i2d (((0 : Int32) * m3) + b4))), (.double (FP.i2d (((1 : Int32) * m3) + b4))), (.double (FP.i2d (((2 : Int32) * m3) + b4))), (.double (FP.i2d (((3 : Int32) * m3) + b4))), (.double (FP.i2d (((4 : Int32) * m3) + b4))), (.double (FP.i2d (((5 : Int32) * m3) + b4))), (.double (FP.i2d (((6 : Int32) * m3) + b4))), (.double (FP.i2d (((7 : Int32) * m3) + b4))), (.double (FP.i2d (((8 : Int32) * m3) + b4))), (.double (FP.i2d (((9 : Int32) * m3) + b4))), (.double (FP.i2d (((10 : Int32) * m3) + b4))), (.double (FP.i2d (((11 : Int32) * m3) + b4))), (.double (FP.i2d (((12 : Int32) * m3) + b4))), (.double (FP.i2d (((13 : Int32) * m3) + b4))), (.double (FP.i2d (((14 : Int32) * m3) + b4))), (.double (0 : UInt64)), (.double (0 : UInt64)), (.double (0 : UInt64))] (.double (0 : UInt64)) := Arv.set Ar74 q74 S74 P74 H74 G74 rfl W75 14 rfl (Nat.le_of_ble_eq_true rfl)
  have f76 := V75
  have K77 : Keep h0 h75 [] := K72.wr W75 (Or.inr sz_b1)
  have Z77 : n0 ≤ h75.size := by rw [Wr.size W75]; exact Z72
  have N77 := Fr.snoc X75 NA73 g_b1
  show Goes _ _ _ _ _ _ _ (T75.setTop (mkF m 194 #[.val (.int p0), .val (.int p1), .val (.int p2), .val (.int m3), .val (.int b4), .val (.int ((p2 &&& (2147483647 : Int32)) % (3 : Int32))), .unset, .unset, .unset, .unset] [(.ref b1)]))
  refine Goes.step (fun _ k => XS.dup X75.here hx rfl (hb hby at_194) rfl rfl k) ?_
  show Goes _ _ _ _ _ _ _ (T75.setTop (mkF m 195 #[.val (.int p0), .val (.int p1), .val (.int p2), .val (.int m3), .val (.int b4), .val (.int ((p2 &&& (2147483647 : Int32)) % (3 : Int32))), .unset, .unset, .unset, .unset] [(.ref b1), (.ref b1)]))
  refine Goes.step (fun _ k => XS.bipush X75.here hx rfl (hb hby at_195) k) ?_
  show Goes _ _ _ _ _ _ _ (T75.setTop (mkF m 197 #[.val (.int p0), .val (.int p1), .val (.int p2), .val (.int m3), .val (.int b4), .val (.int ((p2 &&& (2147483647 : Int32)) % (3 : Int32))), .unset, .unset, .unset, .unset] [(.int (15 : Int32)), (.ref b1), (.ref b1)]))
  refine Goes.step (fun _ k => XS.bipush X75.here hx rfl (hb hby at_197) k) ?_
  show Goes _ _ _ _ _ _ _ (T75.setTop (mkF m 199 #[.val (.int p0), .val (.int p1), .val (.int p2), .val (.int m3), .val (.int b4), .val (.int ((p2 &&& (2147483647 : Int32)) % (3 : Int32))), .unset, .unset, .unset, .unset] [(.int (15 : Int32)), (.int (15 : Int32)), (.ref b1), (.ref b1)]))
  refine Goes.step (fun _ k => XS.iloadN X75.here hx rfl (hb hby at_199) rfl  k) ?_
  show Goes _ _ _ _ _ _ _ (T75.setTop (mkF m 200 #[.val (.int p0), .val (.int p1), .val (.int p2), .val (.int m3), .val (.int b4), .val (.int ((p2 &&& (2147483647 : Int32)) % (3 : Int32))), .unset, .unset, .unset, .unset] [(.int m3), (.int (15 : Int32)), (.int (15 : Int32)), (.ref b1), (.ref b1)]))
  refine Goes.step (fun _ k => XS.iload X75.here hx rfl (hb hby at_200) rfl  k) ?_
  show Goes _ _ _ _ _ _ _ (T75.setTop (mkF m 202 #[.val (.int p0), .val (.int p1), .val (.int p2), .val (.int m3), .val (.int b4), .val (.int ((p2 &&& (2147483647 : Int32)) % (3 : Int32))), .unset, .unset, .unset, .unset] [(.int b4), (.int m3), (.int (15 : Int32)), (.int (15 : Int32)), (.ref b1), (.ref b1)]))
  obtain ⟨_, _, ⟨T78, L78, k78, n78⟩, -, X78, ⟨Lc78, hQ78, l78, y78, z78⟩, st78⟩ := Jvm.LawKit.callS X75 hx (y := (⟨"com/example/orbitloom/orbitloom/orbits/TrackSamplePinLaw", "v", "(III)D"⟩ : MethodName)) hown (mvT hZ (hw _ (List.mem_of_getElem? (i := 3) rfl))) (mvT hZ (hw _ (List.mem_of_getElem? (i := 4) rfl))) (mvT hZ (hw _ (List.mem_of_getElem? (i := 5) rfl))) (mvT hZ (hw _ (List.mem_of_getElem? (i := 6) rfl))) (by decide) (backOf (W := 3) (rm1 l Z a0 hw [] (15 : Int32) m3 b4 h75 n0 Z77 ) hZ (hw _ (List.mem_of_getElem? (i := 6) rfl)) (hw _ (List.mem_of_getElem? (i := 5) rfl)) (by decide) (by decide)) (g := (mkF m 202 #[.val (.int p0), .val (.int p1), .val (.int p2), .val (.int m3), .val (.int b4), .val (.int ((p2 &&& (2147483647 : Int32)) % (3 : Int32))), .unset, .unset, .unset, .unset] [(.int b4), (.int m3), (.int (15 : Int32)), (.int (15 : Int32)), (.ref b1), (.ref b1)])) rfl (by rw [hml]; rfl) (argsL := [(.int (15 : Int32)), (.int m3), (.int b4)]) (rest := [(.int (15 : Int32)), (.ref b1), (.ref b1)]) (lenOf pd_0 rfl) rfl (by show 2 * 0 + _ ≤ _; exact Nat.le_of_eq rfl) (hb hby at_202) (fun _ _ => ⟨rfl, e75, (by decide : 1 + 0 ≤ _), (by decide : 18 + 0 ≤ _)⟩)
  dsimp only [Pt.U, Pt.locs, Pt.cells, Pt.slots] at X78 l78 y78 z78 st78 hQ78
  rw [l78, y78, z78] at X78
  obtain ⟨N78, eh78, hR78⟩ := hQ78
  have NA78 := Fr.app N77 N78
  obtain rfl := hR78
  refine Goes.step st78 ?_
  show Goes _ _ _ _ _ _ _ (T78.setTop (mkF m 205 #[.val (.int p0), .val (.int p1), .val (.int p2), .val (.int m3), .val (.int b4), .val (.int ((p2 &&& (2147483647 : Int32)) % (3 : Int32))), .unset, .unset, .unset, .unset] [(.double (FP.i2d (((15 : Int32) * m3) + b4))), (.int (15 : Int32)), (.ref b1), (.ref b1)]))
  obtain ⟨cl79, Ar79, q79, S79, P79, H79, G79⟩ := id f76
  have hin79 : ¬ ((15 : Int32) < 0 ∨ cl79.slots.size ≤ ((15 : Int32)).toNatClampNeg) := inb_of S79 ⟨by decide, by decide⟩
  obtain ⟨T80, h80, X80, e80, W80, st80⟩ := stD X78 hx hZ eh78 Ar79 (j := (15 : Int32)) hin79 (g := (mkF m 205 #[.val (.int p0), .val (.int p1), .val (.int p2), .val (.int m3), .val (.int b4), .val (.int ((p2 &&& (2147483647 : Int32)) % (3 : Int32))), .unset, .unset, .unset, .unset] [(.double (FP.i2d (((15 : Int32) * m3) + b4))), (.int (15 : Int32)), (.ref b1), (.ref b1)])) rfl rfl (hb hby at_205)
  refine Goes.step st80 ?_
  have V80 : Arv Z h80 b1 k1 .double (18 : Int32) [(.double (FP.i2d (((0 : Int32) * m3) + b4))), (.double (FP.i2d (((1 : Int32) * m3) + b4))), (.double (FP.i2d (((2 : Int32) * m3) + b4))), (.double (FP.i2d (((3 : Int32) * m3) + b4))), (.double (FP.i2d (((4 : Int32) * m3) + b4))), (.double (FP.i2d (((5 : Int32) * m3) + b4))), (.double (FP.i2d (((6 : Int32) * m3) + b4))), (.double (FP.i2d (((7 : Int32) * m3) + b4))), (.double (FP.i2d (((8 : Int32) * m3) + b4))), (.double (FP.i2d (((9 : Int32) * m3) + b4))), (.double (FP.i2d (((10 : Int32) * m3) + b4))), (.double (FP.i2d (((11 : Int32) * m3) + b4))), (.double (FP.i2d (((12 : Int32) * m3) + b4))), (.double (FP.i2d (((13 : Int32) * m3) + b4))), (.double (FP.i2d (((14 : Int32) * m3) + b4))), (.double (FP.i2d (((15 : Int32) * m3) + b4))), (.double (0 : UInt64)), (.double (0 : UInt64))] (.double (0 : UInt64)) := Arv.set Ar79 q79 S79 P79 H79 G79 rfl W80 15 rfl (Nat.le_of_ble_eq_true rfl)
  have f81 := V80
  have K82 : Keep h0 h80 [] := K77.wr W80 (Or.inr sz_b1)
  have Z82 : n0 ≤ h80.size := by rw [Wr.size W80]; exact Z77
  have N82 := Fr.snoc X80 NA78 g_b1
  show Goes _ _ _ _ _ _ _ (T80.setTop (mkF m 206 #[.val (.int p0), .val (.int p1), .val (.int p2), .val (.int m3), .val (.int b4), .val (.int ((p2 &&& (2147483647 : Int32)) % (3 : Int32))), .unset, .unset, .unset, .unset] [(.ref b1)]))
  refine Goes.step (fun _ k => XS.dup X80.here hx rfl (hb hby at_206) rfl rfl k) ?_
  show Goes _ _ _ _ _ _ _ (T80.setTop (mkF m 207 #[.val (.int p0), .val (.int p1), .val (.int p2), .val (.int m3), .val (.int b4), .val (.int ((p2 &&& (2147483647 : Int32)) % (3 : Int32))), .unset, .unset, .unset, .unset] [(.ref b1), (.ref b1)]))
  refine Goes.step (fun _ k => XS.bipush X80.here hx rfl (hb hby at_207) k) ?_
  show Goes _ _ _ _ _ _ _ (T80.setTop (mkF m 209 #[.val (.int p0), .val (.int p1), .val (.int p2), .val (.int m3), .val (.int b4), .val (.int ((p2 &&& (2147483647 : Int32)) % (3 : Int32))), .unset, .unset, .unset, .unset] [(.int (16 : Int32)), (.ref b1), (.ref b1)]))
  refine Goes.step (fun _ k => XS.bipush X80.here hx rfl (hb hby at_209) k) ?_
  show Goes _ _ _ _ _ _ _ (T80.setTop (mkF m 211 #[.val (.int p0), .val (.int p1), .val (.int p2), .val (.int m3), .val (.int b4), .val (.int ((p2 &&& (2147483647 : Int32)) % (3 : Int32))), .unset, .unset, .unset, .unset] [(.int (16 : Int32)), (.int (16 : Int32)), (.ref b1), (.ref b1)]))
  refine Goes.step (fun _ k => XS.iloadN X80.here hx rfl (hb hby at_211) rfl  k) ?_
  show Goes _ _ _ _ _ _ _ (T80.setTop (mkF m 212 #[.val (.int p0), .val (.int p1), .val (.int p2), .val (.int m3), .val (.int b4), .val (.int ((p2 &&& (2147483647 : Int32)) % (3 : Int32))), .unset, .unset, .unset, .unset] [(.int m3), (.int (16 : Int32)), (.int (16 : Int32)), (.ref b1), (.ref b1)]))
  refine Goes.step (fun _ k => XS.iload X80.here hx rfl (hb hby at_212) rfl  k) ?_
  show Goes _ _ _ _ _ _ _ (T80.setTop (mkF m 214 #[.val (.int p0), .val (.int p1), .val (.int p2), .val (.int m3), .val (.int b4), .val (.int ((p2 &&& (2147483647 : Int32)) % (3 : Int32))), .unset, .unset, .unset, .unset] [(.int b4), (.int m3), (.int (16 : Int32)), (.int (16 : Int32)), (.ref b1), (.ref b1)]))
  obtain ⟨_, _, ⟨T83, L83, k83, n83⟩, -, X83, ⟨Lc83, hQ83, l83, y83, z83⟩, st83⟩ := Jvm.LawKit.callS X80 hx (y := (⟨"com/example/orbitloom/orbitloom/orbits/TrackSamplePinLaw", "v", "(III)D"⟩ : MethodName)) hown (mvT hZ (hw _ (List.mem_of_getElem? (i := 3) rfl))) (mvT hZ (hw _ (List.mem_of_getElem? (i := 4) rfl))) (mvT hZ (hw _ (List.mem_of_getElem? (i := 5) rfl))) (mvT hZ (hw _ (List.mem_of_getElem? (i := 6) rfl))) (by decide) (backOf (W := 3) (rm1 l Z a0 hw [] (16 : Int32) m3 b4 h80 n0 Z82 ) hZ (hw _ (List.mem_of_getElem? (i := 6) rfl)) (hw _ (List.mem_of_getElem? (i := 5) rfl)) (by decide) (by decide)) (g := (mkF m 214 #[.val (.int p0), .val (.int p1), .val (.int p2), .val (.int m3), .val (.int b4), .val (.int ((p2 &&& (2147483647 : Int32)) % (3 : Int32))), .unset, .unset, .unset, .unset] [(.int b4), (.int m3), (.int (16 : Int32)), (.int (16 : Int32)), (.ref b1), (.ref b1)])) rfl (by rw [hml]; rfl) (argsL := [(.int (16 : Int32)), (.int m3), (.int b4)]) (rest := [(.int (16 : Int32)), (.ref b1), (.ref b1)]) (lenOf pd_0 rfl) rfl (by show 2 * 0 + _ ≤ _; exact Nat.le_of_eq rfl) (hb hby at_214) (fun _ _ => ⟨rfl, e80, (by decide : 1 + 0 ≤ _), (by decide : 18 + 0 ≤ _)⟩)
  dsimp only [Pt.U, Pt.locs, Pt.cells, Pt.slots] at X83 l83 y83 z83 st83 hQ83
  rw [l83, y83, z83] at X83
  obtain ⟨N83, eh83, hR83⟩ := hQ83
  have NA83 := Fr.app N82 N83
  obtain rfl := hR83
  refine Goes.step st83 ?_
  show Goes _ _ _ _ _ _ _ (T83.setTop (mkF m 217 #[.val (.int p0), .val (.int p1), .val (.int p2), .val (.int m3), .val (.int b4), .val (.int ((p2 &&& (2147483647 : Int32)) % (3 : Int32))), .unset, .unset, .unset, .unset] [(.double (FP.i2d (((16 : Int32) * m3) + b4))), (.int (16 : Int32)), (.ref b1), (.ref b1)]))
  obtain ⟨cl84, Ar84, q84, S84, P84, H84, G84⟩ := id f81
  have hin84 : ¬ ((16 : Int32) < 0 ∨ cl84.slots.size ≤ ((16 : Int32)).toNatClampNeg) := inb_of S84 ⟨by decide, by decide⟩
  obtain ⟨T85, h85, X85, e85, W85, st85⟩ := stD X83 hx hZ eh83 Ar84 (j := (16 : Int32)) hin84 (g := (mkF m 217 #[.val (.int p0), .val (.int p1), .val (.int p2), .val (.int m3), .val (.int b4), .val (.int ((p2 &&& (2147483647 : Int32)) % (3 : Int32))), .unset, .unset, .unset, .unset] [(.double (FP.i2d (((16 : Int32) * m3) + b4))), (.int (16 : Int32)), (.ref b1), (.ref b1)])) rfl rfl (hb hby at_217)
  refine Goes.step st85 ?_
  have V85 : Arv Z h85 b1 k1 .double (18 : Int32) [(.double (FP.i2d (((0 : Int32) * m3) + b4))), (.double (FP.i2d (((1 : Int32) * m3) + b4))), (.double (FP.i2d (((2 : Int32) * m3) + b4))), (.double (FP.i2d (((3 : Int32) * m3) + b4))), (.double (FP.i2d (((4 : Int32) * m3) + b4))), (.double (FP.i2d (((5 : Int32) * m3) + b4))), (.double (FP.i2d (((6 : Int32) * m3) + b4))), (.double (FP.i2d (((7 : Int32) * m3) + b4))), (.double (FP.i2d (((8 : Int32) * m3) + b4))), (.double (FP.i2d (((9 : Int32) * m3) + b4))), (.double (FP.i2d (((10 : Int32) * m3) + b4))), (.double (FP.i2d (((11 : Int32) * m3) + b4))), (.double (FP.i2d (((12 : Int32) * m3) + b4))), (.double (FP.i2d (((13 : Int32) * m3) + b4))), (.double (FP.i2d (((14 : Int32) * m3) + b4))), (.double (FP.i2d (((15 : Int32) * m3) + b4))), (.double (FP.i2d (((16 : Int32) * m3) + b4))), (.double (0 : UInt64))] (.double (0 : UInt64)) := Arv.set Ar84 q84 S84 P84 H84 G84 rfl W85 16 rfl (Nat.le_of_ble_eq_true rfl)
  have f86 := V85
  have K87 : Keep h0 h85 [] := K82.wr W85 (Or.inr sz_b1)
  have Z87 : n0 ≤ h85.size := by rw [Wr.size W85]; exact Z82
  have N87 := Fr.snoc X85 NA83 g_b1
  show Goes _ _ _ _ _ _ _ (T85.setTop (mkF m 218 #[.val (.int p0), .val (.int p1), .val (.int p2), .val (.int m3), .val (.int b4), .val (.int ((p2 &&& (2147483647 : Int32)) % (3 : Int32))), .unset, .unset, .unset, .unset] [(.ref b1)]))
  refine Goes.step (fun _ k => XS.dup X85.here hx rfl (hb hby at_218) rfl rfl k) ?_
  show Goes _ _ _ _ _ _ _ (T85.setTop (mkF m 219 #[.val (.int p0), .val (.int p1), .val (.int p2), .val (.int m3), .val (.int b4), .val (.int ((p2 &&& (2147483647 : Int32)) % (3 : Int32))), .unset, .unset, .unset, .unset] [(.ref b1), (.ref b1)]))
  refine Goes.step (fun _ k => XS.bipush X85.here hx rfl (hb hby at_219) k) ?_
  show Goes _ _ _ _ _ _ _ (T85.setTop (mkF m 221 #[.val (.int p0), .val (.int p1), .val (.int p2), .val (.int m3), .val (.int b4), .val (.int ((p2 &&& (2147483647 : Int32)) % (3 : Int32))), .unset, .unset, .unset, .unset] [(.int (17 : Int32)), (.ref b1), (.ref b1)]))
  refine Goes.step (fun _ k => XS.bipush X85.here hx rfl (hb hby at_221) k) ?_
  show Goes _ _ _ _ _ _ _ (T85.setTop (mkF m 223 #[.val (.int p0), .val (.int p1), .val (.int p2), .val (.int m3), .val (.int b4), .val (.int ((p2 &&& (2147483647 : Int32)) % (3 : Int32))), .unset, .unset, .unset, .unset] [(.int (17 : Int32)), (.int (17 : Int32)), (.ref b1), (.ref b1)]))
  refine Goes.step (fun _ k => XS.iloadN X85.here hx rfl (hb hby at_223) rfl  k) ?_
  show Goes _ _ _ _ _ _ _ (T85.setTop (mkF m 224 #[.val (.int p0), .val (.int p1), .val (.int p2), .val (.int m3), .val (.int b4), .val (.int ((p2 &&& (2147483647 : Int32)) % (3 : Int32))), .unset, .unset, .unset, .unset] [(.int m3), (.int (17 : Int32)), (.int (17 : Int32)), (.ref b1), (.ref b1)]))
  refine Goes.step (fun _ k => XS.iload X85.here hx rfl (hb hby at_224) rfl  k) ?_
  show Goes _ _ _ _ _ _ _ (T85.setTop (mkF m 226 #[.val (.int p0), .val (.int p1), .val (.int p2), .val (.int m3), .val (.int b4), .val (.int ((p2 &&& (2147483647 : Int32)) % (3 : Int32))), .unset, .unset, .unset, .unset] [(.int b4), (.int m3), (.int (17 : Int32)), (.int (17 : Int32)), (.ref b1), (.ref b1)]))
  obtain ⟨_, _, ⟨T88, L88, k88, n88⟩, -, X88, ⟨Lc88, hQ88, l88, y88, z88⟩, st88⟩ := Jvm.LawKit.callS X85 hx (y := (⟨"com/example/orbitloom/orbitloom/orbits/TrackSamplePinLaw", "v", "(III)D"⟩ : MethodName)) hown (mvT hZ (hw _ (List.mem_of_getElem? (i := 3) rfl))) (mvT hZ (hw _ (List.mem_of_getElem? (i := 4) rfl))) (mvT hZ (hw _ (List.mem_of_getElem? (i := 5) rfl))) (mvT hZ (hw _ (List.mem_of_getElem? (i := 6) rfl))) (by decide) (backOf (W := 3) (rm1 l Z a0 hw [] (17 : Int32) m3 b4 h85 n0 Z87 ) hZ (hw _ (List.mem_of_getElem? (i := 6) rfl)) (hw _ (List.mem_of_getElem? (i := 5) rfl)) (by decide) (by decide)) (g := (mkF m 226 #[.val (.int p0), .val (.int p1), .val (.int p2), .val (.int m3), .val (.int b4), .val (.int ((p2 &&& (2147483647 : Int32)) % (3 : Int32))), .unset, .unset, .unset, .unset] [(.int b4), (.int m3), (.int (17 : Int32)), (.int (17 : Int32)), (.ref b1), (.ref b1)])) rfl (by rw [hml]; rfl) (argsL := [(.int (17 : Int32)), (.int m3), (.int b4)]) (rest := [(.int (17 : Int32)), (.ref b1), (.ref b1)]) (lenOf pd_0 rfl) rfl (by show 2 * 0 + _ ≤ _; exact Nat.le_of_eq rfl) (hb hby at_226) (fun _ _ => ⟨rfl, e85, (by decide : 1 + 0 ≤ _), (by decide : 18 + 0 ≤ _)⟩)
  dsimp only [Pt.U, Pt.locs, Pt.cells, Pt.slots] at X88 l88 y88 z88 st88 hQ88
  rw [l88, y88, z88] at X88
  obtain ⟨N88, eh88, hR88⟩ := hQ88
  have NA88 := Fr.app N87 N88
  obtain rfl := hR88
  refine Goes.step st88 ?_
  show Goes _ _ _ _ _ _ _ (T88.setTop (mkF m 229 #[.val (.int p0), .val (.int p1), .val (.int p2), .val (.int m3), .val (.int b4), .val (.int ((p2 &&& (2147483647 : Int32)) % (3 : Int32))), .unset, .unset, .unset, .unset] [(.double (FP.i2d (((17 : Int32) * m3) + b4))), (.int (17 : Int32)), (.ref b1), (.ref b1)]))
  obtain ⟨cl89, Ar89, q89, S89, P89, H89, G89⟩ := id f86
  have hin89 : ¬ ((17 : Int32) < 0 ∨ cl89.slots.size ≤ ((17 : Int32)).toNatClampNeg) := inb_of S89 ⟨by decide, by decide⟩
  obtain ⟨T90, h90, X90, e90, W90, st90⟩ := stD X88 hx hZ eh88 Ar89 (j := (17 : Int32)) hin89 (g := (mkF m 229 #[.val (.int p0), .val (.int p1), .val (.int p2), .val (.int m3), .val (.int b4), .val (.int ((p2 &&& (2147483647 : Int32)) % (3 : Int32))), .unset, .unset, .unset, .unset] [(.double (FP.i2d (((17 : Int32) * m3) + b4))), (.int (17 : Int32)), (.ref b1), (.ref b1)])) rfl rfl (hb hby at_229)
  refine Goes.step st90 ?_
  have V90 : Arv Z h90 b1 k1 .double (18 : Int32) [(.double (FP.i2d (((0 : Int32) * m3) + b4))), (.double (FP.i2d (((1 : Int32) * m3) + b4))), (.double (FP.i2d (((2 : Int32) * m3) + b4))), (.double (FP.i2d (((3 : Int32) * m3) + b4))), (.double (FP.i2d (((4 : Int32) * m3) + b4))), (.double (FP.i2d (((5 : Int32) * m3) + b4))), (.double (FP.i2d (((6 : Int32) * m3) + b4))), (.double (FP.i2d (((7 : Int32) * m3) + b4))), (.double (FP.i2d (((8 : Int32) * m3) + b4))), (.double (FP.i2d (((9 : Int32) * m3) + b4))), (.double (FP.i2d (((10 : Int32) * m3) + b4))), (.double (FP.i2d (((11 : Int32) * m3) + b4))), (.double (FP.i2d (((12 : Int32) * m3) + b4))), (.double (FP.i2d (((13 : Int32) * m3) + b4))), (.double (FP.i2d (((14 : Int32) * m3) + b4))), (.double (FP.i2d (((15 : Int32) * m3) + b4))), (.double (FP.i2d (((16 : Int32) * m3) + b4))), (.double (FP.i2d (((17 : Int32) * m3) + b4)))] (.double (0 : UInt64)) := Arv.set Ar89 q89 S89 P89 H89 G89 rfl W90 17 rfl (Nat.le_of_ble_eq_true rfl)
  have f91 := V90
  have K92 : Keep h0 h90 [] := K87.wr W90 (Or.inr sz_b1)
  have Z92 : n0 ≤ h90.size := by rw [Wr.size W90]; exact Z87
  have N92 := Fr.snoc X90 NA88 g_b1
  show Goes _ _ _ _ _ _ _ (T90.setTop (mkF m 230 #[.val (.int p0), .val (.int p1), .val (.int p2), .val (.int m3), .val (.int b4), .val (.int ((p2 &&& (2147483647 : Int32)) % (3 : Int32))), .unset, .unset, .unset, .unset] [(.ref b1)]))
  refine Goes.step (fun _ k => XS.astore X90.here hx rfl (hb hby at_230) rfl rfl (l' := #[.val (.int p0), .val (.int p1), .val (.int p2), .val (.int m3), .val (.int b4), .val (.int ((p2 &&& (2147483647 : Int32)) % (3 : Int32))), .val (.ref b1), .unset, .unset, .unset]) rfl k) ?_
  show Goes _ _ _ _ _ _ _ (T90.setTop (mkF m 232 #[.val (.int p0), .val (.int p1), .val (.int p2), .val (.int m3), .val (.int b4), .val (.int ((p2 &&& (2147483647 : Int32)) % (3 : Int32))), .val (.ref b1), .unset, .unset, .unset] []))
  obtain ⟨T93, h93, X93, e93, E93, A93, D93, -, st93⟩ := newO X90 hx hZ hown (hw _ (List.mem_of_getElem? (i := 7) rfl)) (hw _ (List.mem_of_getElem? (i := 8) rfl)) (hw _ (List.mem_of_getElem? (i := 9) rfl)) e90 (g := (mkF m 232 #[.val (.int p0), .val (.int p1), .val (.int p2), .val (.int m3), .val (.int b4), .val (.int ((p2 &&& (2147483647 : Int32)) % (3 : Int32))), .val (.ref b1), .unset, .unset, .unset] [])) rfl (hb hby at_232) (by decide) (by decide)
  obtain ⟨b93, g93⟩ : ∃ z, z = h90.size := ⟨_, rfl⟩
  rw [← g93] at A93 D93 st93
  refine Goes.step st93 ?_
  have g_b93 : n0 ≤ b93 := Nat.le_trans Z92 (Nat.le_of_eq g93.symm)
  have sz_b93 : h0.size ≤ b93 := Nat.le_trans K92.1 (Nat.le_of_eq g93.symm)
  have ne94 : b1 ≠ b93 := Nat.ne_of_lt (Nat.lt_of_lt_of_le f91.lt (Nat.le_of_eq g93.symm))
  have f95 := f91.ext E93
  have K96 : Keep h0 h93 [] := K92.ext E93
  have Z96 : n0 ≤ h93.size := Nat.le_trans Z92 E93.1
  have E_b93 := A93
  have F_step_b93 : Fld Z h93 b93 "com/example/orbitloom/orbitloom/orbits/Track" "step" "D" (.double (0 : UInt64)) := D93 (Or.inr (hw _ (List.mem_of_getElem? (i := 18) rfl))) (ty := .double) (by decide)
  have F_samples_b93 : Fld Z h93 b93 "com/example/orbitloom/orbitloom/orbits/Track" "samples" "[D" .null := D93 (Or.inr (hw _ (List.mem_of_getElem? (i := 20) rfl))) (ty := (.array .double)) (by decide)
  have F_size_b93 : Fld Z h93 b93 "com/example/orbitloom/orbitloom/orbits/Track" "size" "I" (.int (0 : Int32)) := D93 (Or.inr (hw _ (List.mem_of_getElem? (i := 22) rfl))) (ty := .int) (by decide)
  show Goes _ _ _ _ _ _ _ (T93.setTop (mkF m 235 #[.val (.int p0), .val (.int p1), .val (.int p2), .val (.int m3), .val (.int b4), .val (.int ((p2 &&& (2147483647 : Int32)) % (3 : Int32))), .val (.ref b1), .unset, .unset, .unset] [(.ref b93)]))
  refine Goes.step (fun _ k => XS.dup X93.here hx rfl (hb hby at_235) rfl rfl k) ?_
  show Goes _ _ _ _ _ _ _ (T93.setTop (mkF m 236 #[.val (.int p0), .val (.int p1), .val (.int p2), .val (.int m3), .val (.int b4), .val (.int ((p2 &&& (2147483647 : Int32)) % (3 : Int32))), .val (.ref b1), .unset, .unset, .unset] [(.ref b93), (.ref b93)]))
  refine Goes.step (fun _ k => X93.ldc2DoubleC hx hown (mvT hZ (hw _ (List.mem_of_getElem? (i := 10) rfl))) (g := (mkF m 236 #[.val (.int p0), .val (.int p1), .val (.int p2), .val (.int m3), .val (.int b4), .val (.int ((p2 &&& (2147483647 : Int32)) % (3 : Int32))), .val (.ref b1), .unset, .unset, .unset] [(.ref b93), (.ref b93)])) rfl (hb hby at_236) _ k) ?_
  show Goes _ _ _ _ _ _ _ (T93.setTop (mkF m 239 #[.val (.int p0), .val (.int p1), .val (.int p2), .val (.int m3), .val (.int b4), .val (.int ((p2 &&& (2147483647 : Int32)) % (3 : Int32))), .val (.ref b1), .unset, .unset, .unset] [(.double (4629137466983448576 : UInt64)), (.ref b93), (.ref b93)]))
  refine Goes.step (fun _ k => XS.aload X93.here hx rfl (hb hby at_239) rfl rfl k) ?_
  show Goes _ _ _ _ _ _ _ (T93.setTop (mkF m 241 #[.val (.int p0), .val (.int p1), .val (.int p2), .val (.int m3), .val (.int b4), .val (.int ((p2 &&& (2147483647 : Int32)) % (3 : Int32))), .val (.ref b1), .unset, .unset, .unset] [(.ref b1), (.double (4629137466983448576 : UInt64)), (.ref b93), (.ref b93)]))
  obtain ⟨_, _, ⟨T97, L97, k97, n97⟩, -, X97, ⟨Lc97, hQ97, l97, y97, z97⟩, st97⟩ := X93.specialBack hx (y := (⟨"com/example/orbitloom/orbitloom/orbits/Track", "<init>", "(D[D)V"⟩ : MethodName)) rfl hown (mvT hZ (hw _ (List.mem_of_getElem? (i := 11) rfl))) (mvT hZ (hw _ (List.mem_of_getElem? (i := 12) rfl))) (mvT hZ (hw _ (List.mem_of_getElem? (i := 13) rfl))) (by decide) (backOf (W := 1) (rm2 l Z a0 hw [] b93 b1 k1 h93 n0 Z96 F_step_b93 F_samples_b93 F_size_b93 E_b93 (own_arx f95) g_b93 ne94) hZ (hw _ (List.mem_of_getElem? (i := 13) rfl)) (hw _ (List.mem_of_getElem? (i := 9) rfl)) (by decide) (by decide)) (g := (mkF m 241 #[.val (.int p0), .val (.int p1), .val (.int p2), .val (.int m3), .val (.int b4), .val (.int ((p2 &&& (2147483647 : Int32)) % (3 : Int32))), .val (.ref b1), .unset, .unset, .unset] [(.ref b1), (.double (4629137466983448576 : UInt64)), (.ref b93), (.ref b93)])) rfl (by rw [hml]; rfl) (Steps.refl _) (a := b93) (argsL := [(.double (4629137466983448576 : UInt64)), (.ref b1)]) (rest := [(.ref b93)]) (lenOf pd_1 rfl) rfl (by show 2 * 0 + _ ≤ _; exact Nat.le_of_eq rfl) (hb hby at_241) (fun _ _ => ⟨rfl, e93, (by decide : 2 + 0 ≤ _), (by decide : 21 + 0 ≤ _)⟩)
  dsimp only [Pt.U, Pt.locs, Pt.cells, Pt.slots] at X97 l97 y97 z97 st97 hQ97
  rw [l97, y97, z97] at X97
  obtain ⟨N97, KK97, hR97⟩ := hQ97
  have NA97 := Fr.app N92 N97
  have f98 := f95.keep KK97 (ninS ne94 nin0)
  have f99 := E_b93.keep KK97
  have K103 : Keep h0 T97.heap [] := K96.trans KK97 (allS (Or.inr sz_b93) all0)
  have Z103 : n0 ≤ T97.heap.size := Nat.le_trans Z96 KK97.1
  obtain ⟨rfl, v97_0_0, v97_0_1, v97_0_2, v97_0_3⟩ := hR97
  refine Goes.back st97 ?_
  show Goes _ _ _ _ _ _ _ (T97.setTop (mkF m 244 #[.val (.int p0), .val (.int p1), .val (.int p2), .val (.int m3), .val (.int b4), .val (.int ((p2 &&& (2147483647 : Int32)) % (3 : Int32))), .val (.ref b1), .unset, .unset, .unset] [(.ref b93)]))
  refine Goes.step (fun _ k => XS.astore X97.here hx rfl (hb hby at_244) rfl rfl (l' := #[.val (.int p0), .val (.int p1), .val (.int p2), .val (.int m3), .val (.int b4), .val (.int ((p2 &&& (2147483647 : Int32)) % (3 : Int32))), .val (.ref b1), .val (.ref b93), .unset, .unset]) rfl k) ?_
  show Goes _ _ _ _ _ _ _ (T97.setTop (mkF m 246 #[.val (.int p0), .val (.int p1), .val (.int p2), .val (.int m3), .val (.int b4), .val (.int ((p2 &&& (2147483647 : Int32)) % (3 : Int32))), .val (.ref b1), .val (.ref b93), .unset, .unset] []))
  refine Goes.step (fun _ k => XS.bipush X97.here hx rfl (hb hby at_246) k) ?_
  show Goes _ _ _ _ _ _ _ (T97.setTop (mkF m 248 #[.val (.int p0), .val (.int p1), .val (.int p2), .val (.int m3), .val (.int b4), .val (.int ((p2 &&& (2147483647 : Int32)) % (3 : Int32))), .val (.ref b1), .val (.ref b93), .unset, .unset] [(.int (8 : Int32))]))
  obtain ⟨T104, h104, k104, X104, e104, E104, A104, st104⟩ := newP X97 hx hZ (hw _ (List.mem_of_getElem? (i := 2) rfl)) rfl (g := (mkF m 248 #[.val (.int p0), .val (.int p1), .val (.int p2), .val (.int m3), .val (.int b4), .val (.int ((p2 &&& (2147483647 : Int32)) % (3 : Int32))), .val (.ref b1), .val (.ref b93), .unset, .unset] [(.int (8 : Int32))])) rfl (hb hby at_248) rfl (by decide) (cap := 8) (by decide) (by decide) (by decide) (by decide)
  obtain ⟨b104, g104⟩ : ∃ z, z = T97.heap.size := ⟨_, rfl⟩
  rw [← g104] at A104 st104
  refine Goes.step st104 ?_
  have g_b104 : n0 ≤ b104 := Nat.le_trans Z103 (Nat.le_of_eq g104.symm)
  have sz_b104 : h0.size ≤ b104 := Nat.le_trans K103.1 (Nat.le_of_eq g104.symm)
  have ne105 : b1 ≠ b104 := Nat.ne_of_lt (Nat.lt_of_lt_of_le f98.lt (Nat.le_of_eq g104.symm))
  have ne106 : b93 ≠ b104 := Nat.ne_of_lt (Nat.lt_of_lt_of_le v97_0_3.lt (Nat.le_of_eq g104.symm))
  have f107 := f98.ext E104
  have f108 := v97_0_3.ext E104
  have f109 := v97_0_0.ext E104
  have f110 := v97_0_1.ext E104
  have f111 := v97_0_2.ext E104
  have K112 : Keep h0 h104 [] := K103.ext E104
  have Z112 : n0 ≤ h104.size := Nat.le_trans Z103 E104.1
  have V_b104 : Arv Z h104 b104 k104 .double (8 : Int32) [(.double (0 : UInt64)), (.double (0 : UInt64)), (.double (0 : UInt64)), (.double (0 : UInt64)), (.double (0 : UInt64)), (.double (0 : UInt64)), (.double (0 : UInt64)), (.double (0 : UInt64))] (.double (0 : UInt64)) := (Arv.new A104 (by decide)).pad (pad_rep [] (.double (0 : UInt64)) 8)
  show Goes _ _ _ _ _ _ _ (T104.setTop (mkF m 250 #[.val (.int p0), .val (.int p1), .val (.int p2), .val (.int m3), .val (.int b4), .val (.int ((p2 &&& (2147483647 : Int32)) % (3 : Int32))), .val (.ref b1), .val (.ref b93), .unset, .unset] [(.ref b104)]))
  refine Goes.step (fun _ k => XS.dup X104.here hx rfl (hb hby at_250) rfl rfl k) ?_
  show Goes _ _ _ _ _ _ _ (T104.setTop (mkF m 251 #[.val (.int p0), .val (.int p1), .val (.int p2), .val (.int m3), .val (.int b4), .val (.int ((p2 &&& (2147483647 : Int32)) % (3 : Int32))), .val (.ref b1), .val (.ref b93), .unset, .unset] [(.ref b104), (.ref b104)]))
  refine Goes.step (fun _ k => XS.iconst X104.here hx rfl (hb hby at_251) k) ?_
  show Goes _ _ _ _ _ _ _ (T104.setTop (mkF m 252 #[.val (.int p0), .val (.int p1), .val (.int p2), .val (.int m3), .val (.int b4), .val (.int ((p2 &&& (2147483647 : Int32)) % (3 : Int32))), .val (.ref b1), .val (.ref b93), .unset, .unset] [(.int (0 : Int32)), (.ref b104), (.ref b104)]))
  refine Goes.step (fun _ k => X104.ldc2DoubleC hx hown (mvT hZ (hw _ (List.mem_of_getElem? (i := 23) rfl))) (g := (mkF m 252 #[.val (.int p0), .val (.int p1), .val (.int p2), .val (.int m3), .val (.int b4), .val (.int ((p2 &&& (2147483647 : Int32)) % (3 : Int32))), .val (.ref b1), .val (.ref b93), .unset, .unset] [(.int (0 : Int32)), (.ref b104), (.ref b104)])) rfl (hb hby at_252) _ k) ?_
  show Goes _ _ _ _ _ _ _ (T104.setTop (mkF m 255 #[.val (.int p0), .val (.int p1), .val (.int p2), .val (.int m3), .val (.int b4), .val (.int ((p2 &&& (2147483647 : Int32)) % (3 : Int32))), .val (.ref b1), .val (.ref b93), .unset, .unset] [(.double (13830554455654793216 : UInt64)), (.int (0 : Int32)), (.ref b104), (.ref b104)]))
  obtain ⟨cl113, Ar113, q113, S113, P113, H113, G113⟩ := id V_b104
  have hin113 : ¬ ((0 : Int32) < 0 ∨ cl113.slots.size ≤ ((0 : Int32)).toNatClampNeg) := inb_of S113 ⟨by decide, by decide⟩
  obtain ⟨T114, h114, X114, e114, W114, st114⟩ := stD X104 hx hZ e104 Ar113 (j := (0 : Int32)) hin113 (g := (mkF m 255 #[.val (.int p0), .val (.int p1), .val (.int p2), .val (.int m3), .val (.int b4), .val (.int ((p2 &&& (2147483647 : Int32)) % (3 : Int32))), .val (.ref b1), .val (.ref b93), .unset, .unset] [(.double (13830554455654793216 : UInt64)), (.int (0 : Int32)), (.ref b104), (.ref b104)])) rfl rfl (hb hby at_255)
  refine Goes.step st114 ?_
  have V114 := Arv.set Ar113 q113 S113 P113 H113 G113 rfl W114 0 rfl (Nat.le_of_ble_eq_true rfl)
  have f115 := f107.other W114 ne105
  have f116 := f108.wr W114
  have f117 := f109.other W114 (Or.inl ne106)
  have f118 := f110.other W114 (Or.inl ne106)
  have f119 := f111.other W114 (Or.inl ne106)
  have f120 := V114
  have K121 : Keep h0 h114 [] := K112.wr W114 (Or.inr sz_b104)
  have Z121 : n0 ≤ h114.size := by rw [Wr.size W114]; exact Z112
  have N121 := Fr.snoc X114 NA97 g_b104
  show Goes _ _ _ _ _ _ _ (T114.setTop (mkF m 256 #[.val (.int p0), .val (.int p1), .val (.int p2), .val (.int m3), .val (.int b4), .val (.int ((p2 &&& (2147483647 : Int32)) % (3 : Int32))), .val (.ref b1), .val (.ref b93), .unset, .unset] [(.ref b104)]))
  refine Goes.step (fun _ k => XS.dup X114.here hx rfl (hb hby at_256) rfl rfl k) ?_
  show Goes _ _ _ _ _ _ _ (T114.setTop (mkF m 257 #[.val (.int p0), .val (.int p1), .val (.int p2), .val (.int m3), .val (.int b4), .val (.int ((p2 &&& (2147483647 : Int32)) % (3 : Int32))), .val (.ref b1), .val (.ref b93), .unset, .unset] [(.ref b104), (.ref b104)]))
  refine Goes.step (fun _ k => XS.iconst X114.here hx rfl (hb hby at_257) k) ?_
  show Goes _ _ _ _ _ _ _ (T114.setTop (mkF m 258 #[.val (.int p0), .val (.int p1), .val (.int p2), .val (.int m3), .val (.int b4), .val (.int ((p2 &&& (2147483647 : Int32)) % (3 : Int32))), .val (.ref b1), .val (.ref b93), .unset, .unset] [(.int (1 : Int32)), (.ref b104), (.ref b104)]))
  refine Goes.step (fun _ k => X114.ldc2DoubleC hx hown (mvT hZ (hw _ (List.mem_of_getElem? (i := 23) rfl))) (g := (mkF m 258 #[.val (.int p0), .val (.int p1), .val (.int p2), .val (.int m3), .val (.int b4), .val (.int ((p2 &&& (2147483647 : Int32)) % (3 : Int32))), .val (.ref b1), .val (.ref b93), .unset, .unset] [(.int (1 : Int32)), (.ref b104), (.ref b104)])) rfl (hb hby at_258) _ k) ?_
  show Goes _ _ _ _ _ _ _ (T114.setTop (mkF m 261 #[.val (.int p0), .val (.int p1), .val (.int p2), .val (.int m3), .val (.int b4), .val (.int ((p2 &&& (2147483647 : Int32)) % (3 : Int32))), .val (.ref b1), .val (.ref b93), .unset, .unset] [(.double (13830554455654793216 : UInt64)), (.int (1 : Int32)), (.ref b104), (.ref b104)]))
  obtain ⟨cl122, Ar122, q122, S122, P122, H122, G122⟩ := id f120
  have hin122 : ¬ ((1 : Int32) < 0 ∨ cl122.slots.size ≤ ((1 : Int32)).toNatClampNeg) := inb_of S122 ⟨by decide, by decide⟩
  obtain ⟨T123, h123, X123, e123, W123, st123⟩ := stD X114 hx hZ e114 Ar122 (j := (1 : Int32)) hin122 (g := (mkF m 261 #[.val (.int p0), .val (.int p1), .val (.int p2), .val (.int m3), .val (.int b4), .val (.int ((p2 &&& (2147483647 : Int32)) % (3 : Int32))), .val (.ref b1), .val (.ref b93), .unset, .unset] [(.double (13830554455654793216 : UInt64)), (.int (1 : Int32)), (.ref b104), (.ref b104)])) rfl rfl (hb hby at_261)
  refine Goes.step st123 ?_
  have V123 := Arv.set Ar122 q122 S122 P122 H122 G122 rfl W123 1 rfl (Nat.le_of_ble_eq_true rfl)
  have f124 := f115.other W123 ne105
  have f125 := f116.wr W123
  have f126 := f117.other W123 (Or.inl ne106)
  have f127 := f118.other W123 (Or.inl ne106)
  have f128 := f119.other W123 (Or.inl ne106)
  have f129 := V123
  have K130 : Keep h0 h123 [] := K121.wr W123 (Or.inr sz_b104)
  have Z130 : n0 ≤ h123.size := by rw [Wr.size W123]; exact Z121
  have N130 := Fr.snoc X123 N121 g_b104
  show Goes _ _ _ _ _ _ _ (T123.setTop (mkF m 262 #[.val (.int p0), .val (.int p1), .val (.int p2), .val (.int m3), .val (.int b4), .val (.int ((p2 &&& (2147483647 : Int32)) % (3 : Int32))), .val (.ref b1), .val (.ref b93), .unset, .unset] [(.ref b104)]))
  refine Goes.step (fun _ k => XS.dup X123.here hx rfl (hb hby at_262) rfl rfl k) ?_
  show Goes _ _ _ _ _ _ _ (T123.setTop (mkF m 263 #[.val (.int p0), .val (.int p1), .val (.int p2), .val (.int m3), .val (.int b4), .val (.int ((p2 &&& (2147483647 : Int32)) % (3 : Int32))), .val (.ref b1), .val (.ref b93), .unset, .unset] [(.ref b104), (.ref b104)]))
  refine Goes.step (fun _ k => XS.iconst X123.here hx rfl (hb hby at_263) k) ?_
  show Goes _ _ _ _ _ _ _ (T123.setTop (mkF m 264 #[.val (.int p0), .val (.int p1), .val (.int p2), .val (.int m3), .val (.int b4), .val (.int ((p2 &&& (2147483647 : Int32)) % (3 : Int32))), .val (.ref b1), .val (.ref b93), .unset, .unset] [(.int (2 : Int32)), (.ref b104), (.ref b104)]))
  refine Goes.step (fun _ k => X123.ldc2DoubleC hx hown (mvT hZ (hw _ (List.mem_of_getElem? (i := 23) rfl))) (g := (mkF m 264 #[.val (.int p0), .val (.int p1), .val (.int p2), .val (.int m3), .val (.int b4), .val (.int ((p2 &&& (2147483647 : Int32)) % (3 : Int32))), .val (.ref b1), .val (.ref b93), .unset, .unset] [(.int (2 : Int32)), (.ref b104), (.ref b104)])) rfl (hb hby at_264) _ k) ?_
  show Goes _ _ _ _ _ _ _ (T123.setTop (mkF m 267 #[.val (.int p0), .val (.int p1), .val (.int p2), .val (.int m3), .val (.int b4), .val (.int ((p2 &&& (2147483647 : Int32)) % (3 : Int32))), .val (.ref b1), .val (.ref b93), .unset, .unset] [(.double (13830554455654793216 : UInt64)), (.int (2 : Int32)), (.ref b104), (.ref b104)]))
  obtain ⟨cl131, Ar131, q131, S131, P131, H131, G131⟩ := id f129
  have hin131 : ¬ ((2 : Int32) < 0 ∨ cl131.slots.size ≤ ((2 : Int32)).toNatClampNeg) := inb_of S131 ⟨by decide, by decide⟩
  obtain ⟨T132, h132, X132, e132, W132, st132⟩ := stD X123 hx hZ e123 Ar131 (j := (2 : Int32)) hin131 (g := (mkF m 267 #[.val (.int p0), .val (.int p1), .val (.int p2), .val (.int m3), .val (.int b4), .val (.int ((p2 &&& (2147483647 : Int32)) % (3 : Int32))), .val (.ref b1), .val (.ref b93), .unset, .unset] [(.double (13830554455654793216 : UInt64)), (.int (2 : Int32)), (.ref b104), (.ref b104)])) rfl rfl (hb hby at_267)
  refine Goes.step st132 ?_
  have V132 := Arv.set Ar131 q131 S131 P131 H131 G131 rfl W132 2 rfl (Nat.le_of_ble_eq_true rfl)
  have f133 := f124.other W132 ne105
  have f134 := f125.wr W132
  have f135 := f126.other W132 (Or.inl ne106)
  have f136 := f127.other W132 (Or.inl ne106)
  have f137 := f128.other W132 (Or.inl ne106)
  have f138 := V132
  have K139 : Keep h0 h132 [] := K130.wr W132 (Or.inr sz_b104)
  have Z139 : n0 ≤ h132.size := by rw [Wr.size W132]; exact Z130
  have N139 := Fr.snoc X132 N130 g_b104
  show Goes _ _ _ _ _ _ _ (T132.setTop (mkF m 268 #[.val (.int p0), .val (.int p1), .val (.int p2), .val (.int m3), .val (.int b4), .val (.int ((p2 &&& (2147483647 : Int32)) % (3 : Int32))), .val (.ref b1), .val (.ref b93), .unset, .unset] [(.ref b104)]))
  refine Goes.step (fun _ k => XS.dup X132.here hx rfl (hb hby at_268) rfl rfl k) ?_
  show Goes _ _ _ _ _ _ _ (T132.setTop (mkF m 269 #[.val (.int p0), .val (.int p1), .val (.int p2), .val (.int m3), .val (.int b4), .val (.int ((p2 &&& (2147483647 : Int32)) % (3 : Int32))), .val (.ref b1), .val (.ref b93), .unset, .unset] [(.ref b104), (.ref b104)]))
  refine Goes.step (fun _ k => XS.iconst X132.here hx rfl (hb hby at_269) k) ?_
  show Goes _ _ _ _ _ _ _ (T132.setTop (mkF m 270 #[.val (.int p0), .val (.int p1), .val (.int p2), .val (.int m3), .val (.int b4), .val (.int ((p2 &&& (2147483647 : Int32)) % (3 : Int32))), .val (.ref b1), .val (.ref b93), .unset, .unset] [(.int (3 : Int32)), (.ref b104), (.ref b104)]))
  refine Goes.step (fun _ k => X132.ldc2DoubleC hx hown (mvT hZ (hw _ (List.mem_of_getElem? (i := 23) rfl))) (g := (mkF m 270 #[.val (.int p0), .val (.int p1), .val (.int p2), .val (.int m3), .val (.int b4), .val (.int ((p2 &&& (2147483647 : Int32)) % (3 : Int32))), .val (.ref b1), .val (.ref b93), .unset, .unset] [(.int (3 : Int32)), (.ref b104), (.ref b104)])) rfl (hb hby at_270) _ k) ?_
  show Goes _ _ _ _ _ _ _ (T132.setTop (mkF m 273 #[.val (.int p0), .val (.int p1), .val (.int p2), .val (.int m3), .val (.int b4), .val (.int ((p2 &&& (2147483647 : Int32)) % (3 : Int32))), .val (.ref b1), .val (.ref b93), .unset, .unset] [(.double (13830554455654793216 : UInt64)), (.int (3 : Int32)), (.ref b104), (.ref b104)]))
  obtain ⟨cl140, Ar140, q140, S140, P140, H140, G140⟩ := id f138
  have hin140 : ¬ ((3 : Int32) < 0 ∨ cl140.slots.size ≤ ((3 : Int32)).toNatClampNeg) := inb_of S140 ⟨by decide, by decide⟩
  obtain ⟨T141, h141, X141, e141, W141, st141⟩ := stD X132 hx hZ e132 Ar140 (j := (3 : Int32)) hin140 (g := (mkF m 273 #[.val (.int p0), .val (.int p1), .val (.int p2), .val (.int m3), .val (.int b4), .val (.int ((p2 &&& (2147483647 : Int32)) % (3 : Int32))), .val (.ref b1), .val (.ref b93), .unset, .unset] [(.double (13830554455654793216 : UInt64)), (.int (3 : Int32)), (.ref b104), (.ref b104)])) rfl rfl (hb hby at_273)
  refine Goes.step st141 ?_
  have V141 := Arv.set Ar140 q140 S140 P140 H140 G140 rfl W141 3 rfl (Nat.le_of_ble_eq_true rfl)
  have f142 := f133.other W141 ne105
  have f143 := f134.wr W141
  have f144 := f135.other W141 (Or.inl ne106)
  have f145 := f136.other W141 (Or.inl ne106)
  have f146 := f137.other W141 (Or.inl ne106)
  have f147 := V141
  have K148 : Keep h0 h141 [] := K139.wr W141 (Or.inr sz_b104)
  have Z148 : n0 ≤ h141.size := by rw [Wr.size W141]; exact Z139
  have N148 := Fr.snoc X141 N139 g_b104
  show Goes _ _ _ _ _ _ _ (T141.setTop (mkF m 274 #[.val (.int p0), .val (.int p1), .val (.int p2), .val (.int m3), .val (.int b4), .val (.int ((p2 &&& (2147483647 : Int32)) % (3 : Int32))), .val (.ref b1), .val (.ref b93), .unset, .unset] [(.ref b104)]))
  refine Goes.step (fun _ k => XS.dup X141.here hx rfl (hb hby at_274) rfl rfl k) ?_
  show Goes _ _ _ _ _ _ _ (T141.setTop (mkF m 275 #[.val (.int p0), .val (.int p1), .val (.int p2), .val (.int m3), .val (.int b4), .val (.int ((p2 &&& (2147483647 : Int32)) % (3 : Int32))), .val (.ref b1), .val (.ref b93), .unset, .unset] [(.ref b104), (.ref b104)]))
  refine Goes.step (fun _ k => XS.iconst X141.here hx rfl (hb hby at_275) k) ?_
  show Goes _ _ _ _ _ _ _ (T141.setTop (mkF m 276 #[.val (.int p0), .val (.int p1), .val (.int p2), .val (.int m3), .val (.int b4), .val (.int ((p2 &&& (2147483647 : Int32)) % (3 : Int32))), .val (.ref b1), .val (.ref b93), .unset, .unset] [(.int (4 : Int32)), (.ref b104), (.ref b104)]))
  refine Goes.step (fun _ k => X141.ldc2DoubleC hx hown (mvT hZ (hw _ (List.mem_of_getElem? (i := 23) rfl))) (g := (mkF m 276 #[.val (.int p0), .val (.int p1), .val (.int p2), .val (.int m3), .val (.int b4), .val (.int ((p2 &&& (2147483647 : Int32)) % (3 : Int32))), .val (.ref b1), .val (.ref b93), .unset, .unset] [(.int (4 : Int32)), (.ref b104), (.ref b104)])) rfl (hb hby at_276) _ k) ?_
  show Goes _ _ _ _ _ _ _ (T141.setTop (mkF m 279 #[.val (.int p0), .val (.int p1), .val (.int p2), .val (.int m3), .val (.int b4), .val (.int ((p2 &&& (2147483647 : Int32)) % (3 : Int32))), .val (.ref b1), .val (.ref b93), .unset, .unset] [(.double (13830554455654793216 : UInt64)), (.int (4 : Int32)), (.ref b104), (.ref b104)]))
  obtain ⟨cl149, Ar149, q149, S149, P149, H149, G149⟩ := id f147
  have hin149 : ¬ ((4 : Int32) < 0 ∨ cl149.slots.size ≤ ((4 : Int32)).toNatClampNeg) := inb_of S149 ⟨by decide, by decide⟩
  obtain ⟨T150, h150, X150, e150, W150, st150⟩ := stD X141 hx hZ e141 Ar149 (j := (4 : Int32)) hin149 (g := (mkF m 279 #[.val (.int p0), .val (.int p1), .val (.int p2), .val (.int m3), .val (.int b4), .val (.int ((p2 &&& (2147483647 : Int32)) % (3 : Int32))), .val (.ref b1), .val (.ref b93), .unset, .unset] [(.double (13830554455654793216 : UInt64)), (.int (4 : Int32)), (.ref b104), (.ref b104)])) rfl rfl (hb hby at_279)
  refine Goes.step st150 ?_
  have V150 := Arv.set Ar149 q149 S149 P149 H149 G149 rfl W150 4 rfl (Nat.le_of_ble_eq_true rfl)
  have f151 := f142.other W150 ne105
  have f152 := f143.wr W150
  have f153 := f144.other W150 (Or.inl ne106)
  have f154 := f145.other W150 (Or.inl ne106)
  have f155 := f146.other W150 (Or.inl ne106)
  have f156 := V150
  have K157 : Keep h0 h150 [] := K148.wr W150 (Or.inr sz_b104)
  have Z157 : n0 ≤ h150.size := by rw [Wr.size W150]; exact Z148
  have N157 := Fr.snoc X150 N148 g_b104
  show Goes _ _ _ _ _ _ _ (T150.setTop (mkF m 280 #[.val (.int p0), .val (.int p1), .val (.int p2), .val (.int m3), .val (.int b4), .val (.int ((p2 &&& (2147483647 : Int32)) % (3 : Int32))), .val (.ref b1), .val (.ref b93), .unset, .unset] [(.ref b104)]))
  refine Goes.step (fun _ k => XS.dup X150.here hx rfl (hb hby at_280) rfl rfl k) ?_
  show Goes _ _ _ _ _ _ _ (T150.setTop (mkF m 281 #[.val (.int p0), .val (.int p1), .val (.int p2), .val (.int m3), .val (.int b4), .val (.int ((p2 &&& (2147483647 : Int32)) % (3 : Int32))), .val (.ref b1), .val (.ref b93), .unset, .unset] [(.ref b104), (.ref b104)]))
  refine Goes.step (fun _ k => XS.iconst X150.here hx rfl (hb hby at_281) k) ?_
  show Goes _ _ _ _ _ _ _ (T150.setTop (mkF m 282 #[.val (.int p0), .val (.int p1), .val (.int p2), .val (.int m3), .val (.int b4), .val (.int ((p2 &&& (2147483647 : Int32)) % (3 : Int32))), .val (.ref b1), .val (.ref b93), .unset, .unset] [(.int (5 : Int32)), (.ref b104), (.ref b104)]))
  refine Goes.step (fun _ k => X150.ldc2DoubleC hx hown (mvT hZ (hw _ (List.mem_of_getElem? (i := 23) rfl))) (g := (mkF m 282 #[.val (.int p0), .val (.int p1), .val (.int p2), .val (.int m3), .val (.int b4), .val (.int ((p2 &&& (2147483647 : Int32)) % (3 : Int32))), .val (.ref b1), .val (.ref b93), .unset, .unset] [(.int (5 : Int32)), (.ref b104), (.ref b104)])) rfl (hb hby at_282) _ k) ?_
  show Goes _ _ _ _ _ _ _ (T150.setTop (mkF m 285 #[.val (.int p0), .val (.int p1), .val (.int p2), .val (.int m3), .val (.int b4), .val (.int ((p2 &&& (2147483647 : Int32)) % (3 : Int32))), .val (.ref b1), .val (.ref b93), .unset, .unset] [(.double (13830554455654793216 : UInt64)), (.int (5 : Int32)), (.ref b104), (.ref b104)]))
  obtain ⟨cl158, Ar158, q158, S158, P158, H158, G158⟩ := id f156
  have hin158 : ¬ ((5 : Int32) < 0 ∨ cl158.slots.size ≤ ((5 : Int32)).toNatClampNeg) := inb_of S158 ⟨by decide, by decide⟩
  obtain ⟨T159, h159, X159, e159, W159, st159⟩ := stD X150 hx hZ e150 Ar158 (j := (5 : Int32)) hin158 (g := (mkF m 285 #[.val (.int p0), .val (.int p1), .val (.int p2), .val (.int m3), .val (.int b4), .val (.int ((p2 &&& (2147483647 : Int32)) % (3 : Int32))), .val (.ref b1), .val (.ref b93), .unset, .unset] [(.double (13830554455654793216 : UInt64)), (.int (5 : Int32)), (.ref b104), (.ref b104)])) rfl rfl (hb hby at_285)
  refine Goes.step st159 ?_
  have V159 := Arv.set Ar158 q158 S158 P158 H158 G158 rfl W159 5 rfl (Nat.le_of_ble_eq_true rfl)
  have f160 := f151.other W159 ne105
  have f161 := f152.wr W159
  have f162 := f153.other W159 (Or.inl ne106)
  have f163 := f154.other W159 (Or.inl ne106)
  have f164 := f155.other W159 (Or.inl ne106)
  have f165 := V159
  have K166 : Keep h0 h159 [] := K157.wr W159 (Or.inr sz_b104)
  have Z166 : n0 ≤ h159.size := by rw [Wr.size W159]; exact Z157
  have N166 := Fr.snoc X159 N157 g_b104
  show Goes _ _ _ _ _ _ _ (T159.setTop (mkF m 286 #[.val (.int p0), .val (.int p1), .val (.int p2), .val (.int m3), .val (.int b4), .val (.int ((p2 &&& (2147483647 : Int32)) % (3 : Int32))), .val (.ref b1), .val (.ref b93), .unset, .unset] [(.ref b104)]))
  refine Goes.step (fun _ k => XS.dup X159.here hx rfl (hb hby at_286) rfl rfl k) ?_
  show Goes _ _ _ _ _ _ _ (T159.setTop (mkF m 287 #[.val (.int p0), .val (.int p1), .val (.int p2), .val (.int m3), .val (.int b4), .val (.int ((p2 &&& (2147483647 : Int32)) % (3 : Int32))), .val (.ref b1), .val (.ref b93), .unset, .unset] [(.ref b104), (.ref b104)]))
  refine Goes.step (fun _ k => XS.bipush X159.here hx rfl (hb hby at_287) k) ?_
  show Goes _ _ _ _ _ _ _ (T159.setTop (mkF m 289 #[.val (.int p0), .val (.int p1), .val (.int p2), .val (.int m3), .val (.int b4), .val (.int ((p2 &&& (2147483647 : Int32)) % (3 : Int32))), .val (.ref b1), .val (.ref b93), .unset, .unset] [(.int (6 : Int32)), (.ref b104), (.ref b104)]))
  refine Goes.step (fun _ k => X159.ldc2DoubleC hx hown (mvT hZ (hw _ (List.mem_of_getElem? (i := 23) rfl))) (g := (mkF m 289 #[.val (.int p0), .val (.int p1), .val (.int p2), .val (.int m3), .val (.int b4), .val (.int ((p2 &&& (2147483647 : Int32)) % (3 : Int32))), .val (.ref b1), .val (.ref b93), .unset, .unset] [(.int (6 : Int32)), (.ref b104), (.ref b104)])) rfl (hb hby at_289) _ k) ?_
  show Goes _ _ _ _ _ _ _ (T159.setTop (mkF m 292 #[.val (.int p0), .val (.int p1), .val (.int p2), .val (.int m3), .val (.int b4), .val (.int ((p2 &&& (2147483647 : Int32)) % (3 : Int32))), .val (.ref b1), .val (.ref b93), .unset, .unset] [(.double (13830554455654793216 : UInt64)), (.int (6 : Int32)), (.ref b104), (.ref b104)]))
  obtain ⟨cl167, Ar167, q167, S167, P167, H167, G167⟩ := id f165
  have hin167 : ¬ ((6 : Int32) < 0 ∨ cl167.slots.size ≤ ((6 : Int32)).toNatClampNeg) := inb_of S167 ⟨by decide, by decide⟩
  obtain ⟨T168, h168, X168, e168, W168, st168⟩ := stD X159 hx hZ e159 Ar167 (j := (6 : Int32)) hin167 (g := (mkF m 292 #[.val (.int p0), .val (.int p1), .val (.int p2), .val (.int m3), .val (.int b4), .val (.int ((p2 &&& (2147483647 : Int32)) % (3 : Int32))), .val (.ref b1), .val (.ref b93), .unset, .unset] [(.double (13830554455654793216 : UInt64)), (.int (6 : Int32)), (.ref b104), (.ref b104)])) rfl rfl (hb hby at_292)
  refine Goes.step st168 ?_
  have V168 := Arv.set Ar167 q167 S167 P167 H167 G167 rfl W168 6 rfl (Nat.le_of_ble_eq_true rfl)
  have f169 := f160.other W168 ne105
  have f170 := f161.wr W168
  have f171 := f162.other W168 (Or.inl ne106)
  have f172 := f163.other W168 (Or.inl ne106)
  have f173 := f164.other W168 (Or.inl ne106)
  have f174 := V168
  have K175 : Keep h0 h168 [] := K166.wr W168 (Or.inr sz_b104)
  have Z175 : n0 ≤ h168.size := by rw [Wr.size W168]; exact Z166
  have N175 := Fr.snoc X168 N166 g_b104
  show Goes _ _ _ _ _ _ _ (T168.setTop (mkF m 293 #[.val (.int p0), .val (.int p1), .val (.int p2), .val (.int m3), .val (.int b4), .val (.int ((p2 &&& (2147483647 : Int32)) % (3 : Int32))), .val (.ref b1), .val (.ref b93), .unset, .unset] [(.ref b104)]))
  refine Goes.step (fun _ k => XS.dup X168.here hx rfl (hb hby at_293) rfl rfl k) ?_
  show Goes _ _ _ _ _ _ _ (T168.setTop (mkF m 294 #[.val (.int p0), .val (.int p1), .val (.int p2), .val (.int m3), .val (.int b4), .val (.int ((p2 &&& (2147483647 : Int32)) % (3 : Int32))), .val (.ref b1), .val (.ref b93), .unset, .unset] [(.ref b104), (.ref b104)]))
  refine Goes.step (fun _ k => XS.bipush X168.here hx rfl (hb hby at_294) k) ?_
  show Goes _ _ _ _ _ _ _ (T168.setTop (mkF m 296 #[.val (.int p0), .val (.int p1), .val (.int p2), .val (.int m3), .val (.int b4), .val (.int ((p2 &&& (2147483647 : Int32)) % (3 : Int32))), .val (.ref b1), .val (.ref b93), .unset, .unset] [(.int (7 : Int32)), (.ref b104), (.ref b104)]))
  refine Goes.step (fun _ k => X168.ldc2DoubleC hx hown (mvT hZ (hw _ (List.mem_of_getElem? (i := 23) rfl))) (g := (mkF m 296 #[.val (.int p0), .val (.int p1), .val (.int p2), .val (.int m3), .val (.int b4), .val (.int ((p2 &&& (2147483647 : Int32)) % (3 : Int32))), .val (.ref b1), .val (.ref b93), .unset, .unset] [(.int (7 : Int32)), (.ref b104), (.ref b104)])) rfl (hb hby at_296) _ k) ?_
  show Goes _ _ _ _ _ _ _ (T168.setTop (mkF m 299 #[.val (.int p0), .val (.int p1), .val (.int p2), .val (.int m3), .val (.int b4), .val (.int ((p2 &&& (2147483647 : Int32)) % (3 : Int32))), .val (.ref b1), .val (.ref b93), .unset, .unset] [(.double (13830554455654793216 : UInt64)), (.int (7 : Int32)), (.ref b104), (.ref b104)]))
  obtain ⟨cl176, Ar176, q176, S176, P176, H176, G176⟩ := id f174
  have hin176 : ¬ ((7 : Int32) < 0 ∨ cl176.slots.size ≤ ((7 : Int32)).toNatClampNeg) := inb_of S176 ⟨by decide, by decide⟩
  obtain ⟨T177, h177, X177, e177, W177, st177⟩ := stD X168 hx hZ e168 Ar176 (j := (7 : Int32)) hin176 (g := (mkF m 299 #[.val (.int p0), .val (.int p1), .val (.int p2), .val (.int m3), .val (.int b4), .val (.int ((p2 &&& (2147483647 : Int32)) % (3 : Int32))), .val (.ref b1), .val (.ref b93), .unset, .unset] [(.double (13830554455654793216 : UInt64)), (.int (7 : Int32)), (.ref b104), (.ref b104)])) rfl rfl (hb hby at_299)
  refine Goes.step st177 ?_
  have V177 := Arv.set Ar176 q176 S176 P176 H176 G176 rfl W177 7 rfl (Nat.le_of_ble_eq_true rfl)
  have f178 := f169.other W177 ne105
  have f179 := f170.wr W177
  have f180 := f171.other W177 (Or.inl ne106)
  have f181 := f172.other W177 (Or.inl ne106)
  have f182 := f173.other W177 (Or.inl ne106)
  have f183 := V177
  have K184 : Keep h0 h177 [] := K175.wr W177 (Or.inr sz_b104)
  have Z184 : n0 ≤ h177.size := by rw [Wr.size W177]; exact Z175
  have N184 := Fr.snoc X177 N175 g_b104
  show Goes _ _ _ _ _ _ _ (T177.setTop (mkF m 300 #[.val (.int p0), .val (.int p1), .val (.int p2), .val (.int m3), .val (.int b4), .val (.int ((p2 &&& (2147483647 : Int32)) % (3 : Int32))), .val (.ref b1), .val (.ref b93), .unset, .unset] [(.ref b104)]))
  refine Goes.step (fun _ k => XS.astore X177.here hx rfl (hb hby at_300) rfl rfl (l' := #[.val (.int p0), .val (.int p1), .val (.int p2), .val (.int m3), .val (.int b4), .val (.int ((p2 &&& (2147483647 : Int32)) % (3 : Int32))), .val (.ref b1), .val (.ref b93), .val (.ref b104), .unset]) rfl k) ?_
  show Goes _ _ _ _ _ _ _ (T177.setTop (mkF m 302 #[.val (.int p0), .val (.int p1), .val (.int p2), .val (.int m3), .val (.int b4), .val (.int ((p2 &&& (2147483647 : Int32)) % (3 : Int32))), .val (.ref b1), .val (.ref b93), .val (.ref b104), .unset] []))
  generalize hg_i5 : ((p2 &&& (2147483647 : Int32)) % (3 : Int32)) = i5
  show Goes _ _ _ _ _ _ _ (T177.setTop (mkF m 302 #[.val (.int p0), .val (.int p1), .val (.int p2), .val (.int m3), .val (.int b4), .val (.int i5), .val (.ref b1), .val (.ref b93), .val (.ref b104), .unset] []))
  rcases own_three hg_i5 with rfl | rfl | rfl
  · show Goes _ _ _ _ _ _ _ (T177.setTop (mkF m 302 #[.val (.int p0), .val (.int p1), .val (.int p2), .val (.int m3), .val (.int b4), .val (.int (0 : Int32)), .val (.ref b1), .val (.ref b93), .val (.ref b104), .unset] []))
    refine Goes.step (fun _ k => XS.aload X177.here hx rfl (hb hby at_302) rfl rfl k) ?_
    show Goes _ _ _ _ _ _ _ (T177.setTop (mkF m 304 #[.val (.int p0), .val (.int p1), .val (.int p2), .val (.int m3), .val (.int b4), .val (.int (0 : Int32)), .val (.ref b1), .val (.ref b93), .val (.ref b104), .unset] [(.ref b93)]))
    refine Goes.step (fun _ k => XS.iload X177.here hx rfl (hb hby at_304) rfl  k) ?_
    show Goes _ _ _ _ _ _ _ (T177.setTop (mkF m 306 #[.val (.int p0), .val (.int p1), .val (.int p2), .val (.int m3), .val (.int b4), .val (.int (0 : Int32)), .val (.ref b1), .val (.ref b93), .val (.ref b104), .unset] [(.int (0 : Int32)), (.ref b93)]))
    refine Goes.step (fun _ k => XS.aload X177.here hx rfl (hb hby at_306) rfl rfl k) ?_
    show Goes _ _ _ _ _ _ _ (T177.setTop (mkF m 308 #[.val (.int p0), .val (.int p1), .val (.int p2), .val (.int m3), .val (.int b4), .val (.int (0 : Int32)), .val (.ref b1), .val (.ref b93), .val (.ref b104), .unset] [(.ref b104), (.int (0 : Int32)), (.ref b93)]))
    obtain ⟨cq185, kq185, q185a, q185b, q185c⟩ := isOf hZ e177 f179
    obtain ⟨_, _, ⟨T185, L185, k185, n185⟩, -, X185, ⟨Lc185, hQ185, l185, y185, z185⟩, st185⟩ := X177.virtualBack hx (y := (⟨"com/example/orbitloom/orbitloom/orbits/Track", "sample", "(I[D)V"⟩ : MethodName)) (z := (⟨"com/example/orbitloom/orbitloom/orbits/Track", "sample", "(I[D)V"⟩ : MethodName)) hown (mvT hZ (hw _ (List.mem_of_getElem? (i := 24) rfl))) (mvT hZ (hw _ (List.mem_of_getElem? (i := 25) rfl))) (notFace_of_selects (args := #[]) (mvT hZ (hw _ (List.mem_of_getElem? (i := 27) rfl)))) (mvT hZ (hw _ (List.mem_of_getElem? (i := 27) rfl))) (mvT hZ (hw _ (List.mem_of_getElem? (i := 26) rfl))) (by decide) (backOf (W := 0) (rm4_0 l Z a0 hw [] b93 b104 b1 k1 k104 [(.double (FP.i2d (((0 : Int32) * m3) + b4))), (.double (FP.i2d (((1 : Int32) * m3) + b4))), (.double (FP.i2d (((2 : Int32) * m3) + b4))), (.double (FP.i2d (((3 : Int32) * m3) + b4))), (.double (FP.i2d (((4 : Int32) * m3) + b4))), (.double (FP.i2d (((5 : Int32) * m3) + b4))), (.double (FP.i2d (((6 : Int32) * m3) + b4))), (.double (FP.i2d (((7 : Int32) * m3) + b4))), (.double (FP.i2d (((8 : Int32) * m3) + b4))), (.double (FP.i2d (((9 : Int32) * m3) + b4))), (.double (FP.i2d (((10 : Int32) * m3) + b4))), (.double (FP.i2d (((11 : Int32) * m3) + b4))), (.double (FP.i2d (((12 : Int32) * m3) + b4))), (.double (FP.i2d (((13 : Int32) * m3) + b4))), (.double (FP.i2d (((14 : Int32) * m3) + b4))), (.double (FP.i2d (((15 : Int32) * m3) + b4))), (.double (FP.i2d (((16 : Int32) * m3) + b4))), (.double (FP.i2d (((17 : Int32) * m3) + b4)))] [(.double (13830554455654793216 : UInt64)), (.double (13830554455654793216 : UInt64)), (.double (13830554455654793216 : UInt64)), (.double (13830554455654793216 : UInt64)), (.double (13830554455654793216 : UInt64)), (.double (13830554455654793216 : UInt64)), (.double (13830554455654793216 : UInt64)), (.double (13830554455654793216 : UInt64))] (.double (0 : UInt64)) (.double (0 : UInt64)) h177 n0 Z184 f181 f178 f183 rfl rfl g_b104 ne105 ne106) hZ (hw _ (List.mem_of_getElem? (i := 28) rfl)) (hw _ (List.mem_of_getElem? (i := 9) rfl)) (by decide) (by decide)) q185a q185c (g := (mkF m 308 #[.val (.int p0), .val (.int p1), .val (.int p2), .val (.int m3), .val (.int b4), .val (.int (0 : Int32)), .val (.ref b1), .val (.ref b93), .val (.ref b104), .unset] [(.ref b104), (.int (0 : Int32)), (.ref b93)])) rfl (by rw [hml]; rfl) (Steps.refl _) (argsL := [(.int (0 : Int32)), (.ref b104)]) (rest := []) (lenOf pd_3 rfl) rfl (by show 2 * 0 + _ ≤ _; exact Nat.le_of_eq rfl) (hb hby at_308) (fun _ _ => ⟨rfl, e177, (by decide : 3 + 0 ≤ _), (by decide : 29 + 0 ≤ _)⟩)
    dsimp only [Pt.U, Pt.locs, Pt.cells, Pt.slots] at X185 l185 y185 z185 st185 hQ185
    rw [l185, y185, z185] at X185
    obtain ⟨N185, KK185, rfl, VV185⟩ := hQ185
    have NA185 := Fr.app N184 N185
    have f186 := f178.keep KK185 (ninS ne105 nin0)
    have f187 := f179.keep KK185
    have f188 := f180.keep KK185 (ninS ne106 nin0)
    have f189 := f181.keep KK185 (ninS ne106 nin0)
    have f190 := f182.keep KK185 (ninS ne106 nin0)
    have K192 : Keep h0 T185.heap [] := K184.trans KK185 (allS (Or.inr sz_b104) all0)
    have Z192 : n0 ≤ T185.heap.size := Nat.le_trans Z184 KK185.1
    have V185 : Arv Z T185.heap b104 k104 .double (8 : Int32) [(.double (FP.i2d (((0 : Int32) * m3) + b4))), (.double (FP.i2d (((1 : Int32) * m3) + b4))), (.double (FP.i2d (((2 : Int32) * m3) + b4))), (.double (FP.i2d (((3 : Int32) * m3) + b4))), (.double (FP.i2d (((4 : Int32) * m3) + b4))), (.double (FP.i2d (((5 : Int32) * m3) + b4))), (.double (13830554455654793216 : UInt64)), (.double (13830554455654793216 : UInt64))] (.double (0 : UInt64)) := VV185
    refine Goes.back st185 ?_
    show Goes _ _ _ _ _ _ _ (T185.setTop (mkF m 311 #[.val (.int p0), .val (.int p1), .val (.int p2), .val (.int m3), .val (.int b4), .val (.int (0 : Int32)), .val (.ref b1), .val (.ref b93), .val (.ref b104), .unset] []))
    refine Goes.step (fun _ k => XS.iload X185.here hx rfl (hb hby at_311) rfl  k) ?_
    show Goes _ _ _ _ _ _ _ (T185.setTop (mkF m 313 #[.val (.int p0), .val (.int p1), .val (.int p2), .val (.int m3), .val (.int b4), .val (.int (0 : Int32)), .val (.ref b1), .val (.ref b93), .val (.ref b104), .unset] [(.int (0 : Int32))]))
    refine Goes.step (fun _ k => XS.bipush X185.here hx rfl (hb hby at_313) k) ?_
    show Goes _ _ _ _ _ _ _ (T185.setTop (mkF m 315 #[.val (.int p0), .val (.int p1), .val (.int p2), .val (.int m3), .val (.int b4), .val (.int (0 : Int32)), .val (.ref b1), .val (.ref b93), .val (.ref b104), .unset] [(.int (6 : Int32)), (.int (0 : Int32))]))
    refine Goes.step (fun _ k => XS.imul X185.here hx rfl (hb hby at_315) rfl k) ?_
    show Goes _ _ _ _ _ _ _ (T185.setTop (mkF m 316 #[.val (.int p0), .val (.int p1), .val (.int p2), .val (.int m3), .val (.int b4), .val (.int (0 : Int32)), .val (.ref b1), .val (.ref b93), .val (.ref b104), .unset] [(.int (0 : Int32))]))
    refine Goes.step (fun _ k => XS.istore X185.here hx rfl (hb hby at_316) rfl (l' := #[.val (.int p0), .val (.int p1), .val (.int p2), .val (.int m3), .val (.int b4), .val (.int (0 : Int32)), .val (.ref b1), .val (.ref b93), .val (.ref b104), .val (.int (0 : Int32))]) rfl k) ?_
    show Goes _ _ _ _ _ _ _ (T185.setTop (mkF m 318 #[.val (.int p0), .val (.int p1), .val (.int p2), .val (.int m3), .val (.int b4), .val (.int (0 : Int32)), .val (.ref b1), .val (.ref b93), .val (.ref b104), .val (.int (0 : Int32))] []))
    refine Goes.step (fun _ k => XS.aload X185.here hx rfl (hb hby at_318) rfl rfl k) ?_
    show Goes _ _ _ _ _ _ _ (T185.setTop (mkF m 320 #[.val (.int p0), .val (.int p1), .val (.int p2), .val (.int m3), .val (.int b4), .val (.int (0 : Int32)), .val (.ref b1), .val (.ref b93), .val (.ref b104), .val (.int (0 : Int32))] [(.ref b104)]))
    refine Goes.step (fun _ k => XS.iconst X185.here hx rfl (hb hby at_320) k) ?_
    show Goes _ _ _ _ _ _ _ (T185.setTop (mkF m 321 #[.val (.int p0), .val (.int p1), .val (.int p2), .val (.int m3), .val (.int b4), .val (.int (0 : Int32)), .val (.ref b1), .val (.ref b93), .val (.ref b104), .val (.int (0 : Int32))] [(.int (0 : Int32)), (.ref b104)]))
    obtain ⟨cl193, Ar193, q193, S193, P193, H193, G193⟩ := id V185
    have hin193 : ¬ ((0 : Int32) < 0 ∨ cl193.slots.size ≤ ((0 : Int32)).toNatClampNeg) := inb_of S193 ⟨by decide, by decide⟩
    have hat193 : cl193.slots[((0 : Int32)).toNatClampNeg]? = some (.double (FP.i2d (((0 : Int32) * m3) + b4))) := H193 _ (by rw [S193]; decide)
    refine Goes.step (fun _ k => X185.daload hx (j := (0 : Int32)) (v := (.double (FP.i2d (((0 : Int32) * m3) + b4)))) (by exact Ar193.1) (State.isArrayOf_alike hZ.alike Ar193.2.1) Ar193.2.2 hin193 hat193 (g := (mkF m 321 #[.val (.int p0), .val (.int p1), .val (.int p2), .val (.int m3), .val (.int b4), .val (.int (0 : Int32)), .val (.ref b1), .val (.ref b93), .val (.ref b104), .val (.int (0 : Int32))] [(.int (0 : Int32)), (.ref b104)])) rfl rfl (hb hby at_321) _ k) ?_
    show Goes _ _ _ _ _ _ _ (T185.setTop (mkF m 322 #[.val (.int p0), .val (.int p1), .val (.int p2), .val (.int m3), .val (.int b4), .val (.int (0 : Int32)), .val (.ref b1), .val (.ref b93), .val (.ref b104), .val (.int (0 : Int32))] [(.double (FP.i2d (((0 : Int32) * m3) + b4)))]))
    refine Goes.step (fun _ k => XS.iload X185.here hx rfl (hb hby at_322) rfl  k) ?_
    show Goes _ _ _ _ _ _ _ (T185.setTop (mkF m 324 #[.val (.int p0), .val (.int p1), .val (.int p2), .val (.int m3), .val (.int b4), .val (.int (0 : Int32)), .val (.ref b1), .val (.ref b93), .val (.ref b104), .val (.int (0 : Int32))] [(.int (0 : Int32)), (.double (FP.i2d (((0 : Int32) * m3) + b4)))]))
    refine Goes.step (fun _ k => XS.iloadN X185.here hx rfl (hb hby at_324) rfl  k) ?_
    show Goes _ _ _ _ _ _ _ (T185.setTop (mkF m 325 #[.val (.int p0), .val (.int p1), .val (.int p2), .val (.int m3), .val (.int b4), .val (.int (0 : Int32)), .val (.ref b1), .val (.ref b93), .val (.ref b104), .val (.int (0 : Int32))] [(.int m3), (.int (0 : Int32)), (.double (FP.i2d (((0 : Int32) * m3) + b4)))]))
    refine Goes.step (fun _ k => XS.iload X185.here hx rfl (hb hby at_325) rfl  k) ?_
    show Goes _ _ _ _ _ _ _ (T185.setTop (mkF m 327 #[.val (.int p0), .val (.int p1), .val (.int p2), .val (.int m3), .val (.int b4), .val (.int (0 : Int32)), .val (.ref b1), .val (.ref b93), .val (.ref b104), .val (.int (0 : Int32))] [(.int b4), (.int m3), (.int (0 : Int32)), (.double (FP.i2d (((0 : Int32) * m3) + b4)))]))
    obtain ⟨_, _, ⟨T194, L194, k194, n194⟩, -, X194, ⟨Lc194, hQ194, l194, y194, z194⟩, st194⟩ := Jvm.LawKit.callS X185 hx (y := (⟨"com/example/orbitloom/orbitloom/orbits/TrackSamplePinLaw", "v", "(III)D"⟩ : MethodName)) hown (mvT hZ (hw _ (List.mem_of_getElem? (i := 3) rfl))) (mvT hZ (hw _ (List.mem_of_getElem? (i := 4) rfl))) (mvT hZ (hw _ (List.mem_of_getElem? (i := 5) rfl))) (mvT hZ (hw _ (List.mem_of_getElem? (i := 6) rfl))) (by decide) (backOf (W := 2) (rm1 l Z a0 hw [] (0 : Int32) m3 b4 T185.heap n0 Z192 ) hZ (hw _ (List.mem_of_getElem? (i := 6) rfl)) (hw _ (List.mem_of_getElem? (i := 5) rfl)) (by decide) (by decide)) (g := (mkF m 327 #[.val (.int p0), .val (.int p1), .val (.int p2), .val (.int m3), .val (.int b4), .val (.int (0 : Int32)), .val (.ref b1), .val (.ref b93), .val (.ref b104), .val (.int (0 : Int32))] [(.int b4), (.int m3), (.int (0 : Int32)), (.double (FP.i2d (((0 : Int32) * m3) + b4)))])) rfl (by rw [hml]; rfl) (argsL := [(.int (0 : Int32)), (.int m3), (.int b4)]) (rest := [(.double (FP.i2d (((0 : Int32) * m3) + b4)))]) (lenOf pd_0 rfl) rfl (by show 2 * 0 + _ ≤ _; exact Nat.le_of_eq rfl) (hb hby at_327) (fun _ _ => ⟨rfl, rfl, (by decide : 3 + 0 ≤ _), (by decide : 29 + 0 ≤ _)⟩)
    dsimp only [Pt.U, Pt.locs, Pt.cells, Pt.slots] at X194 l194 y194 z194 st194 hQ194
    rw [l194, y194, z194] at X194
    obtain ⟨N194, eh194, hR194⟩ := hQ194
    have NA194 := Fr.app NA185 N194
    obtain rfl := hR194
    refine Goes.step st194 ?_
    show Goes _ _ _ _ _ _ _ (T194.setTop (mkF m 330 #[.val (.int p0), .val (.int p1), .val (.int p2), .val (.int m3), .val (.int b4), .val (.int (0 : Int32)), .val (.ref b1), .val (.ref b93), .val (.ref b104), .val (.int (0 : Int32))] [(.double (FP.i2d (((0 : Int32) * m3) + b4))), (.double (FP.i2d (((0 : Int32) * m3) + b4)))]))
    refine Goes.step (fun _ k => XS.dcmpS X194.here hx rfl (hb hby at_330) rfl rfl k) ?_
    show Goes _ _ _ _ _ _ _ (T194.setTop (mkF m 331 #[.val (.int p0), .val (.int p1), .val (.int p2), .val (.int m3), .val (.int b4), .val (.int (0 : Int32)), .val (.ref b1), .val (.ref b93), .val (.ref b104), .val (.int (0 : Int32))] [(.int (cmpValue (FP.dcmp (FP.i2d (((0 : Int32) * m3) + b4)) (FP.i2d (((0 : Int32) * m3) + b4))) .l))]))
    refine Goes.step (fun _ k => XS.ifNo X194.here hx rfl (hb hby at_331) rfl ((if0 _ _).trans (teq (own_nn _)).2) k) ?_
    show Goes _ _ _ _ _ _ _ (T194.setTop (mkF m 334 #[.val (.int p0), .val (.int p1), .val (.int p2), .val (.int m3), .val (.int b4), .val (.int (0 : Int32)), .val (.ref b1), .val (.ref b93), .val (.ref b104), .val (.int (0 : Int32))] []))
    refine Goes.step (fun _ k => XS.aload X194.here hx rfl (hb hby at_334) rfl rfl k) ?_
    show Goes _ _ _ _ _ _ _ (T194.setTop (mkF m 336 #[.val (.int p0), .val (.int p1), .val (.int p2), .val (.int m3), .val (.int b4), .val (.int (0 : Int32)), .val (.ref b1), .val (.ref b93), .val (.ref b104), .val (.int (0 : Int32))] [(.ref b104)]))
    refine Goes.step (fun _ k => XS.iconst X194.here hx rfl (hb hby at_336) k) ?_
    show Goes _ _ _ _ _ _ _ (T194.setTop (mkF m 337 #[.val (.int p0), .val (.int p1), .val (.int p2), .val (.int m3), .val (.int b4), .val (.int (0 : Int32)), .val (.ref b1), .val (.ref b93), .val (.ref b104), .val (.int (0 : Int32))] [(.int (1 : Int32)), (.ref b104)]))
    obtain ⟨cl195, Ar195, q195, S195, P195, H195, G195⟩ := id V185
    have hin195 : ¬ ((1 : Int32) < 0 ∨ cl195.slots.size ≤ ((1 : Int32)).toNatClampNeg) := inb_of S195 ⟨by decide, by decide⟩
    have hat195 : cl195.slots[((1 : Int32)).toNatClampNeg]? = some (.double (FP.i2d (((1 : Int32) * m3) + b4))) := H195 _ (by rw [S195]; decide)
    refine Goes.step (fun _ k => X194.daload hx (j := (1 : Int32)) (v := (.double (FP.i2d (((1 : Int32) * m3) + b4)))) (by rw [eh194]; exact Ar195.1) (State.isArrayOf_alike hZ.alike Ar195.2.1) Ar195.2.2 hin195 hat195 (g := (mkF m 337 #[.val (.int p0), .val (.int p1), .val (.int p2), .val (.int m3), .val (.int b4), .val (.int (0 : Int32)), .val (.ref b1), .val (.ref b93), .val (.ref b104), .val (.int (0 : Int32))] [(.int (1 : Int32)), (.ref b104)])) rfl rfl (hb hby at_337) _ k) ?_
    show Goes _ _ _ _ _ _ _ (T194.setTop (mkF m 338 #[.val (.int p0), .val (.int p1), .val (.int p2), .val (.int m3), .val (.int b4), .val (.int (0 : Int32)), .val (.ref b1), .val (.ref b93), .val (.ref b104), .val (.int (0 : Int32))] [(.double (FP.i2d (((1 : Int32) * m3) + b4)))]))
    refine Goes.step (fun _ k => XS.iload X194.here hx rfl (hb hby at_338) rfl  k) ?_
    show Goes _ _ _ _ _ _ _ (T194.setTop (mkF m 340 #[.val (.int p0), .val (.int p1), .val (.int p2), .val (.int m3), .val (.int b4), .val (.int (0 : Int32)), .val (.ref b1), .val (.ref b93), .val (.ref b104), .val (.int (0 : Int32))] [(.int (0 : Int32)), (.double (FP.i2d (((1 : Int32) * m3) + b4)))]))
    refine Goes.step (fun _ k => XS.iconst X194.here hx rfl (hb hby at_340) k) ?_
    show Goes _ _ _ _ _ _ _ (T194.setTop (mkF m 341 #[.val (.int p0), .val (.int p1), .val (.int p2), .val (.int m3), .val (.int b4), .val (.int (0 : Int32)), .val (.ref b1), .val (.ref b93), .val (.ref b104), .val (.int (0 : Int32))] [(.int (1 : Int32)), (.int (0 : Int32)), (.double (FP.i2d (((1 : Int32) * m3) + b4)))]))
    refine Goes.step (fun _ k => XS.iadd X194.here hx rfl (hb hby at_341) rfl k) ?_
    show Goes _ _ _ _ _ _ _ (T194.setTop (mkF m 342 #[.val (.int p0), .val (.int p1), .val (.int p2), .val (.int m3), .val (.int b4), .val (.int (0 : Int32)), .val (.ref b1), .val (.ref b93), .val (.ref b104), .val (.int (0 : Int32))] [(.int (1 : Int32)), (.double (FP.i2d (((1 : Int32) * m3) + b4)))]))
    refine Goes.step (fun _ k => XS.iloadN X194.here hx rfl (hb hby at_342) rfl  k) ?_
    show Goes _ _ _ _ _ _ _ (T194.setTop (mkF m 343 #[.val (.int p0), .val (.int p1), .val (.int p2), .val (.int m3), .val (.int b4), .val (.int (0 : Int32)), .val (.ref b1), .val (.ref b93), .val (.ref b104), .val (.int (0 : Int32))] [(.int m3), (.int (1 : Int32)), (.double (FP.i2d (((1 : Int32) * m3) + b4)))]))
    refine Goes.step (fun _ k => XS.iload X194.here hx rfl (hb hby at_343) rfl  k) ?_
    show Goes _ _ _ _ _ _ _ (T194.setTop (mkF m 345 #[.val (.int p0), .val (.int p1), .val (.int p2), .val (.int m3), .val (.int b4), .val (.int (0 : Int32)), .val (.ref b1), .val (.ref b93), .val (.ref b104), .val (.int (0 : Int32))] [(.int b4), (.int m3), (.int (1 : Int32)), (.double (FP.i2d (((1 : Int32) * m3) + b4)))]))
    obtain ⟨_, _, ⟨T196, L196, k196, n196⟩, -, X196, ⟨Lc196, hQ196, l196, y196, z196⟩, st196⟩ := Jvm.LawKit.callS X194 hx (y := (⟨"com/example/orbitloom/orbitloom/orbits/TrackSamplePinLaw", "v", "(III)D"⟩ : MethodName)) hown (mvT hZ (hw _ (List.mem_of_getElem? (i := 3) rfl))) (mvT hZ (hw _ (List.mem_of_getElem? (i := 4) rfl))) (mvT hZ (hw _ (List.mem_of_getElem? (i := 5) rfl))) (mvT hZ (hw _ (List.mem_of_getElem? (i := 6) rfl))) (by decide) (backOf (W := 2) (rm1 l Z a0 hw [] (1 : Int32) m3 b4 T185.heap n0 Z192 ) hZ (hw _ (List.mem_of_getElem? (i := 6) rfl)) (hw _ (List.mem_of_getElem? (i := 5) rfl)) (by decide) (by decide)) (g := (mkF m 345 #[.val (.int p0), .val (.int p1), .val (.int p2), .val (.int m3), .val (.int b4), .val (.int (0 : Int32)), .val (.ref b1), .val (.ref b93), .val (.ref b104), .val (.int (0 : Int32))] [(.int b4), (.int m3), (.int (1 : Int32)), (.double (FP.i2d (((1 : Int32) * m3) + b4)))])) rfl (by rw [hml]; rfl) (argsL := [(.int (1 : Int32)), (.int m3), (.int b4)]) (rest := [(.double (FP.i2d (((1 : Int32) * m3) + b4)))]) (lenOf pd_0 rfl) rfl (by show 2 * 0 + _ ≤ _; exact Nat.le_of_eq rfl) (hb hby at_345) (fun _ _ => ⟨rfl, eh194, (by decide : 3 + 0 ≤ _), (by decide : 29 + 0 ≤ _)⟩)
    dsimp only [Pt.U, Pt.locs, Pt.cells, Pt.slots] at X196 l196 y196 z196 st196 hQ196
    rw [l196, y196, z196] at X196
    obtain ⟨N196, eh196, hR196⟩ := hQ196
    have NA196 := Fr.app NA194 N196
    obtain rfl := hR196
    refine Goes.step st196 ?_
    show Goes _ _ _ _ _ _ _ (T196.setTop (mkF m 348 #[.val (.int p0), .val (.int p1), .val (.int p2), .val (.int m3), .val (.int b4), .val (.int (0 : Int32)), .val (.ref b1), .val (.ref b93), .val (.ref b104), .val (.int (0 : Int32))] [(.double (FP.i2d (((1 : Int32) * m3) + b4))), (.double (FP.i2d (((1 : Int32) * m3) + b4)))]))
    refine Goes.step (fun _ k => XS.dcmpS X196.here hx rfl (hb hby at_348) rfl rfl k) ?_
    show Goes _ _ _ _ _ _ _ (T196.setTop (mkF m 349 #[.val (.int p0), .val (.int p1), .val (.int p2), .val (.int m3), .val (.int b4), .val (.int (0 : Int32)), .val (.ref b1), .val (.ref b93), .val (.ref b104), .val (.int (0 : Int32))] [(.int (cmpValue (FP.dcmp (FP.i2d (((1 : Int32) * m3) + b4)) (FP.i2d (((1 : Int32) * m3) + b4))) .l))]))
    refine Goes.step (fun _ k => XS.ifNo X196.here hx rfl (hb hby at_349) rfl ((if0 _ _).trans (teq (own_nn _)).2) k) ?_
    show Goes _ _ _ _ _ _ _ (T196.setTop (mkF m 352 #[.val (.int p0), .val (.int p1), .val (.int p2), .val (.int m3), .val (.int b4), .val (.int (0 : Int32)), .val (.ref b1), .val (.ref b93), .val (.ref b104), .val (.int (0 : Int32))] []))
    refine Goes.step (fun _ k => XS.aload X196.here hx rfl (hb hby at_352) rfl rfl k) ?_
    show Goes _ _ _ _ _ _ _ (T196.setTop (mkF m 354 #[.val (.int p0), .val (.int p1), .val (.int p2), .val (.int m3), .val (.int b4), .val (.int (0 : Int32)), .val (.ref b1), .val (.ref b93), .val (.ref b104), .val (.int (0 : Int32))] [(.ref b104)]))
    refine Goes.step (fun _ k => XS.iconst X196.here hx rfl (hb hby at_354) k) ?_
    show Goes _ _ _ _ _ _ _ (T196.setTop (mkF m 355 #[.val (.int p0), .val (.int p1), .val (.int p2), .val (.int m3), .val (.int b4), .val (.int (0 : Int32)), .val (.ref b1), .val (.ref b93), .val (.ref b104), .val (.int (0 : Int32))] [(.int (2 : Int32)), (.ref b104)]))
    obtain ⟨cl197, Ar197, q197, S197, P197, H197, G197⟩ := id V185
    have hin197 : ¬ ((2 : Int32) < 0 ∨ cl197.slots.size ≤ ((2 : Int32)).toNatClampNeg) := inb_of S197 ⟨by decide, by decide⟩
    have hat197 : cl197.slots[((2 : Int32)).toNatClampNeg]? = some (.double (FP.i2d (((2 : Int32) * m3) + b4))) := H197 _ (by rw [S197]; decide)
    refine Goes.step (fun _ k => X196.daload hx (j := (2 : Int32)) (v := (.double (FP.i2d (((2 : Int32) * m3) + b4)))) (by rw [eh196]; exact Ar197.1) (State.isArrayOf_alike hZ.alike Ar197.2.1) Ar197.2.2 hin197 hat197 (g := (mkF m 355 #[.val (.int p0), .val (.int p1), .val (.int p2), .val (.int m3), .val (.int b4), .val (.int (0 : Int32)), .val (.ref b1), .val (.ref b93), .val (.ref b104), .val (.int (0 : Int32))] [(.int (2 : Int32)), (.ref b104)])) rfl rfl (hb hby at_355) _ k) ?_
    show Goes _ _ _ _ _ _ _ (T196.setTop (mkF m 356 #[.val (.int p0), .val (.int p1), .val (.int p2), .val (.int m3), .val (.int b4), .val (.int (0 : Int32)), .val (.ref b1), .val (.ref b93), .val (.ref b104), .val (.int (0 : Int32))] [(.double (FP.i2d (((2 : Int32) * m3) + b4)))]))
    refine Goes.step (fun _ k => XS.iload X196.here hx rfl (hb hby at_356) rfl  k) ?_
    show Goes _ _ _ _ _ _ _ (T196.setTop (mkF m 358 #[.val (.int p0), .val (.int p1), .val (.int p2), .val (.int m3), .val (.int b4), .val (.int (0 : Int32)), .val (.ref b1), .val (.ref b93), .val (.ref b104), .val (.int (0 : Int32))] [(.int (0 : Int32)), (.double (FP.i2d (((2 : Int32) * m3) + b4)))]))
    refine Goes.step (fun _ k => XS.iconst X196.here hx rfl (hb hby at_358) k) ?_
    show Goes _ _ _ _ _ _ _ (T196.setTop (mkF m 359 #[.val (.int p0), .val (.int p1), .val (.int p2), .val (.int m3), .val (.int b4), .val (.int (0 : Int32)), .val (.ref b1), .val (.ref b93), .val (.ref b104), .val (.int (0 : Int32))] [(.int (2 : Int32)), (.int (0 : Int32)), (.double (FP.i2d (((2 : Int32) * m3) + b4)))]))
    refine Goes.step (fun _ k => XS.iadd X196.here hx rfl (hb hby at_359) rfl k) ?_
    show Goes _ _ _ _ _ _ _ (T196.setTop (mkF m 360 #[.val (.int p0), .val (.int p1), .val (.int p2), .val (.int m3), .val (.int b4), .val (.int (0 : Int32)), .val (.ref b1), .val (.ref b93), .val (.ref b104), .val (.int (0 : Int32))] [(.int (2 : Int32)), (.double (FP.i2d (((2 : Int32) * m3) + b4)))]))
    refine Goes.step (fun _ k => XS.iloadN X196.here hx rfl (hb hby at_360) rfl  k) ?_
    show Goes _ _ _ _ _ _ _ (T196.setTop (mkF m 361 #[.val (.int p0), .val (.int p1), .val (.int p2), .val (.int m3), .val (.int b4), .val (.int (0 : Int32)), .val (.ref b1), .val (.ref b93), .val (.ref b104), .val (.int (0 : Int32))] [(.int m3), (.int (2 : Int32)), (.double (FP.i2d (((2 : Int32) * m3) + b4)))]))
    refine Goes.step (fun _ k => XS.iload X196.here hx rfl (hb hby at_361) rfl  k) ?_
    show Goes _ _ _ _ _ _ _ (T196.setTop (mkF m 363 #[.val (.int p0), .val (.int p1), .val (.int p2), .val (.int m3), .val (.int b4), .val (.int (0 : Int32)), .val (.ref b1), .val (.ref b93), .val (.ref b104), .val (.int (0 : Int32))] [(.int b4), (.int m3), (.int (2 : Int32)), (.double (FP.i2d (((2 : Int32) * m3) + b4)))]))
    obtain ⟨_, _, ⟨T198, L198, k198, n198⟩, -, X198, ⟨Lc198, hQ198, l198, y198, z198⟩, st198⟩ := Jvm.LawKit.callS X196 hx (y := (⟨"com/example/orbitloom/orbitloom/orbits/TrackSamplePinLaw", "v", "(III)D"⟩ : MethodName)) hown (mvT hZ (hw _ (List.mem_of_getElem? (i := 3) rfl))) (mvT hZ (hw _ (List.mem_of_getElem? (i := 4) rfl))) (mvT hZ (hw _ (List.mem_of_getElem? (i := 5) rfl))) (mvT hZ (hw _ (List.mem_of_getElem? (i := 6) rfl))) (by decide) (backOf (W := 2) (rm1 l Z a0 hw [] (2 : Int32) m3 b4 T185.heap n0 Z192 ) hZ (hw _ (List.mem_of_getElem? (i := 6) rfl)) (hw _ (List.mem_of_getElem? (i := 5) rfl)) (by decide) (by decide)) (g := (mkF m 363 #[.val (.int p0), .val (.int p1), .val (.int p2), .val (.int m3), .val (.int b4), .val (.int (0 : Int32)), .val (.ref b1), .val (.ref b93), .val (.ref b104), .val (.int (0 : Int32))] [(.int b4), (.int m3), (.int (2 : Int32)), (.double (FP.i2d (((2 : Int32) * m3) + b4)))])) rfl (by rw [hml]; rfl) (argsL := [(.int (2 : Int32)), (.int m3), (.int b4)]) (rest := [(.double (FP.i2d (((2 : Int32) * m3) + b4)))]) (lenOf pd_0 rfl) rfl (by show 2 * 0 + _ ≤ _; exact Nat.le_of_eq rfl) (hb hby at_363) (fun _ _ => ⟨rfl, eh196, (by decide : 3 + 0 ≤ _), (by decide : 29 + 0 ≤ _)⟩)
    dsimp only [Pt.U, Pt.locs, Pt.cells, Pt.slots] at X198 l198 y198 z198 st198 hQ198
    rw [l198, y198, z198] at X198
    obtain ⟨N198, eh198, hR198⟩ := hQ198
    have NA198 := Fr.app NA196 N198
    obtain rfl := hR198
    refine Goes.step st198 ?_
    show Goes _ _ _ _ _ _ _ (T198.setTop (mkF m 366 #[.val (.int p0), .val (.int p1), .val (.int p2), .val (.int m3), .val (.int b4), .val (.int (0 : Int32)), .val (.ref b1), .val (.ref b93), .val (.ref b104), .val (.int (0 : Int32))] [(.double (FP.i2d (((2 : Int32) * m3) + b4))), (.double (FP.i2d (((2 : Int32) * m3) + b4)))]))
    refine Goes.step (fun _ k => XS.dcmpS X198.here hx rfl (hb hby at_366) rfl rfl k) ?_
    show Goes _ _ _ _ _ _ _ (T198.setTop (mkF m 367 #[.val (.int p0), .val (.int p1), .val (.int p2), .val (.int m3), .val (.int b4), .val (.int (0 : Int32)), .val (.ref b1), .val (.ref b93), .val (.ref b104), .val (.int (0 : Int32))] [(.int (cmpValue (FP.dcmp (FP.i2d (((2 : Int32) * m3) + b4)) (FP.i2d (((2 : Int32) * m3) + b4))) .l))]))
    refine Goes.step (fun _ k => XS.ifNo X198.here hx rfl (hb hby at_367) rfl ((if0 _ _).trans (teq (own_nn _)).2) k) ?_
    show Goes _ _ _ _ _ _ _ (T198.setTop (mkF m 370 #[.val (.int p0), .val (.int p1), .val (.int p2), .val (.int m3), .val (.int b4), .val (.int (0 : Int32)), .val (.ref b1), .val (.ref b93), .val (.ref b104), .val (.int (0 : Int32))] []))
    refine Goes.step (fun _ k => XS.aload X198.here hx rfl (hb hby at_370) rfl rfl k) ?_
    show Goes _ _ _ _ _ _ _ (T198.setTop (mkF m 372 #[.val (.int p0), .val (.int p1), .val (.int p2), .val (.int m3), .val (.int b4), .val (.int (0 : Int32)), .val (.ref b1), .val (.ref b93), .val (.ref b104), .val (.int (0 : Int32))] [(.ref b104)]))
    refine Goes.step (fun _ k => XS.iconst X198.here hx rfl (hb hby at_372) k) ?_
    show Goes _ _ _ _ _ _ _ (T198.setTop (mkF m 373 #[.val (.int p0), .val (.int p1), .val (.int p2), .val (.int m3), .val (.int b4), .val (.int (0 : Int32)), .val (.ref b1), .val (.ref b93), .val (.ref b104), .val (.int (0 : Int32))] [(.int (3 : Int32)), (.ref b104)]))
    obtain ⟨cl199, Ar199, q199, S199, P199, H199, G199⟩ := id V185
    have hin199 : ¬ ((3 : Int32) < 0 ∨ cl199.slots.size ≤ ((3 : Int32)).toNatClampNeg) := inb_of S199 ⟨by decide, by decide⟩
    have hat199 : cl199.slots[((3 : Int32)).toNatClampNeg]? = some (.double (FP.i2d (((3 : Int32) * m3) + b4))) := H199 _ (by rw [S199]; decide)
    refine Goes.step (fun _ k => X198.daload hx (j := (3 : Int32)) (v := (.double (FP.i2d (((3 : Int32) * m3) + b4)))) (by rw [eh198]; exact Ar199.1) (State.isArrayOf_alike hZ.alike Ar199.2.1) Ar199.2.2 hin199 hat199 (g := (mkF m 373 #[.val (.int p0), .val (.int p1), .val (.int p2), .val (.int m3), .val (.int b4), .val (.int (0 : Int32)), .val (.ref b1), .val (.ref b93), .val (.ref b104), .val (.int (0 : Int32))] [(.int (3 : Int32)), (.ref b104)])) rfl rfl (hb hby at_373) _ k) ?_
    show Goes _ _ _ _ _ _ _ (T198.setTop (mkF m 374 #[.val (.int p0), .val (.int p1), .val (.int p2), .val (.int m3), .val (.int b4), .val (.int (0 : Int32)), .val (.ref b1), .val (.ref b93), .val (.ref b104), .val (.int (0 : Int32))] [(.double (FP.i2d (((3 : Int32) * m3) + b4)))]))
    refine Goes.step (fun _ k => XS.iload X198.here hx rfl (hb hby at_374) rfl  k) ?_
    show Goes _ _ _ _ _ _ _ (T198.setTop (mkF m 376 #[.val (.int p0), .val (.int p1), .val (.int p2), .val (.int m3), .val (.int b4), .val (.int (0 : Int32)), .val (.ref b1), .val (.ref b93), .val (.ref b104), .val (.int (0 : Int32))] [(.int (0 : Int32)), (.double (FP.i2d (((3 : Int32) * m3) + b4)))]))
    refine Goes.step (fun _ k => XS.iconst X198.here hx rfl (hb hby at_376) k) ?_
    show Goes _ _ _ _ _ _ _ (T198.setTop (mkF m 377 #[.val (.int p0), .val (.int p1), .val (.int p2), .val (.int m3), .val (.int b4), .val (.int (0 : Int32)), .val (.ref b1), .val (.ref b93), .val (.ref b104), .val (.int (0 : Int32))] [(.int (3 : Int32)), (.int (0 : Int32)), (.double (FP.i2d (((3 : Int32) * m3) + b4)))]))
    refine Goes.step (fun _ k => XS.iadd X198.here hx rfl (hb hby at_377) rfl k) ?_
    show Goes _ _ _ _ _ _ _ (T198.setTop (mkF m 378 #[.val (.int p0), .val (.int p1), .val (.int p2), .val (.int m3), .val (.int b4), .val (.int (0 : Int32)), .val (.ref b1), .val (.ref b93), .val (.ref b104), .val (.int (0 : Int32))] [(.int (3 : Int32)), (.double (FP.i2d (((3 : Int32) * m3) + b4)))]))
    refine Goes.step (fun _ k => XS.iloadN X198.here hx rfl (hb hby at_378) rfl  k) ?_
    show Goes _ _ _ _ _ _ _ (T198.setTop (mkF m 379 #[.val (.int p0), .val (.int p1), .val (.int p2), .val (.int m3), .val (.int b4), .val (.int (0 : Int32)), .val (.ref b1), .val (.ref b93), .val (.ref b104), .val (.int (0 : Int32))] [(.int m3), (.int (3 : Int32)), (.double (FP.i2d (((3 : Int32) * m3) + b4)))]))
    refine Goes.step (fun _ k => XS.iload X198.here hx rfl (hb hby at_379) rfl  k) ?_
    show Goes _ _ _ _ _ _ _ (T198.setTop (mkF m 381 #[.val (.int p0), .val (.int p1), .val (.int p2), .val (.int m3), .val (.int b4), .val (.int (0 : Int32)), .val (.ref b1), .val (.ref b93), .val (.ref b104), .val (.int (0 : Int32))] [(.int b4), (.int m3), (.int (3 : Int32)), (.double (FP.i2d (((3 : Int32) * m3) + b4)))]))
    obtain ⟨_, _, ⟨T200, L200, k200, n200⟩, -, X200, ⟨Lc200, hQ200, l200, y200, z200⟩, st200⟩ := Jvm.LawKit.callS X198 hx (y := (⟨"com/example/orbitloom/orbitloom/orbits/TrackSamplePinLaw", "v", "(III)D"⟩ : MethodName)) hown (mvT hZ (hw _ (List.mem_of_getElem? (i := 3) rfl))) (mvT hZ (hw _ (List.mem_of_getElem? (i := 4) rfl))) (mvT hZ (hw _ (List.mem_of_getElem? (i := 5) rfl))) (mvT hZ (hw _ (List.mem_of_getElem? (i := 6) rfl))) (by decide) (backOf (W := 2) (rm1 l Z a0 hw [] (3 : Int32) m3 b4 T185.heap n0 Z192 ) hZ (hw _ (List.mem_of_getElem? (i := 6) rfl)) (hw _ (List.mem_of_getElem? (i := 5) rfl)) (by decide) (by decide)) (g := (mkF m 381 #[.val (.int p0), .val (.int p1), .val (.int p2), .val (.int m3), .val (.int b4), .val (.int (0 : Int32)), .val (.ref b1), .val (.ref b93), .val (.ref b104), .val (.int (0 : Int32))] [(.int b4), (.int m3), (.int (3 : Int32)), (.double (FP.i2d (((3 : Int32) * m3) + b4)))])) rfl (by rw [hml]; rfl) (argsL := [(.int (3 : Int32)), (.int m3), (.int b4)]) (rest := [(.double (FP.i2d (((3 : Int32) * m3) + b4)))]) (lenOf pd_0 rfl) rfl (by show 2 * 0 + _ ≤ _; exact Nat.le_of_eq rfl) (hb hby at_381) (fun _ _ => ⟨rfl, eh198, (by decide : 3 + 0 ≤ _), (by decide : 29 + 0 ≤ _)⟩)
    dsimp only [Pt.U, Pt.locs, Pt.cells, Pt.slots] at X200 l200 y200 z200 st200 hQ200
    rw [l200, y200, z200] at X200
    obtain ⟨N200, eh200, hR200⟩ := hQ200
    have NA200 := Fr.app NA198 N200
    obtain rfl := hR200
    refine Goes.step st200 ?_
    show Goes _ _ _ _ _ _ _ (T200.setTop (mkF m 384 #[.val (.int p0), .val (.int p1), .val (.int p2), .val (.int m3), .val (.int b4), .val (.int (0 : Int32)), .val (.ref b1), .val (.ref b93), .val (.ref b104), .val (.int (0 : Int32))] [(.double (FP.i2d (((3 : Int32) * m3) + b4))), (.double (FP.i2d (((3 : Int32) * m3) + b4)))]))
    refine Goes.step (fun _ k => XS.dcmpS X200.here hx rfl (hb hby at_384) rfl rfl k) ?_
    show Goes _ _ _ _ _ _ _ (T200.setTop (mkF m 385 #[.val (.int p0), .val (.int p1), .val (.int p2), .val (.int m3), .val (.int b4), .val (.int (0 : Int32)), .val (.ref b1), .val (.ref b93), .val (.ref b104), .val (.int (0 : Int32))] [(.int (cmpValue (FP.dcmp (FP.i2d (((3 : Int32) * m3) + b4)) (FP.i2d (((3 : Int32) * m3) + b4))) .l))]))
    refine Goes.step (fun _ k => XS.ifNo X200.here hx rfl (hb hby at_385) rfl ((if0 _ _).trans (teq (own_nn _)).2) k) ?_
    show Goes _ _ _ _ _ _ _ (T200.setTop (mkF m 388 #[.val (.int p0), .val (.int p1), .val (.int p2), .val (.int m3), .val (.int b4), .val (.int (0 : Int32)), .val (.ref b1), .val (.ref b93), .val (.ref b104), .val (.int (0 : Int32))] []))
    refine Goes.step (fun _ k => XS.aload X200.here hx rfl (hb hby at_388) rfl rfl k) ?_
    show Goes _ _ _ _ _ _ _ (T200.setTop (mkF m 390 #[.val (.int p0), .val (.int p1), .val (.int p2), .val (.int m3), .val (.int b4), .val (.int (0 : Int32)), .val (.ref b1), .val (.ref b93), .val (.ref b104), .val (.int (0 : Int32))] [(.ref b104)]))
    refine Goes.step (fun _ k => XS.iconst X200.here hx rfl (hb hby at_390) k) ?_
    show Goes _ _ _ _ _ _ _ (T200.setTop (mkF m 391 #[.val (.int p0), .val (.int p1), .val (.int p2), .val (.int m3), .val (.int b4), .val (.int (0 : Int32)), .val (.ref b1), .val (.ref b93), .val (.ref b104), .val (.int (0 : Int32))] [(.int (4 : Int32)), (.ref b104)]))
    obtain ⟨cl201, Ar201, q201, S201, P201, H201, G201⟩ := id V185
    have hin201 : ¬ ((4 : Int32) < 0 ∨ cl201.slots.size ≤ ((4 : Int32)).toNatClampNeg) := inb_of S201 ⟨by decide, by decide⟩
    have hat201 : cl201.slots[((4 : Int32)).toNatClampNeg]? = some (.double (FP.i2d (((4 : Int32) * m3) + b4))) := H201 _ (by rw [S201]; decide)
    refine Goes.step (fun _ k => X200.daload hx (j := (4 : Int32)) (v := (.double (FP.i2d (((4 : Int32) * m3) + b4)))) (by rw [eh200]; exact Ar201.1) (State.isArrayOf_alike hZ.alike Ar201.2.1) Ar201.2.2 hin201 hat201 (g := (mkF m 391 #[.val (.int p0), .val (.int p1), .val (.int p2), .val (.int m3), .val (.int b4), .val (.int (0 : Int32)), .val (.ref b1), .val (.ref b93), .val (.ref b104), .val (.int (0 : Int32))] [(.int (4 : Int32)), (.ref b104)])) rfl rfl (hb hby at_391) _ k) ?_
    show Goes _ _ _ _ _ _ _ (T200.setTop (mkF m 392 #[.val (.int p0), .val (.int p1), .val (.int p2), .val (.int m3), .val (.int b4), .val (.int (0 : Int32)), .val (.ref b1), .val (.ref b93), .val (.ref b104), .val (.int (0 : Int32))] [(.double (FP.i2d (((4 : Int32) * m3) + b4)))]))
    refine Goes.step (fun _ k => XS.iload X200.here hx rfl (hb hby at_392) rfl  k) ?_
    show Goes _ _ _ _ _ _ _ (T200.setTop (mkF m 394 #[.val (.int p0), .val (.int p1), .val (.int p2), .val (.int m3), .val (.int b4), .val (.int (0 : Int32)), .val (.ref b1), .val (.ref b93), .val (.ref b104), .val (.int (0 : Int32))] [(.int (0 : Int32)), (.double (FP.i2d (((4 : Int32) * m3) + b4)))]))
    refine Goes.step (fun _ k => XS.iconst X200.here hx rfl (hb hby at_394) k) ?_
    show Goes _ _ _ _ _ _ _ (T200.setTop (mkF m 395 #[.val (.int p0), .val (.int p1), .val (.int p2), .val (.int m3), .val (.int b4), .val (.int (0 : Int32)), .val (.ref b1), .val (.ref b93), .val (.ref b104), .val (.int (0 : Int32))] [(.int (4 : Int32)), (.int (0 : Int32)), (.double (FP.i2d (((4 : Int32) * m3) + b4)))]))
    refine Goes.step (fun _ k => XS.iadd X200.here hx rfl (hb hby at_395) rfl k) ?_
    show Goes _ _ _ _ _ _ _ (T200.setTop (mkF m 396 #[.val (.int p0), .val (.int p1), .val (.int p2), .val (.int m3), .val (.int b4), .val (.int (0 : Int32)), .val (.ref b1), .val (.ref b93), .val (.ref b104), .val (.int (0 : Int32))] [(.int (4 : Int32)), (.double (FP.i2d (((4 : Int32) * m3) + b4)))]))
    refine Goes.step (fun _ k => XS.iloadN X200.here hx rfl (hb hby at_396) rfl  k) ?_
    show Goes _ _ _ _ _ _ _ (T200.setTop (mkF m 397 #[.val (.int p0), .val (.int p1), .val (.int p2), .val (.int m3), .val (.int b4), .val (.int (0 : Int32)), .val (.ref b1), .val (.ref b93), .val (.ref b104), .val (.int (0 : Int32))] [(.int m3), (.int (4 : Int32)), (.double (FP.i2d (((4 : Int32) * m3) + b4)))]))
    refine Goes.step (fun _ k => XS.iload X200.here hx rfl (hb hby at_397) rfl  k) ?_
    show Goes _ _ _ _ _ _ _ (T200.setTop (mkF m 399 #[.val (.int p0), .val (.int p1), .val (.int p2), .val (.int m3), .val (.int b4), .val (.int (0 : Int32)), .val (.ref b1), .val (.ref b93), .val (.ref b104), .val (.int (0 : Int32))] [(.int b4), (.int m3), (.int (4 : Int32)), (.double (FP.i2d (((4 : Int32) * m3) + b4)))]))
    obtain ⟨_, _, ⟨T202, L202, k202, n202⟩, -, X202, ⟨Lc202, hQ202, l202, y202, z202⟩, st202⟩ := Jvm.LawKit.callS X200 hx (y := (⟨"com/example/orbitloom/orbitloom/orbits/TrackSamplePinLaw", "v", "(III)D"⟩ : MethodName)) hown (mvT hZ (hw _ (List.mem_of_getElem? (i := 3) rfl))) (mvT hZ (hw _ (List.mem_of_getElem? (i := 4) rfl))) (mvT hZ (hw _ (List.mem_of_getElem? (i := 5) rfl))) (mvT hZ (hw _ (List.mem_of_getElem? (i := 6) rfl))) (by decide) (backOf (W := 2) (rm1 l Z a0 hw [] (4 : Int32) m3 b4 T185.heap n0 Z192 ) hZ (hw _ (List.mem_of_getElem? (i := 6) rfl)) (hw _ (List.mem_of_getElem? (i := 5) rfl)) (by decide) (by decide)) (g := (mkF m 399 #[.val (.int p0), .val (.int p1), .val (.int p2), .val (.int m3), .val (.int b4), .val (.int (0 : Int32)), .val (.ref b1), .val (.ref b93), .val (.ref b104), .val (.int (0 : Int32))] [(.int b4), (.int m3), (.int (4 : Int32)), (.double (FP.i2d (((4 : Int32) * m3) + b4)))])) rfl (by rw [hml]; rfl) (argsL := [(.int (4 : Int32)), (.int m3), (.int b4)]) (rest := [(.double (FP.i2d (((4 : Int32) * m3) + b4)))]) (lenOf pd_0 rfl) rfl (by show 2 * 0 + _ ≤ _; exact Nat.le_of_eq rfl) (hb hby at_399) (fun _ _ => ⟨rfl, eh200, (by decide : 3 + 0 ≤ _), (by decide : 29 + 0 ≤ _)⟩)
    dsimp only [Pt.U, Pt.locs, Pt.cells, Pt.slots] at X202 l202 y202 z202 st202 hQ202
    rw [l202, y202, z202] at X202
    obtain ⟨N202, eh202, hR202⟩ := hQ202
    have NA202 := Fr.app NA200 N202
    obtain rfl := hR202
    refine Goes.step st202 ?_
    show Goes _ _ _ _ _ _ _ (T202.setTop (mkF m 402 #[.val (.int p0), .val (.int p1), .val (.int p2), .val (.int m3), .val (.int b4), .val (.int (0 : Int32)), .val (.ref b1), .val (.ref b93), .val (.ref b104), .val (.int (0 : Int32))] [(.double (FP.i2d (((4 : Int32) * m3) + b4))), (.double (FP.i2d (((4 : Int32) * m3) + b4)))]))
    refine Goes.step (fun _ k => XS.dcmpS X202.here hx rfl (hb hby at_402) rfl rfl k) ?_
    show Goes _ _ _ _ _ _ _ (T202.setTop (mkF m 403 #[.val (.int p0), .val (.int p1), .val (.int p2), .val (.int m3), .val (.int b4), .val (.int (0 : Int32)), .val (.ref b1), .val (.ref b93), .val (.ref b104), .val (.int (0 : Int32))] [(.int (cmpValue (FP.dcmp (FP.i2d (((4 : Int32) * m3) + b4)) (FP.i2d (((4 : Int32) * m3) + b4))) .l))]))
    refine Goes.step (fun _ k => XS.ifNo X202.here hx rfl (hb hby at_403) rfl ((if0 _ _).trans (teq (own_nn _)).2) k) ?_
    show Goes _ _ _ _ _ _ _ (T202.setTop (mkF m 406 #[.val (.int p0), .val (.int p1), .val (.int p2), .val (.int m3), .val (.int b4), .val (.int (0 : Int32)), .val (.ref b1), .val (.ref b93), .val (.ref b104), .val (.int (0 : Int32))] []))
    refine Goes.step (fun _ k => XS.aload X202.here hx rfl (hb hby at_406) rfl rfl k) ?_
    show Goes _ _ _ _ _ _ _ (T202.setTop (mkF m 408 #[.val (.int p0), .val (.int p1), .val (.int p2), .val (.int m3), .val (.int b4), .val (.int (0 : Int32)), .val (.ref b1), .val (.ref b93), .val (.ref b104), .val (.int (0 : Int32))] [(.ref b104)]))
    refine Goes.step (fun _ k => XS.iconst X202.here hx rfl (hb hby at_408) k) ?_
    show Goes _ _ _ _ _ _ _ (T202.setTop (mkF m 409 #[.val (.int p0), .val (.int p1), .val (.int p2), .val (.int m3), .val (.int b4), .val (.int (0 : Int32)), .val (.ref b1), .val (.ref b93), .val (.ref b104), .val (.int (0 : Int32))] [(.int (5 : Int32)), (.ref b104)]))
    obtain ⟨cl203, Ar203, q203, S203, P203, H203, G203⟩ := id V185
    have hin203 : ¬ ((5 : Int32) < 0 ∨ cl203.slots.size ≤ ((5 : Int32)).toNatClampNeg) := inb_of S203 ⟨by decide, by decide⟩
    have hat203 : cl203.slots[((5 : Int32)).toNatClampNeg]? = some (.double (FP.i2d (((5 : Int32) * m3) + b4))) := H203 _ (by rw [S203]; decide)
    refine Goes.step (fun _ k => X202.daload hx (j := (5 : Int32)) (v := (.double (FP.i2d (((5 : Int32) * m3) + b4)))) (by rw [eh202]; exact Ar203.1) (State.isArrayOf_alike hZ.alike Ar203.2.1) Ar203.2.2 hin203 hat203 (g := (mkF m 409 #[.val (.int p0), .val (.int p1), .val (.int p2), .val (.int m3), .val (.int b4), .val (.int (0 : Int32)), .val (.ref b1), .val (.ref b93), .val (.ref b104), .val (.int (0 : Int32))] [(.int (5 : Int32)), (.ref b104)])) rfl rfl (hb hby at_409) _ k) ?_
    show Goes _ _ _ _ _ _ _ (T202.setTop (mkF m 410 #[.val (.int p0), .val (.int p1), .val (.int p2), .val (.int m3), .val (.int b4), .val (.int (0 : Int32)), .val (.ref b1), .val (.ref b93), .val (.ref b104), .val (.int (0 : Int32))] [(.double (FP.i2d (((5 : Int32) * m3) + b4)))]))
    refine Goes.step (fun _ k => XS.iload X202.here hx rfl (hb hby at_410) rfl  k) ?_
    show Goes _ _ _ _ _ _ _ (T202.setTop (mkF m 412 #[.val (.int p0), .val (.int p1), .val (.int p2), .val (.int m3), .val (.int b4), .val (.int (0 : Int32)), .val (.ref b1), .val (.ref b93), .val (.ref b104), .val (.int (0 : Int32))] [(.int (0 : Int32)), (.double (FP.i2d (((5 : Int32) * m3) + b4)))]))
    refine Goes.step (fun _ k => XS.iconst X202.here hx rfl (hb hby at_412) k) ?_
    show Goes _ _ _ _ _ _ _ (T202.setTop (mkF m 413 #[.val (.int p0), .val (.int p1), .val (.int p2), .val (.int m3), .val (.int b4), .val (.int (0 : Int32)), .val (.ref b1), .val (.ref b93), .val (.ref b104), .val (.int (0 : Int32))] [(.int (5 : Int32)), (.int (0 : Int32)), (.double (FP.i2d (((5 : Int32) * m3) + b4)))]))
    refine Goes.step (fun _ k => XS.iadd X202.here hx rfl (hb hby at_413) rfl k) ?_
    show Goes _ _ _ _ _ _ _ (T202.setTop (mkF m 414 #[.val (.int p0), .val (.int p1), .val (.int p2), .val (.int m3), .val (.int b4), .val (.int (0 : Int32)), .val (.ref b1), .val (.ref b93), .val (.ref b104), .val (.int (0 : Int32))] [(.int (5 : Int32)), (.double (FP.i2d (((5 : Int32) * m3) + b4)))]))
    refine Goes.step (fun _ k => XS.iloadN X202.here hx rfl (hb hby at_414) rfl  k) ?_
    show Goes _ _ _ _ _ _ _ (T202.setTop (mkF m 415 #[.val (.int p0), .val (.int p1), .val (.int p2), .val (.int m3), .val (.int b4), .val (.int (0 : Int32)), .val (.ref b1), .val (.ref b93), .val (.ref b104), .val (.int (0 : Int32))] [(.int m3), (.int (5 : Int32)), (.double (FP.i2d (((5 : Int32) * m3) + b4)))]))
    refine Goes.step (fun _ k => XS.iload X202.here hx rfl (hb hby at_415) rfl  k) ?_
    show Goes _ _ _ _ _ _ _ (T202.setTop (mkF m 417 #[.val (.int p0), .val (.int p1), .val (.int p2), .val (.int m3), .val (.int b4), .val (.int (0 : Int32)), .val (.ref b1), .val (.ref b93), .val (.ref b104), .val (.int (0 : Int32))] [(.int b4), (.int m3), (.int (5 : Int32)), (.double (FP.i2d (((5 : Int32) * m3) + b4)))]))
    obtain ⟨_, _, ⟨T204, L204, k204, n204⟩, -, X204, ⟨Lc204, hQ204, l204, y204, z204⟩, st204⟩ := Jvm.LawKit.callS X202 hx (y := (⟨"com/example/orbitloom/orbitloom/orbits/TrackSamplePinLaw", "v", "(III)D"⟩ : MethodName)) hown (mvT hZ (hw _ (List.mem_of_getElem? (i := 3) rfl))) (mvT hZ (hw _ (List.mem_of_getElem? (i := 4) rfl))) (mvT hZ (hw _ (List.mem_of_getElem? (i := 5) rfl))) (mvT hZ (hw _ (List.mem_of_getElem? (i := 6) rfl))) (by decide) (backOf (W := 2) (rm1 l Z a0 hw [] (5 : Int32) m3 b4 T185.heap n0 Z192 ) hZ (hw _ (List.mem_of_getElem? (i := 6) rfl)) (hw _ (List.mem_of_getElem? (i := 5) rfl)) (by decide) (by decide)) (g := (mkF m 417 #[.val (.int p0), .val (.int p1), .val (.int p2), .val (.int m3), .val (.int b4), .val (.int (0 : Int32)), .val (.ref b1), .val (.ref b93), .val (.ref b104), .val (.int (0 : Int32))] [(.int b4), (.int m3), (.int (5 : Int32)), (.double (FP.i2d (((5 : Int32) * m3) + b4)))])) rfl (by rw [hml]; rfl) (argsL := [(.int (5 : Int32)), (.int m3), (.int b4)]) (rest := [(.double (FP.i2d (((5 : Int32) * m3) + b4)))]) (lenOf pd_0 rfl) rfl (by show 2 * 0 + _ ≤ _; exact Nat.le_of_eq rfl) (hb hby at_417) (fun _ _ => ⟨rfl, eh202, (by decide : 3 + 0 ≤ _), (by decide : 29 + 0 ≤ _)⟩)
    dsimp only [Pt.U, Pt.locs, Pt.cells, Pt.slots] at X204 l204 y204 z204 st204 hQ204
    rw [l204, y204, z204] at X204
    obtain ⟨N204, eh204, hR204⟩ := hQ204
    have NA204 := Fr.app NA202 N204
    obtain rfl := hR204
    refine Goes.step st204 ?_
    show Goes _ _ _ _ _ _ _ (T204.setTop (mkF m 420 #[.val (.int p0), .val (.int p1), .val (.int p2), .val (.int m3), .val (.int b4), .val (.int (0 : Int32)), .val (.ref b1), .val (.ref b93), .val (.ref b104), .val (.int (0 : Int32))] [(.double (FP.i2d (((5 : Int32) * m3) + b4))), (.double (FP.i2d (((5 : Int32) * m3) + b4)))]))
    refine Goes.step (fun _ k => XS.dcmpS X204.here hx rfl (hb hby at_420) rfl rfl k) ?_
    show Goes _ _ _ _ _ _ _ (T204.setTop (mkF m 421 #[.val (.int p0), .val (.int p1), .val (.int p2), .val (.int m3), .val (.int b4), .val (.int (0 : Int32)), .val (.ref b1), .val (.ref b93), .val (.ref b104), .val (.int (0 : Int32))] [(.int (cmpValue (FP.dcmp (FP.i2d (((5 : Int32) * m3) + b4)) (FP.i2d (((5 : Int32) * m3) + b4))) .l))]))
    refine Goes.step (fun _ k => XS.ifNo X204.here hx rfl (hb hby at_421) rfl ((if0 _ _).trans (teq (own_nn _)).2) k) ?_
    show Goes _ _ _ _ _ _ _ (T204.setTop (mkF m 424 #[.val (.int p0), .val (.int p1), .val (.int p2), .val (.int m3), .val (.int b4), .val (.int (0 : Int32)), .val (.ref b1), .val (.ref b93), .val (.ref b104), .val (.int (0 : Int32))] []))
    refine Goes.step (fun _ k => XS.aload X204.here hx rfl (hb hby at_424) rfl rfl k) ?_
    show Goes _ _ _ _ _ _ _ (T204.setTop (mkF m 426 #[.val (.int p0), .val (.int p1), .val (.int p2), .val (.int m3), .val (.int b4), .val (.int (0 : Int32)), .val (.ref b1), .val (.ref b93), .val (.ref b104), .val (.int (0 : Int32))] [(.ref b104)]))
    refine Goes.step (fun _ k => XS.bipush X204.here hx rfl (hb hby at_426) k) ?_
    show Goes _ _ _ _ _ _ _ (T204.setTop (mkF m 428 #[.val (.int p0), .val (.int p1), .val (.int p2), .val (.int m3), .val (.int b4), .val (.int (0 : Int32)), .val (.ref b1), .val (.ref b93), .val (.ref b104), .val (.int (0 : Int32))] [(.int (6 : Int32)), (.ref b104)]))
    obtain ⟨cl205, Ar205, q205, S205, P205, H205, G205⟩ := id V185
    have hin205 : ¬ ((6 : Int32) < 0 ∨ cl205.slots.size ≤ ((6 : Int32)).toNatClampNeg) := inb_of S205 ⟨by decide, by decide⟩
    have hat205 : cl205.slots[((6 : Int32)).toNatClampNeg]? = some (.double (13830554455654793216 : UInt64)) := H205 _ (by rw [S205]; decide)
    refine Goes.step (fun _ k => X204.daload hx (j := (6 : Int32)) (v := (.double (13830554455654793216 : UInt64))) (by rw [eh204]; exact Ar205.1) (State.isArrayOf_alike hZ.alike Ar205.2.1) Ar205.2.2 hin205 hat205 (g := (mkF m 428 #[.val (.int p0), .val (.int p1), .val (.int p2), .val (.int m3), .val (.int b4), .val (.int (0 : Int32)), .val (.ref b1), .val (.ref b93), .val (.ref b104), .val (.int (0 : Int32))] [(.int (6 : Int32)), (.ref b104)])) rfl rfl (hb hby at_428) _ k) ?_
    show Goes _ _ _ _ _ _ _ (T204.setTop (mkF m 429 #[.val (.int p0), .val (.int p1), .val (.int p2), .val (.int m3), .val (.int b4), .val (.int (0 : Int32)), .val (.ref b1), .val (.ref b93), .val (.ref b104), .val (.int (0 : Int32))] [(.double (13830554455654793216 : UInt64))]))
    refine Goes.step (fun _ k => X204.ldc2DoubleC hx hown (mvT hZ (hw _ (List.mem_of_getElem? (i := 23) rfl))) (g := (mkF m 429 #[.val (.int p0), .val (.int p1), .val (.int p2), .val (.int m3), .val (.int b4), .val (.int (0 : Int32)), .val (.ref b1), .val (.ref b93), .val (.ref b104), .val (.int (0 : Int32))] [(.double (13830554455654793216 : UInt64))])) rfl (hb hby at_429) _ k) ?_
    show Goes _ _ _ _ _ _ _ (T204.setTop (mkF m 432 #[.val (.int p0), .val (.int p1), .val (.int p2), .val (.int m3), .val (.int b4), .val (.int (0 : Int32)), .val (.ref b1), .val (.ref b93), .val (.ref b104), .val (.int (0 : Int32))] [(.double (13830554455654793216 : UInt64)), (.double (13830554455654793216 : UInt64))]))
    refine Goes.step (fun _ k => XS.dcmpS X204.here hx rfl (hb hby at_432) rfl rfl k) ?_
    show Goes _ _ _ _ _ _ _ (T204.setTop (mkF m 433 #[.val (.int p0), .val (.int p1), .val (.int p2), .val (.int m3), .val (.int b4), .val (.int (0 : Int32)), .val (.ref b1), .val (.ref b93), .val (.ref b104), .val (.int (0 : Int32))] [(.int (cmpValue (FP.dcmp (13830554455654793216 : UInt64) (13830554455654793216 : UInt64)) .l))]))
    refine Goes.step (fun _ k => XS.ifNo X204.here hx rfl (hb hby at_433) rfl ((if0 _ _).trans (teq own_m1).2) k) ?_
    show Goes _ _ _ _ _ _ _ (T204.setTop (mkF m 436 #[.val (.int p0), .val (.int p1), .val (.int p2), .val (.int m3), .val (.int b4), .val (.int (0 : Int32)), .val (.ref b1), .val (.ref b93), .val (.ref b104), .val (.int (0 : Int32))] []))
    refine Goes.step (fun _ k => XS.aload X204.here hx rfl (hb hby at_436) rfl rfl k) ?_
    show Goes _ _ _ _ _ _ _ (T204.setTop (mkF m 438 #[.val (.int p0), .val (.int p1), .val (.int p2), .val (.int m3), .val (.int b4), .val (.int (0 : Int32)), .val (.ref b1), .val (.ref b93), .val (.ref b104), .val (.int (0 : Int32))] [(.ref b104)]))
    refine Goes.step (fun _ k => XS.bipush X204.here hx rfl (hb hby at_438) k) ?_
    show Goes _ _ _ _ _ _ _ (T204.setTop (mkF m 440 #[.val (.int p0), .val (.int p1), .val (.int p2), .val (.int m3), .val (.int b4), .val (.int (0 : Int32)), .val (.ref b1), .val (.ref b93), .val (.ref b104), .val (.int (0 : Int32))] [(.int (7 : Int32)), (.ref b104)]))
    obtain ⟨cl206, Ar206, q206, S206, P206, H206, G206⟩ := id V185
    have hin206 : ¬ ((7 : Int32) < 0 ∨ cl206.slots.size ≤ ((7 : Int32)).toNatClampNeg) := inb_of S206 ⟨by decide, by decide⟩
    have hat206 : cl206.slots[((7 : Int32)).toNatClampNeg]? = some (.double (13830554455654793216 : UInt64)) := H206 _ (by rw [S206]; decide)
    refine Goes.step (fun _ k => X204.daload hx (j := (7 : Int32)) (v := (.double (13830554455654793216 : UInt64))) (by rw [eh204]; exact Ar206.1) (State.isArrayOf_alike hZ.alike Ar206.2.1) Ar206.2.2 hin206 hat206 (g := (mkF m 440 #[.val (.int p0), .val (.int p1), .val (.int p2), .val (.int m3), .val (.int b4), .val (.int (0 : Int32)), .val (.ref b1), .val (.ref b93), .val (.ref b104), .val (.int (0 : Int32))] [(.int (7 : Int32)), (.ref b104)])) rfl rfl (hb hby at_440) _ k) ?_
    show Goes _ _ _ _ _ _ _ (T204.setTop (mkF m 441 #[.val (.int p0), .val (.int p1), .val (.int p2), .val (.int m3), .val (.int b4), .val (.int (0 : Int32)), .val (.ref b1), .val (.ref b93), .val (.ref b104), .val (.int (0 : Int32))] [(.double (13830554455654793216 : UInt64))]))
    refine Goes.step (fun _ k => X204.ldc2DoubleC hx hown (mvT hZ (hw _ (List.mem_of_getElem? (i := 23) rfl))) (g := (mkF m 441 #[.val (.int p0), .val (.int p1), .val (.int p2), .val (.int m3), .val (.int b4), .val (.int (0 : Int32)), .val (.ref b1), .val (.ref b93), .val (.ref b104), .val (.int (0 : Int32))] [(.double (13830554455654793216 : UInt64))])) rfl (hb hby at_441) _ k) ?_
    show Goes _ _ _ _ _ _ _ (T204.setTop (mkF m 444 #[.val (.int p0), .val (.int p1), .val (.int p2), .val (.int m3), .val (.int b4), .val (.int (0 : Int32)), .val (.ref b1), .val (.ref b93), .val (.ref b104), .val (.int (0 : Int32))] [(.double (13830554455654793216 : UInt64)), (.double (13830554455654793216 : UInt64))]))
    refine Goes.step (fun _ k => XS.dcmpS X204.here hx rfl (hb hby at_444) rfl rfl k) ?_
    show Goes _ _ _ _ _ _ _ (T204.setTop (mkF m 445 #[.val (.int p0), .val (.int p1), .val (.int p2), .val (.int m3), .val (.int b4), .val (.int (0 : Int32)), .val (.ref b1), .val (.ref b93), .val (.ref b104), .val (.int (0 : Int32))] [(.int (cmpValue (FP.dcmp (13830554455654793216 : UInt64) (13830554455654793216 : UInt64)) .l))]))
    refine Goes.step (fun _ k => XS.ifNo X204.here hx rfl (hb hby at_445) rfl ((if0 _ _).trans (teq own_m1).2) k) ?_
    show Goes _ _ _ _ _ _ _ (T204.setTop (mkF m 448 #[.val (.int p0), .val (.int p1), .val (.int p2), .val (.int m3), .val (.int b4), .val (.int (0 : Int32)), .val (.ref b1), .val (.ref b93), .val (.ref b104), .val (.int (0 : Int32))] []))
    refine Goes.step (fun _ k => XS.aload X204.here hx rfl (hb hby at_448) rfl rfl k) ?_
    show Goes _ _ _ _ _ _ _ (T204.setTop (mkF m 450 #[.val (.int p0), .val (.int p1), .val (.int p2), .val (.int m3), .val (.int b4), .val (.int (0 : Int32)), .val (.ref b1), .val (.ref b93), .val (.ref b104), .val (.int (0 : Int32))] [(.ref b93)]))
    obtain ⟨cq207, kq207, q207a, q207b, q207c⟩ := isOf hZ eh204 f187
    obtain ⟨_, _, ⟨T207, L207, k207, n207⟩, -, X207, ⟨Lc207, hQ207, l207, y207, z207⟩, st207⟩ := X204.virtualBack hx (y := (⟨"com/example/orbitloom/orbitloom/orbits/Track", "size", "()I"⟩ : MethodName)) (z := (⟨"com/example/orbitloom/orbitloom/orbits/Track", "size", "()I"⟩ : MethodName)) hown (mvT hZ (hw _ (List.mem_of_getElem? (i := 33) rfl))) (mvT hZ (hw _ (List.mem_of_getElem? (i := 34) rfl))) (notFace_of_selects (args := #[]) (mvT hZ (hw _ (List.mem_of_getElem? (i := 36) rfl)))) (mvT hZ (hw _ (List.mem_of_getElem? (i := 36) rfl))) (mvT hZ (hw _ (List.mem_of_getElem? (i := 35) rfl))) (by decide) (backOf (W := 0) (rm5 l Z a0 hw [] b93 (3 : Int32) T185.heap n0 Z192 f190) hZ (hw _ (List.mem_of_getElem? (i := 37) rfl)) (hw _ (List.mem_of_getElem? (i := 9) rfl)) (by decide) (by decide)) q207a q207c (g := (mkF m 450 #[.val (.int p0), .val (.int p1), .val (.int p2), .val (.int m3), .val (.int b4), .val (.int (0 : Int32)), .val (.ref b1), .val (.ref b93), .val (.ref b104), .val (.int (0 : Int32))] [(.ref b93)])) rfl (by rw [hml]; rfl) (Steps.refl _) (argsL := []) (rest := []) (lenOf pd_5 rfl) rfl (by show 2 * 0 + _ ≤ _; exact Nat.le_of_eq rfl) (hb hby at_450) (fun _ _ => ⟨rfl, eh204, (by decide : 3 + 0 ≤ _), (by decide : 29 + 0 ≤ _)⟩)
    dsimp only [Pt.U, Pt.locs, Pt.cells, Pt.slots] at X207 l207 y207 z207 st207 hQ207
    rw [l207, y207, z207] at X207
    obtain ⟨N207, eh207, hR207⟩ := hQ207
    have NA207 := Fr.app NA204 N207
    obtain rfl := hR207
    refine Goes.back st207 ?_
    show Goes _ _ _ _ _ _ _ (T207.setTop (mkF m 453 #[.val (.int p0), .val (.int p1), .val (.int p2), .val (.int m3), .val (.int b4), .val (.int (0 : Int32)), .val (.ref b1), .val (.ref b93), .val (.ref b104), .val (.int (0 : Int32))] [(.int (3 : Int32))]))
    refine Goes.step (fun _ k => XS.iconst X207.here hx rfl (hb hby at_453) k) ?_
    show Goes _ _ _ _ _ _ _ (T207.setTop (mkF m 454 #[.val (.int p0), .val (.int p1), .val (.int p2), .val (.int m3), .val (.int b4), .val (.int (0 : Int32)), .val (.ref b1), .val (.ref b93), .val (.ref b104), .val (.int (0 : Int32))] [(.int (3 : Int32)), (.int (3 : Int32))]))
    refine Goes.step (fun _ k => XS.icmpNo X207.here hx rfl (hb hby at_454) rfl (teq (by decide : (3 : Int32) = (3 : Int32))).2 k) ?_
    show Goes _ _ _ _ _ _ _ (T207.setTop (mkF m 457 #[.val (.int p0), .val (.int p1), .val (.int p2), .val (.int m3), .val (.int b4), .val (.int (0 : Int32)), .val (.ref b1), .val (.ref b93), .val (.ref b104), .val (.int (0 : Int32))] []))
    refine Goes.step (fun _ k => XS.iconst X207.here hx rfl (hb hby at_457) k) ?_
    show Goes _ _ _ _ _ _ _ (T207.setTop (mkF m 458 #[.val (.int p0), .val (.int p1), .val (.int p2), .val (.int m3), .val (.int b4), .val (.int (0 : Int32)), .val (.ref b1), .val (.ref b93), .val (.ref b104), .val (.int (0 : Int32))] [(.int (1 : Int32))]))
    refine Goes.step (fun _ k => XS.goto X207.here hx rfl (pc0 := 458) (pc' := 462) rfl (hb hby at_458) (by decide) (by decide) k) ?_
    show Goes _ _ _ _ _ _ _ (T207.setTop (mkF m 462 #[.val (.int p0), .val (.int p1), .val (.int p2), .val (.int m3), .val (.int b4), .val (.int (0 : Int32)), .val (.ref b1), .val (.ref b93), .val (.ref b104), .val (.int (0 : Int32))] [(.int (1 : Int32))]))
    exact Goes.ret X207 hx (BodyLoose.notSynchronized Bd) Bd.returns rfl (Or.inl ⟨rfl, by simp, _, rfl⟩) (hb hby at_462) (by show Q0 Z p0 p1 p2 h0 n0 (some (.int (1 : Int32))) T207.heap _; rw [eh207]; exact ⟨rfl, NA207⟩) (by decide) (by decide)
  · show Goes _ _ _ _ _ _ _ (T177.setTop (mkF m 302 #[.val (.int p0), .val (.int p1), .val (.int p2), .val (.int m3), .val (.int b4), .val (.int (1 : Int32)), .val (.ref b1), .val (.ref b93), .val (.ref b104), .unset] []))
    refine Goes.step (fun _ k => XS.aload X177.here hx rfl (hb hby at_302) rfl rfl k) ?_
    show Goes _ _ _ _ _ _ _ (T177.setTop (mkF m 304 #[.val (.int p0), .val (.int p1), .val (.int p2), .val (.int m3), .val (.int b4), .val (.int (1 : Int32)), .val (.ref b1), .val (.ref b93), .val (.ref b104), .unset] [(.ref b93)]))
    refine Goes.step (fun _ k => XS.iload X177.here hx rfl (hb hby at_304) rfl  k) ?_
    show Goes _ _ _ _ _ _ _ (T177.setTop (mkF m 306 #[.val (.int p0), .val (.int p1), .val (.int p2), .val (.int m3), .val (.int b4), .val (.int (1 : Int32)), .val (.ref b1), .val (.ref b93), .val (.ref b104), .unset] [(.int (1 : Int32)), (.ref b93)]))
    refine Goes.step (fun _ k => XS.aload X177.here hx rfl (hb hby at_306) rfl rfl k) ?_
    show Goes _ _ _ _ _ _ _ (T177.setTop (mkF m 308 #[.val (.int p0), .val (.int p1), .val (.int p2), .val (.int m3), .val (.int b4), .val (.int (1 : Int32)), .val (.ref b1), .val (.ref b93), .val (.ref b104), .unset] [(.ref b104), (.int (1 : Int32)), (.ref b93)]))
    obtain ⟨cq208, kq208, q208a, q208b, q208c⟩ := isOf hZ e177 f179
    obtain ⟨_, _, ⟨T208, L208, k208, n208⟩, -, X208, ⟨Lc208, hQ208, l208, y208, z208⟩, st208⟩ := X177.virtualBack hx (y := (⟨"com/example/orbitloom/orbitloom/orbits/Track", "sample", "(I[D)V"⟩ : MethodName)) (z := (⟨"com/example/orbitloom/orbitloom/orbits/Track", "sample", "(I[D)V"⟩ : MethodName)) hown (mvT hZ (hw _ (List.mem_of_getElem? (i := 24) rfl))) (mvT hZ (hw _ (List.mem_of_getElem? (i := 25) rfl))) (notFace_of_selects (args := #[]) (mvT hZ (hw _ (List.mem_of_getElem? (i := 27) rfl)))) (mvT hZ (hw _ (List.mem_of_getElem? (i := 27) rfl))) (mvT hZ (hw _ (List.mem_of_getElem? (i := 26) rfl))) (by decide) (backOf (W := 0) (rm4_1 l Z a0 hw [] b93 b104 b1 k1 k104 [(.double (FP.i2d (((0 : Int32) * m3) + b4))), (.double (FP.i2d (((1 : Int32) * m3) + b4))), (.double (FP.i2d (((2 : Int32) * m3) + b4))), (.double (FP.i2d (((3 : Int32) * m3) + b4))), (.double (FP.i2d (((4 : Int32) * m3) + b4))), (.double (FP.i2d (((5 : Int32) * m3) + b4))), (.double (FP.i2d (((6 : Int32) * m3) + b4))), (.double (FP.i2d (((7 : Int32) * m3) + b4))), (.double (FP.i2d (((8 : Int32) * m3) + b4))), (.double (FP.i2d (((9 : Int32) * m3) + b4))), (.double (FP.i2d (((10 : Int32) * m3) + b4))), (.double (FP.i2d (((11 : Int32) * m3) + b4))), (.double (FP.i2d (((12 : Int32) * m3) + b4))), (.double (FP.i2d (((13 : Int32) * m3) + b4))), (.double (FP.i2d (((14 : Int32) * m3) + b4))), (.double (FP.i2d (((15 : Int32) * m3) + b4))), (.double (FP.i2d (((16 : Int32) * m3) + b4))), (.double (FP.i2d (((17 : Int32) * m3) + b4)))] [(.double (13830554455654793216 : UInt64)), (.double (13830554455654793216 : UInt64)), (.double (13830554455654793216 : UInt64)), (.double (13830554455654793216 : UInt64)), (.double (13830554455654793216 : UInt64)), (.double (13830554455654793216 : UInt64)), (.double (13830554455654793216 : UInt64)), (.double (13830554455654793216 : UInt64))] (.double (0 : UInt64)) (.double (0 : UInt64)) h177 n0 Z184 f181 f178 f183 rfl rfl g_b104 ne105 ne106) hZ (hw _ (List.mem_of_getElem? (i := 28) rfl)) (hw _ (List.mem_of_getElem? (i := 9) rfl)) (by decide) (by decide)) q208a q208c (g := (mkF m 308 #[.val (.int p0), .val (.int p1), .val (.int p2), .val (.int m3), .val (.int b4), .val (.int (1 : Int32)), .val (.ref b1), .val (.ref b93), .val (.ref b104), .unset] [(.ref b104), (.int (1 : Int32)), (.ref b93)])) rfl (by rw [hml]; rfl) (Steps.refl _) (argsL := [(.int (1 : Int32)), (.ref b104)]) (rest := []) (lenOf pd_3 rfl) rfl (by show 2 * 0 + _ ≤ _; exact Nat.le_of_eq rfl) (hb hby at_308) (fun _ _ => ⟨rfl, e177, (by decide : 3 + 0 ≤ _), (by decide : 29 + 0 ≤ _)⟩)
    dsimp only [Pt.U, Pt.locs, Pt.cells, Pt.slots] at X208 l208 y208 z208 st208 hQ208
    rw [l208, y208, z208] at X208
    obtain ⟨N208, KK208, rfl, VV208⟩ := hQ208
    have NA208 := Fr.app N184 N208
    have f209 := f178.keep KK208 (ninS ne105 nin0)
    have f210 := f179.keep KK208
    have f211 := f180.keep KK208 (ninS ne106 nin0)
    have f212 := f181.keep KK208 (ninS ne106 nin0)
    have f213 := f182.keep KK208 (ninS ne106 nin0)
    have K215 : Keep h0 T208.heap [] := K184.trans KK208 (allS (Or.inr sz_b104) all0)
    have Z215 : n0 ≤ T208.heap.size := Nat.le_trans Z184 KK208.1
    have V208 : Arv Z T208.heap b104 k104 .double (8 : Int32) [(.double (FP.i2d (((6 : Int32) * m3) + b4))), (.double (FP.i2d (((7 : Int32) * m3) + b4))), (.double (FP.i2d (((8 : Int32) * m3) + b4))), (.double (FP.i2d (((9 : Int32) * m3) + b4))), (.double (FP.i2d (((10 : Int32) * m3) + b4))), (.double (FP.i2d (((11 : Int32) * m3) + b4))), (.double (13830554455654793216 : UInt64)), (.double (13830554455654793216 : UInt64))] (.double (0 : UInt64)) := VV208
    refine Goes.back st208 ?_
    show Goes _ _ _ _ _ _ _ (T208.setTop (mkF m 311 #[.val (.int p0), .val (.int p1), .val (.int p2), .val (.int m3), .val (.int b4), .val (.int (1 : Int32)), .val (.ref b1), .val (.ref b93), .val (.ref b104), .unset] []))
    refine Goes.step (fun _ k => XS.iload X208.here hx rfl (hb hby at_311) rfl  k) ?_
    show Goes _ _ _ _ _ _ _ (T208.setTop (mkF m 313 #[.val (.int p0), .val (.int p1), .val (.int p2), .val (.int m3), .val (.int b4), .val (.int (1 : Int32)), .val (.ref b1), .val (.ref b93), .val (.ref b104), .unset] [(.int (1 : Int32))]))
    refine Goes.step (fun _ k => XS.bipush X208.here hx rfl (hb hby at_313) k) ?_
    show Goes _ _ _ _ _ _ _ (T208.setTop (mkF m 315 #[.val (.int p0), .val (.int p1), .val (.int p2), .val (.int m3), .val (.int b4), .val (.int (1 : Int32)), .val (.ref b1), .val (.ref b93), .val (.ref b104), .unset] [(.int (6 : Int32)), (.int (1 : Int32))]))
    refine Goes.step (fun _ k => XS.imul X208.here hx rfl (hb hby at_315) rfl k) ?_
    show Goes _ _ _ _ _ _ _ (T208.setTop (mkF m 316 #[.val (.int p0), .val (.int p1), .val (.int p2), .val (.int m3), .val (.int b4), .val (.int (1 : Int32)), .val (.ref b1), .val (.ref b93), .val (.ref b104), .unset] [(.int (6 : Int32))]))
    refine Goes.step (fun _ k => XS.istore X208.here hx rfl (hb hby at_316) rfl (l' := #[.val (.int p0), .val (.int p1), .val (.int p2), .val (.int m3), .val (.int b4), .val (.int (1 : Int32)), .val (.ref b1), .val (.ref b93), .val (.ref b104), .val (.int (6 : Int32))]) rfl k) ?_
    show Goes _ _ _ _ _ _ _ (T208.setTop (mkF m 318 #[.val (.int p0), .val (.int p1), .val (.int p2), .val (.int m3), .val (.int b4), .val (.int (1 : Int32)), .val (.ref b1), .val (.ref b93), .val (.ref b104), .val (.int (6 : Int32))] []))
    refine Goes.step (fun _ k => XS.aload X208.here hx rfl (hb hby at_318) rfl rfl k) ?_
    show Goes _ _ _ _ _ _ _ (T208.setTop (mkF m 320 #[.val (.int p0), .val (.int p1), .val (.int p2), .val (.int m3), .val (.int b4), .val (.int (1 : Int32)), .val (.ref b1), .val (.ref b93), .val (.ref b104), .val (.int (6 : Int32))] [(.ref b104)]))
    refine Goes.step (fun _ k => XS.iconst X208.here hx rfl (hb hby at_320) k) ?_
    show Goes _ _ _ _ _ _ _ (T208.setTop (mkF m 321 #[.val (.int p0), .val (.int p1), .val (.int p2), .val (.int m3), .val (.int b4), .val (.int (1 : Int32)), .val (.ref b1), .val (.ref b93), .val (.ref b104), .val (.int (6 : Int32))] [(.int (0 : Int32)), (.ref b104)]))
    obtain ⟨cl216, Ar216, q216, S216, P216, H216, G216⟩ := id V208
    have hin216 : ¬ ((0 : Int32) < 0 ∨ cl216.slots.size ≤ ((0 : Int32)).toNatClampNeg) := inb_of S216 ⟨by decide, by decide⟩
    have hat216 : cl216.slots[((0 : Int32)).toNatClampNeg]? = some (.double (FP.i2d (((6 : Int32) * m3) + b4))) := H216 _ (by rw [S216]; decide)
    refine Goes.step (fun _ k => X208.daload hx (j := (0 : Int32)) (v := (.double (FP.i2d (((6 : Int32) * m3) + b4)))) (by exact Ar216.1) (State.isArrayOf_alike hZ.alike Ar216.2.1) Ar216.2.2 hin216 hat216 (g := (mkF m 321 #[.val (.int p0), .val (.int p1), .val (.int p2), .val (.int m3), .val (.int b4), .val (.int (1 : Int32)), .val (.ref b1), .val (.ref b93), .val (.ref b104), .val (.int (6 : Int32))] [(.int (0 : Int32)), (.ref b104)])) rfl rfl (hb hby at_321) _ k) ?_
    show Goes _ _ _ _ _ _ _ (T208.setTop (mkF m 322 #[.val (.int p0), .val (.int p1), .val (.int p2), .val (.int m3), .val (.int b4), .val (.int (1 : Int32)), .val (.ref b1), .val (.ref b93), .val (.ref b104), .val (.int (6 : Int32))] [(.double (FP.i2d (((6 : Int32) * m3) + b4)))]))
    refine Goes.step (fun _ k => XS.iload X208.here hx rfl (hb hby at_322) rfl  k) ?_
    show Goes _ _ _ _ _ _ _ (T208.setTop (mkF m 324 #[.val (.int p0), .val (.int p1), .val (.int p2), .val (.int m3), .val (.int b4), .val (.int (1 : Int32)), .val (.ref b1), .val (.ref b93), .val (.ref b104), .val (.int (6 : Int32))] [(.int (6 : Int32)), (.double (FP.i2d (((6 : Int32) * m3) + b4)))]))
    refine Goes.step (fun _ k => XS.iloadN X208.here hx rfl (hb hby at_324) rfl  k) ?_
    show Goes _ _ _ _ _ _ _ (T208.setTop (mkF m 325 #[.val (.int p0), .val (.int p1), .val (.int p2), .val (.int m3), .val (.int b4), .val (.int (1 : Int32)), .val (.ref b1), .val (.ref b93), .val (.ref b104), .val (.int (6 : Int32))] [(.int m3), (.int (6 : Int32)), (.double (FP.i2d (((6 : Int32) * m3) + b4)))]))
    refine Goes.step (fun _ k => XS.iload X208.here hx rfl (hb hby at_325) rfl  k) ?_
    show Goes _ _ _ _ _ _ _ (T208.setTop (mkF m 327 #[.val (.int p0), .val (.int p1), .val (.int p2), .val (.int m3), .val (.int b4), .val (.int (1 : Int32)), .val (.ref b1), .val (.ref b93), .val (.ref b104), .val (.int (6 : Int32))] [(.int b4), (.int m3), (.int (6 : Int32)), (.double (FP.i2d (((6 : Int32) * m3) + b4)))]))
    obtain ⟨_, _, ⟨T217, L217, k217, n217⟩, -, X217, ⟨Lc217, hQ217, l217, y217, z217⟩, st217⟩ := Jvm.LawKit.callS X208 hx (y := (⟨"com/example/orbitloom/orbitloom/orbits/TrackSamplePinLaw", "v", "(III)D"⟩ : MethodName)) hown (mvT hZ (hw _ (List.mem_of_getElem? (i := 3) rfl))) (mvT hZ (hw _ (List.mem_of_getElem? (i := 4) rfl))) (mvT hZ (hw _ (List.mem_of_getElem? (i := 5) rfl))) (mvT hZ (hw _ (List.mem_of_getElem? (i := 6) rfl))) (by decide) (backOf (W := 2) (rm1 l Z a0 hw [] (6 : Int32) m3 b4 T208.heap n0 Z215 ) hZ (hw _ (List.mem_of_getElem? (i := 6) rfl)) (hw _ (List.mem_of_getElem? (i := 5) rfl)) (by decide) (by decide)) (g := (mkF m 327 #[.val (.int p0), .val (.int p1), .val (.int p2), .val (.int m3), .val (.int b4), .val (.int (1 : Int32)), .val (.ref b1), .val (.ref b93), .val (.ref b104), .val (.int (6 : Int32))] [(.int b4), (.int m3), (.int (6 : Int32)), (.double (FP.i2d (((6 : Int32) * m3) + b4)))])) rfl (by rw [hml]; rfl) (argsL := [(.int (6 : Int32)), (.int m3), (.int b4)]) (rest := [(.double (FP.i2d (((6 : Int32) * m3) + b4)))]) (lenOf pd_0 rfl) rfl (by show 2 * 0 + _ ≤ _; exact Nat.le_of_eq rfl) (hb hby at_327) (fun _ _ => ⟨rfl, rfl, (by decide : 3 + 0 ≤ _), (by decide : 29 + 0 ≤ _)⟩)
    dsimp only [Pt.U, Pt.locs, Pt.cells, Pt.slots] at X217 l217 y217 z217 st217 hQ217
    rw [l217, y217, z217] at X217
    obtain ⟨N217, eh217, hR217⟩ := hQ217
    have NA217 := Fr.app NA208 N217
    obtain rfl := hR217
    refine Goes.step st217 ?_
    show Goes _ _ _ _ _ _ _ (T217.setTop (mkF m 330 #[.val (.int p0), .val (.int p1), .val (.int p2), .val (.int m3), .val (.int b4), .val (.int (1 : Int32)), .val (.ref b1), .val (.ref b93), .val (.ref b104), .val (.int (6 : Int32))] [(.double (FP.i2d (((6 : Int32) * m3) + b4))), (.double (FP.i2d (((6 : Int32) * m3) + b4)))]))
    refine Goes.step (fun _ k => XS.dcmpS X217.here hx rfl (hb hby at_330) rfl rfl k) ?_
    show Goes _ _ _ _ _ _ _ (T217.setTop (mkF m 331 #[.val (.int p0), .val (.int p1), .val (.int p2), .val (.int m3), .val (.int b4), .val (.int (1 : Int32)), .val (.ref b1), .val (.ref b93), .val (.ref b104), .val (.int (6 : Int32))] [(.int (cmpValue (FP.dcmp (FP.i2d (((6 : Int32) * m3) + b4)) (FP.i2d (((6 : Int32) * m3) + b4))) .l))]))
    refine Goes.step (fun _ k => XS.ifNo X217.here hx rfl (hb hby at_331) rfl ((if0 _ _).trans (teq (own_nn _)).2) k) ?_
    show Goes _ _ _ _ _ _ _ (T217.setTop (mkF m 334 #[.val (.int p0), .val (.int p1), .val (.int p2), .val (.int m3), .val (.int b4), .val (.int (1 : Int32)), .val (.ref b1), .val (.ref b93), .val (.ref b104), .val (.int (6 : Int32))] []))
    refine Goes.step (fun _ k => XS.aload X217.here hx rfl (hb hby at_334) rfl rfl k) ?_
    show Goes _ _ _ _ _ _ _ (T217.setTop (mkF m 336 #[.val (.int p0), .val (.int p1), .val (.int p2), .val (.int m3), .val (.int b4), .val (.int (1 : Int32)), .val (.ref b1), .val (.ref b93), .val (.ref b104), .val (.int (6 : Int32))] [(.ref b104)]))
    refine Goes.step (fun _ k => XS.iconst X217.here hx rfl (hb hby at_336) k) ?_
    show Goes _ _ _ _ _ _ _ (T217.setTop (mkF m 337 #[.val (.int p0), .val (.int p1), .val (.int p2), .val (.int m3), .val (.int b4), .val (.int (1 : Int32)), .val (.ref b1), .val (.ref b93), .val (.ref b104), .val (.int (6 : Int32))] [(.int (1 : Int32)), (.ref b104)]))
    obtain ⟨cl218, Ar218, q218, S218, P218, H218, G218⟩ := id V208
    have hin218 : ¬ ((1 : Int32) < 0 ∨ cl218.slots.size ≤ ((1 : Int32)).toNatClampNeg) := inb_of S218 ⟨by decide, by decide⟩
    have hat218 : cl218.slots[((1 : Int32)).toNatClampNeg]? = some (.double (FP.i2d (((7 : Int32) * m3) + b4))) := H218 _ (by rw [S218]; decide)
    refine Goes.step (fun _ k => X217.daload hx (j := (1 : Int32)) (v := (.double (FP.i2d (((7 : Int32) * m3) + b4)))) (by rw [eh217]; exact Ar218.1) (State.isArrayOf_alike hZ.alike Ar218.2.1) Ar218.2.2 hin218 hat218 (g := (mkF m 337 #[.val (.int p0), .val (.int p1), .val (.int p2), .val (.int m3), .val (.int b4), .val (.int (1 : Int32)), .val (.ref b1), .val (.ref b93), .val (.ref b104), .val (.int (6 : Int32))] [(.int (1 : Int32)), (.ref b104)])) rfl rfl (hb hby at_337) _ k) ?_
    show Goes _ _ _ _ _ _ _ (T217.setTop (mkF m 338 #[.val (.int p0), .val (.int p1), .val (.int p2), .val (.int m3), .val (.int b4), .val (.int (1 : Int32)), .val (.ref b1), .val (.ref b93), .val (.ref b104), .val (.int (6 : Int32))] [(.double (FP.i2d (((7 : Int32) * m3) + b4)))]))
    refine Goes.step (fun _ k => XS.iload X217.here hx rfl (hb hby at_338) rfl  k) ?_
    show Goes _ _ _ _ _ _ _ (T217.setTop (mkF m 340 #[.val (.int p0), .val (.int p1), .val (.int p2), .val (.int m3), .val (.int b4), .val (.int (1 : Int32)), .val (.ref b1), .val (.ref b93), .val (.ref b104), .val (.int (6 : Int32))] [(.int (6 : Int32)), (.double (FP.i2d (((7 : Int32) * m3) + b4)))]))
    refine Goes.step (fun _ k => XS.iconst X217.here hx rfl (hb hby at_340) k) ?_
    show Goes _ _ _ _ _ _ _ (T217.setTop (mkF m 341 #[.val (.int p0), .val (.int p1), .val (.int p2), .val (.int m3), .val (.int b4), .val (.int (1 : Int32)), .val (.ref b1), .val (.ref b93), .val (.ref b104), .val (.int (6 : Int32))] [(.int (1 : Int32)), (.int (6 : Int32)), (.double (FP.i2d (((7 : Int32) * m3) + b4)))]))
    refine Goes.step (fun _ k => XS.iadd X217.here hx rfl (hb hby at_341) rfl k) ?_
    show Goes _ _ _ _ _ _ _ (T217.setTop (mkF m 342 #[.val (.int p0), .val (.int p1), .val (.int p2), .val (.int m3), .val (.int b4), .val (.int (1 : Int32)), .val (.ref b1), .val (.ref b93), .val (.ref b104), .val (.int (6 : Int32))] [(.int (7 : Int32)), (.double (FP.i2d (((7 : Int32) * m3) + b4)))]))
    refine Goes.step (fun _ k => XS.iloadN X217.here hx rfl (hb hby at_342) rfl  k) ?_
    show Goes _ _ _ _ _ _ _ (T217.setTop (mkF m 343 #[.val (.int p0), .val (.int p1), .val (.int p2), .val (.int m3), .val (.int b4), .val (.int (1 : Int32)), .val (.ref b1), .val (.ref b93), .val (.ref b104), .val (.int (6 : Int32))] [(.int m3), (.int (7 : Int32)), (.double (FP.i2d (((7 : Int32) * m3) + b4)))]))
    refine Goes.step (fun _ k => XS.iload X217.here hx rfl (hb hby at_343) rfl  k) ?_
    show Goes _ _ _ _ _ _ _ (T217.setTop (mkF m 345 #[.val (.int p0), .val (.int p1), .val (.int p2), .val (.int m3), .val (.int b4), .val (.int (1 : Int32)), .val (.ref b1), .val (.ref b93), .val (.ref b104), .val (.int (6 : Int32))] [(.int b4), (.int m3), (.int (7 : Int32)), (.double (FP.i2d (((7 : Int32) * m3) + b4)))]))
    obtain ⟨_, _, ⟨T219, L219, k219, n219⟩, -, X219, ⟨Lc219, hQ219, l219, y219, z219⟩, st219⟩ := Jvm.LawKit.callS X217 hx (y := (⟨"com/example/orbitloom/orbitloom/orbits/TrackSamplePinLaw", "v", "(III)D"⟩ : MethodName)) hown (mvT hZ (hw _ (List.mem_of_getElem? (i := 3) rfl))) (mvT hZ (hw _ (List.mem_of_getElem? (i := 4) rfl))) (mvT hZ (hw _ (List.mem_of_getElem? (i := 5) rfl))) (mvT hZ (hw _ (List.mem_of_getElem? (i := 6) rfl))) (by decide) (backOf (W := 2) (rm1 l Z a0 hw [] (7 : Int32) m3 b4 T208.heap n0 Z215 ) hZ (hw _ (List.mem_of_getElem? (i := 6) rfl)) (hw _ (List.mem_of_getElem? (i := 5) rfl)) (by decide) (by decide)) (g := (mkF m 345 #[.val (.int p0), .val (.int p1), .val (.int p2), .val (.int m3), .val (.int b4), .val (.int (1 : Int32)), .val (.ref b1), .val (.ref b93), .val (.ref b104), .val (.int (6 : Int32))] [(.int b4), (.int m3), (.int (7 : Int32)), (.double (FP.i2d (((7 : Int32) * m3) + b4)))])) rfl (by rw [hml]; rfl) (argsL := [(.int (7 : Int32)), (.int m3), (.int b4)]) (rest := [(.double (FP.i2d (((7 : Int32) * m3) + b4)))]) (lenOf pd_0 rfl) rfl (by show 2 * 0 + _ ≤ _; exact Nat.le_of_eq rfl) (hb hby at_345) (fun _ _ => ⟨rfl, eh217, (by decide : 3 + 0 ≤ _), (by decide : 29 + 0 ≤ _)⟩)
    dsimp only [Pt.U, Pt.locs, Pt.cells, Pt.slots] at X219 l219 y219 z219 st219 hQ219
    rw [l219, y219, z219] at X219
    obtain ⟨N219, eh219, hR219⟩ := hQ219
    have NA219 := Fr.app NA217 N219
    obtain rfl := hR219
    refine Goes.step st219 ?_
    show Goes _ _ _ _ _ _ _ (T219.setTop (mkF m 348 #[.val (.int p0), .val (.int p1), .val (.int p2), .val (.int m3), .val (.int b4), .val (.int (1 : Int32)), .val (.ref b1), .val (.ref b93), .val (.ref b104), .val (.int (6 : Int32))] [(.double (FP.i2d (((7 : Int32) * m3) + b4))), (.double (FP.i2d (((7 : Int32) * m3) + b4)))]))
    refine Goes.step (fun _ k => XS.dcmpS X219.here hx rfl (hb hby at_348) rfl rfl k) ?_
    show Goes _ _ _ _ _ _ _ (T219.setTop (mkF m 349 #[.val (.int p0), .val (.int p1), .val (.int p2), .val (.int m3), .val (.int b4), .val (.int (1 : Int32)), .val (.ref b1), .val (.ref b93), .val (.ref b104), .val (.int (6 : Int32))] [(.int (cmpValue (FP.dcmp (FP.i2d (((7 : Int32) * m3) + b4)) (FP.i2d (((7 : Int32) * m3) + b4))) .l))]))
    refine Goes.step (fun _ k => XS.ifNo X219.here hx rfl (hb hby at_349) rfl ((if0 _ _).trans (teq (own_nn _)).2) k) ?_
    show Goes _ _ _ _ _ _ _ (T219.setTop (mkF m 352 #[.val (.int p0), .val (.int p1), .val (.int p2), .val (.int m3), .val (.int b4), .val (.int (1 : Int32)), .val (.ref b1), .val (.ref b93), .val (.ref b104), .val (.int (6 : Int32))] []))
    refine Goes.step (fun _ k => XS.aload X219.here hx rfl (hb hby at_352) rfl rfl k) ?_
    show Goes _ _ _ _ _ _ _ (T219.setTop (mkF m 354 #[.val (.int p0), .val (.int p1), .val (.int p2), .val (.int m3), .val (.int b4), .val (.int (1 : Int32)), .val (.ref b1), .val (.ref b93), .val (.ref b104), .val (.int (6 : Int32))] [(.ref b104)]))
    refine Goes.step (fun _ k => XS.iconst X219.here hx rfl (hb hby at_354) k) ?_
    show Goes _ _ _ _ _ _ _ (T219.setTop (mkF m 355 #[.val (.int p0), .val (.int p1), .val (.int p2), .val (.int m3), .val (.int b4), .val (.int (1 : Int32)), .val (.ref b1), .val (.ref b93), .val (.ref b104), .val (.int (6 : Int32))] [(.int (2 : Int32)), (.ref b104)]))
    obtain ⟨cl220, Ar220, q220, S220, P220, H220, G220⟩ := id V208
    have hin220 : ¬ ((2 : Int32) < 0 ∨ cl220.slots.size ≤ ((2 : Int32)).toNatClampNeg) := inb_of S220 ⟨by decide, by decide⟩
    have hat220 : cl220.slots[((2 : Int32)).toNatClampNeg]? = some (.double (FP.i2d (((8 : Int32) * m3) + b4))) := H220 _ (by rw [S220]; decide)
    refine Goes.step (fun _ k => X219.daload hx (j := (2 : Int32)) (v := (.double (FP.i2d (((8 : Int32) * m3) + b4)))) (by rw [eh219]; exact Ar220.1) (State.isArrayOf_alike hZ.alike Ar220.2.1) Ar220.2.2 hin220 hat220 (g := (mkF m 355 #[.val (.int p0), .val (.int p1), .val (.int p2), .val (.int m3), .val (.int b4), .val (.int (1 : Int32)), .val (.ref b1), .val (.ref b93), .val (.ref b104), .val (.int (6 : Int32))] [(.int (2 : Int32)), (.ref b104)])) rfl rfl (hb hby at_355) _ k) ?_
    show Goes _ _ _ _ _ _ _ (T219.setTop (mkF m 356 #[.val (.int p0), .val (.int p1), .val (.int p2), .val (.int m3), .val (.int b4), .val (.int (1 : Int32)), .val (.ref b1), .val (.ref b93), .val (.ref b104), .val (.int (6 : Int32))] [(.double (FP.i2d (((8 : Int32) * m3) + b4)))]))
    refine Goes.step (fun _ k => XS.iload X219.here hx rfl (hb hby at_356) rfl  k) ?_
    show Goes _ _ _ _ _ _ _ (T219.setTop (mkF m 358 #[.val (.int p0), .val (.int p1), .val (.int p2), .val (.int m3), .val (.int b4), .val (.int (1 : Int32)), .val (.ref b1), .val (.ref b93), .val (.ref b104), .val (.int (6 : Int32))] [(.int (6 : Int32)), (.double (FP.i2d (((8 : Int32) * m3) + b4)))]))
    refine Goes.step (fun _ k => XS.iconst X219.here hx rfl (hb hby at_358) k) ?_
    show Goes _ _ _ _ _ _ _ (T219.setTop (mkF m 359 #[.val (.int p0), .val (.int p1), .val (.int p2), .val (.int m3), .val (.int b4), .val (.int (1 : Int32)), .val (.ref b1), .val (.ref b93), .val (.ref b104), .val (.int (6 : Int32))] [(.int (2 : Int32)), (.int (6 : Int32)), (.double (FP.i2d (((8 : Int32) * m3) + b4)))]))
    refine Goes.step (fun _ k => XS.iadd X219.here hx rfl (hb hby at_359) rfl k) ?_
    show Goes _ _ _ _ _ _ _ (T219.setTop (mkF m 360 #[.val (.int p0), .val (.int p1), .val (.int p2), .val (.int m3), .val (.int b4), .val (.int (1 : Int32)), .val (.ref b1), .val (.ref b93), .val (.ref b104), .val (.int (6 : Int32))] [(.int (8 : Int32)), (.double (FP.i2d (((8 : Int32) * m3) + b4)))]))
    refine Goes.step (fun _ k => XS.iloadN X219.here hx rfl (hb hby at_360) rfl  k) ?_
    show Goes _ _ _ _ _ _ _ (T219.setTop (mkF m 361 #[.val (.int p0), .val (.int p1), .val (.int p2), .val (.int m3), .val (.int b4), .val (.int (1 : Int32)), .val (.ref b1), .val (.ref b93), .val (.ref b104), .val (.int (6 : Int32))] [(.int m3), (.int (8 : Int32)), (.double (FP.i2d (((8 : Int32) * m3) + b4)))]))
    refine Goes.step (fun _ k => XS.iload X219.here hx rfl (hb hby at_361) rfl  k) ?_
    show Goes _ _ _ _ _ _ _ (T219.setTop (mkF m 363 #[.val (.int p0), .val (.int p1), .val (.int p2), .val (.int m3), .val (.int b4), .val (.int (1 : Int32)), .val (.ref b1), .val (.ref b93), .val (.ref b104), .val (.int (6 : Int32))] [(.int b4), (.int m3), (.int (8 : Int32)), (.double (FP.i2d (((8 : Int32) * m3) + b4)))]))
    obtain ⟨_, _, ⟨T221, L221, k221, n221⟩, -, X221, ⟨Lc221, hQ221, l221, y221, z221⟩, st221⟩ := Jvm.LawKit.callS X219 hx (y := (⟨"com/example/orbitloom/orbitloom/orbits/TrackSamplePinLaw", "v", "(III)D"⟩ : MethodName)) hown (mvT hZ (hw _ (List.mem_of_getElem? (i := 3) rfl))) (mvT hZ (hw _ (List.mem_of_getElem? (i := 4) rfl))) (mvT hZ (hw _ (List.mem_of_getElem? (i := 5) rfl))) (mvT hZ (hw _ (List.mem_of_getElem? (i := 6) rfl))) (by decide) (backOf (W := 2) (rm1 l Z a0 hw [] (8 : Int32) m3 b4 T208.heap n0 Z215 ) hZ (hw _ (List.mem_of_getElem? (i := 6) rfl)) (hw _ (List.mem_of_getElem? (i := 5) rfl)) (by decide) (by decide)) (g := (mkF m 363 #[.val (.int p0), .val (.int p1), .val (.int p2), .val (.int m3), .val (.int b4), .val (.int (1 : Int32)), .val (.ref b1), .val (.ref b93), .val (.ref b104), .val (.int (6 : Int32))] [(.int b4), (.int m3), (.int (8 : Int32)), (.double (FP.i2d (((8 : Int32) * m3) + b4)))])) rfl (by rw [hml]; rfl) (argsL := [(.int (8 : Int32)), (.int m3), (.int b4)]) (rest := [(.double (FP.i2d (((8 : Int32) * m3) + b4)))]) (lenOf pd_0 rfl) rfl (by show 2 * 0 + _ ≤ _; exact Nat.le_of_eq rfl) (hb hby at_363) (fun _ _ => ⟨rfl, eh219, (by decide : 3 + 0 ≤ _), (by decide : 29 + 0 ≤ _)⟩)
    dsimp only [Pt.U, Pt.locs, Pt.cells, Pt.slots] at X221 l221 y221 z221 st221 hQ221
    rw [l221, y221, z221] at X221
    obtain ⟨N221, eh221, hR221⟩ := hQ221
    have NA221 := Fr.app NA219 N221
    obtain rfl := hR221
    refine Goes.step st221 ?_
    show Goes _ _ _ _ _ _ _ (T221.setTop (mkF m 366 #[.val (.int p0), .val (.int p1), .val (.int p2), .val (.int m3), .val (.int b4), .val (.int (1 : Int32)), .val (.ref b1), .val (.ref b93), .val (.ref b104), .val (.int (6 : Int32))] [(.double (FP.i2d (((8 : Int32) * m3) + b4))), (.double (FP.i2d (((8 : Int32) * m3) + b4)))]))
    refine Goes.step (fun _ k => XS.dcmpS X221.here hx rfl (hb hby at_366) rfl rfl k) ?_
    show Goes _ _ _ _ _ _ _ (T221.setTop (mkF m 367 #[.val (.int p0), .val (.int p1), .val (.int p2), .val (.int m3), .val (.int b4), .val (.int (1 : Int32)), .val (.ref b1), .val (.ref b93), .val (.ref b104), .val (.int (6 : Int32))] [(.int (cmpValue (FP.dcmp (FP.i2d (((8 : Int32) * m3) + b4)) (FP.i2d (((8 : Int32) * m3) + b4))) .l))]))
    refine Goes.step (fun _ k => XS.ifNo X221.here hx rfl (hb hby at_367) rfl ((if0 _ _).trans (teq (own_nn _)).2) k) ?_
    show Goes _ _ _ _ _ _ _ (T221.setTop (mkF m 370 #[.val (.int p0), .val (.int p1), .val (.int p2), .val (.int m3), .val (.int b4), .val (.int (1 : Int32)), .val (.ref b1), .val (.ref b93), .val (.ref b104), .val (.int (6 : Int32))] []))
    refine Goes.step (fun _ k => XS.aload X221.here hx rfl (hb hby at_370) rfl rfl k) ?_
    show Goes _ _ _ _ _ _ _ (T221.setTop (mkF m 372 #[.val (.int p0), .val (.int p1), .val (.int p2), .val (.int m3), .val (.int b4), .val (.int (1 : Int32)), .val (.ref b1), .val (.ref b93), .val (.ref b104), .val (.int (6 : Int32))] [(.ref b104)]))
    refine Goes.step (fun _ k => XS.iconst X221.here hx rfl (hb hby at_372) k) ?_
    show Goes _ _ _ _ _ _ _ (T221.setTop (mkF m 373 #[.val (.int p0), .val (.int p1), .val (.int p2), .val (.int m3), .val (.int b4), .val (.int (1 : Int32)), .val (.ref b1), .val (.ref b93), .val (.ref b104), .val (.int (6 : Int32))] [(.int (3 : Int32)), (.ref b104)]))
    obtain ⟨cl222, Ar222, q222, S222, P222, H222, G222⟩ := id V208
    have hin222 : ¬ ((3 : Int32) < 0 ∨ cl222.slots.size ≤ ((3 : Int32)).toNatClampNeg) := inb_of S222 ⟨by decide, by decide⟩
    have hat222 : cl222.slots[((3 : Int32)).toNatClampNeg]? = some (.double (FP.i2d (((9 : Int32) * m3) + b4))) := H222 _ (by rw [S222]; decide)
    refine Goes.step (fun _ k => X221.daload hx (j := (3 : Int32)) (v := (.double (FP.i2d (((9 : Int32) * m3) + b4)))) (by rw [eh221]; exact Ar222.1) (State.isArrayOf_alike hZ.alike Ar222.2.1) Ar222.2.2 hin222 hat222 (g := (mkF m 373 #[.val (.int p0), .val (.int p1), .val (.int p2), .val (.int m3), .val (.int b4), .val (.int (1 : Int32)), .val (.ref b1), .val (.ref b93), .val (.ref b104), .val (.int (6 : Int32))] [(.int (3 : Int32)), (.ref b104)])) rfl rfl (hb hby at_373) _ k) ?_
    show Goes _ _ _ _ _ _ _ (T221.setTop (mkF m 374 #[.val (.int p0), .val (.int p1), .val (.int p2), .val (.int m3), .val (.int b4), .val (.int (1 : Int32)), .val (.ref b1), .val (.ref b93), .val (.ref b104), .val (.int (6 : Int32))] [(.double (FP.i2d (((9 : Int32) * m3) + b4)))]))
    refine Goes.step (fun _ k => XS.iload X221.here hx rfl (hb hby at_374) rfl  k) ?_
    show Goes _ _ _ _ _ _ _ (T221.setTop (mkF m 376 #[.val (.int p0), .val (.int p1), .val (.int p2), .val (.int m3), .val (.int b4), .val (.int (1 : Int32)), .val (.ref b1), .val (.ref b93), .val (.ref b104), .val (.int (6 : Int32))] [(.int (6 : Int32)), (.double (FP.i2d (((9 : Int32) * m3) + b4)))]))
    refine Goes.step (fun _ k => XS.iconst X221.here hx rfl (hb hby at_376) k) ?_
    show Goes _ _ _ _ _ _ _ (T221.setTop (mkF m 377 #[.val (.int p0), .val (.int p1), .val (.int p2), .val (.int m3), .val (.int b4), .val (.int (1 : Int32)), .val (.ref b1), .val (.ref b93), .val (.ref b104), .val (.int (6 : Int32))] [(.int (3 : Int32)), (.int (6 : Int32)), (.double (FP.i2d (((9 : Int32) * m3) + b4)))]))
    refine Goes.step (fun _ k => XS.iadd X221.here hx rfl (hb hby at_377) rfl k) ?_
    show Goes _ _ _ _ _ _ _ (T221.setTop (mkF m 378 #[.val (.int p0), .val (.int p1), .val (.int p2), .val (.int m3), .val (.int b4), .val (.int (1 : Int32)), .val (.ref b1), .val (.ref b93), .val (.ref b104), .val (.int (6 : Int32))] [(.int (9 : Int32)), (.double (FP.i2d (((9 : Int32) * m3) + b4)))]))
    refine Goes.step (fun _ k => XS.iloadN X221.here hx rfl (hb hby at_378) rfl  k) ?_
    show Goes _ _ _ _ _ _ _ (T221.setTop (mkF m 379 #[.val (.int p0), .val (.int p1), .val (.int p2), .val (.int m3), .val (.int b4), .val (.int (1 : Int32)), .val (.ref b1), .val (.ref b93), .val (.ref b104), .val (.int (6 : Int32))] [(.int m3), (.int (9 : Int32)), (.double (FP.i2d (((9 : Int32) * m3) + b4)))]))
    refine Goes.step (fun _ k => XS.iload X221.here hx rfl (hb hby at_379) rfl  k) ?_
    show Goes _ _ _ _ _ _ _ (T221.setTop (mkF m 381 #[.val (.int p0), .val (.int p1), .val (.int p2), .val (.int m3), .val (.int b4), .val (.int (1 : Int32)), .val (.ref b1), .val (.ref b93), .val (.ref b104), .val (.int (6 : Int32))] [(.int b4), (.int m3), (.int (9 : Int32)), (.double (FP.i2d (((9 : Int32) * m3) + b4)))]))
    obtain ⟨_, _, ⟨T223, L223, k223, n223⟩, -, X223, ⟨Lc223, hQ223, l223, y223, z223⟩, st223⟩ := Jvm.LawKit.callS X221 hx (y := (⟨"com/example/orbitloom/orbitloom/orbits/TrackSamplePinLaw", "v", "(III)D"⟩ : MethodName)) hown (mvT hZ (hw _ (List.mem_of_getElem? (i := 3) rfl))) (mvT hZ (hw _ (List.mem_of_getElem? (i := 4) rfl))) (mvT hZ (hw _ (List.mem_of_getElem? (i := 5) rfl))) (mvT hZ (hw _ (List.mem_of_getElem? (i := 6) rfl))) (by decide) (backOf (W := 2) (rm1 l Z a0 hw [] (9 : Int32) m3 b4 T208.heap n0 Z215 ) hZ (hw _ (List.mem_of_getElem? (i := 6) rfl)) (hw _ (List.mem_of_getElem? (i := 5) rfl)) (by decide) (by decide)) (g := (mkF m 381 #[.val (.int p0), .val (.int p1), .val (.int p2), .val (.int m3), .val (.int b4), .val (.int (1 : Int32)), .val (.ref b1), .val (.ref b93), .val (.ref b104), .val (.int (6 : Int32))] [(.int b4), (.int m3), (.int (9 : Int32)), (.double (FP.i2d (((9 : Int32) * m3) + b4)))])) rfl (by rw [hml]; rfl) (argsL := [(.int (9 : Int32)), (.int m3), (.int b4)]) (rest := [(.double (FP.i2d (((9 : Int32) * m3) + b4)))]) (lenOf pd_0 rfl) rfl (by show 2 * 0 + _ ≤ _; exact Nat.le_of_eq rfl) (hb hby at_381) (fun _ _ => ⟨rfl, eh221, (by decide : 3 + 0 ≤ _), (by decide : 29 + 0 ≤ _)⟩)
    dsimp only [Pt.U, Pt.locs, Pt.cells, Pt.slots] at X223 l223 y223 z223 st223 hQ223
    rw [l223, y223, z223] at X223
    obtain ⟨N223, eh223, hR223⟩ := hQ223
    have NA223 := Fr.app NA221 N223
    obtain rfl := hR223
    refine Goes.step st223 ?_
    show Goes _ _ _ _ _ _ _ (T223.setTop (mkF m 384 #[.val (.int p0), .val (.int p1), .val (.int p2), .val (.int m3), .val (.int b4), .val (.int (1 : Int32)), .val (.ref b1), .val (.ref b93), .val (.ref b104), .val (.int (6 : Int32))] [(.double (FP.i2d (((9 : Int32) * m3) + b4))), (.double (FP.i2d (((9 : Int32) * m3) + b4)))]))
    refine Goes.step (fun _ k => XS.dcmpS X223.here hx rfl (hb hby at_384) rfl rfl k) ?_
    show Goes _ _ _ _ _ _ _ (T223.setTop (mkF m 385 #[.val (.int p0), .val (.int p1), .val (.int p2), .val (.int m3), .val (.int b4), .val (.int (1 : Int32)), .val (.ref b1), .val (.ref b93), .val (.ref b104), .val (.int (6 : Int32))] [(.int (cmpValue (FP.dcmp (FP.i2d (((9 : Int32) * m3) + b4)) (FP.i2d (((9 : Int32) * m3) + b4))) .l))]))
    refine Goes.step (fun _ k => XS.ifNo X223.here hx rfl (hb hby at_385) rfl ((if0 _ _).trans (teq (own_nn _)).2) k) ?_
    show Goes _ _ _ _ _ _ _ (T223.setTop (mkF m 388 #[.val (.int p0), .val (.int p1), .val (.int p2), .val (.int m3), .val (.int b4), .val (.int (1 : Int32)), .val (.ref b1), .val (.ref b93), .val (.ref b104), .val (.int (6 : Int32))] []))
    refine Goes.step (fun _ k => XS.aload X223.here hx rfl (hb hby at_388) rfl rfl k) ?_
    show Goes _ _ _ _ _ _ _ (T223.setTop (mkF m 390 #[.val (.int p0), .val (.int p1), .val (.int p2), .val (.int m3), .val (.int b4), .val (.int (1 : Int32)), .val (.ref b1), .val (.ref b93), .val (.ref b104), .val (.int (6 : Int32))] [(.ref b104)]))
    refine Goes.step (fun _ k => XS.iconst X223.here hx rfl (hb hby at_390) k) ?_
    show Goes _ _ _ _ _ _ _ (T223.setTop (mkF m 391 #[.val (.int p0), .val (.int p1), .val (.int p2), .val (.int m3), .val (.int b4), .val (.int (1 : Int32)), .val (.ref b1), .val (.ref b93), .val (.ref b104), .val (.int (6 : Int32))] [(.int (4 : Int32)), (.ref b104)]))
    obtain ⟨cl224, Ar224, q224, S224, P224, H224, G224⟩ := id V208
    have hin224 : ¬ ((4 : Int32) < 0 ∨ cl224.slots.size ≤ ((4 : Int32)).toNatClampNeg) := inb_of S224 ⟨by decide, by decide⟩
    have hat224 : cl224.slots[((4 : Int32)).toNatClampNeg]? = some (.double (FP.i2d (((10 : Int32) * m3) + b4))) := H224 _ (by rw [S224]; decide)
    refine Goes.step (fun _ k => X223.daload hx (j := (4 : Int32)) (v := (.double (FP.i2d (((10 : Int32) * m3) + b4)))) (by rw [eh223]; exact Ar224.1) (State.isArrayOf_alike hZ.alike Ar224.2.1) Ar224.2.2 hin224 hat224 (g := (mkF m 391 #[.val (.int p0), .val (.int p1), .val (.int p2), .val (.int m3), .val (.int b4), .val (.int (1 : Int32)), .val (.ref b1), .val (.ref b93), .val (.ref b104), .val (.int (6 : Int32))] [(.int (4 : Int32)), (.ref b104)])) rfl rfl (hb hby at_391) _ k) ?_
    show Goes _ _ _ _ _ _ _ (T223.setTop (mkF m 392 #[.val (.int p0), .val (.int p1), .val (.int p2), .val (.int m3), .val (.int b4), .val (.int (1 : Int32)), .val (.ref b1), .val (.ref b93), .val (.ref b104), .val (.int (6 : Int32))] [(.double (FP.i2d (((10 : Int32) * m3) + b4)))]))
    refine Goes.step (fun _ k => XS.iload X223.here hx rfl (hb hby at_392) rfl  k) ?_
    show Goes _ _ _ _ _ _ _ (T223.setTop (mkF m 394 #[.val (.int p0), .val (.int p1), .val (.int p2), .val (.int m3), .val (.int b4), .val (.int (1 : Int32)), .val (.ref b1), .val (.ref b93), .val (.ref b104), .val (.int (6 : Int32))] [(.int (6 : Int32)), (.double (FP.i2d (((10 : Int32) * m3) + b4)))]))
    refine Goes.step (fun _ k => XS.iconst X223.here hx rfl (hb hby at_394) k) ?_
    show Goes _ _ _ _ _ _ _ (T223.setTop (mkF m 395 #[.val (.int p0), .val (.int p1), .val (.int p2), .val (.int m3), .val (.int b4), .val (.int (1 : Int32)), .val (.ref b1), .val (.ref b93), .val (.ref b104), .val (.int (6 : Int32))] [(.int (4 : Int32)), (.int (6 : Int32)), (.double (FP.i2d (((10 : Int32) * m3) + b4)))]))
    refine Goes.step (fun _ k => XS.iadd X223.here hx rfl (hb hby at_395) rfl k) ?_
    show Goes _ _ _ _ _ _ _ (T223.setTop (mkF m 396 #[.val (.int p0), .val (.int p1), .val (.int p2), .val (.int m3), .val (.int b4), .val (.int (1 : Int32)), .val (.ref b1), .val (.ref b93), .val (.ref b104), .val (.int (6 : Int32))] [(.int (10 : Int32)), (.double (FP.i2d (((10 : Int32) * m3) + b4)))]))
    refine Goes.step (fun _ k => XS.iloadN X223.here hx rfl (hb hby at_396) rfl  k) ?_
    show Goes _ _ _ _ _ _ _ (T223.setTop (mkF m 397 #[.val (.int p0), .val (.int p1), .val (.int p2), .val (.int m3), .val (.int b4), .val (.int (1 : Int32)), .val (.ref b1), .val (.ref b93), .val (.ref b104), .val (.int (6 : Int32))] [(.int m3), (.int (10 : Int32)), (.double (FP.i2d (((10 : Int32) * m3) + b4)))]))
    refine Goes.step (fun _ k => XS.iload X223.here hx rfl (hb hby at_397) rfl  k) ?_
    show Goes _ _ _ _ _ _ _ (T223.setTop (mkF m 399 #[.val (.int p0), .val (.int p1), .val (.int p2), .val (.int m3), .val (.int b4), .val (.int (1 : Int32)), .val (.ref b1), .val (.ref b93), .val (.ref b104), .val (.int (6 : Int32))] [(.int b4), (.int m3), (.int (10 : Int32)), (.double (FP.i2d (((10 : Int32) * m3) + b4)))]))
    obtain ⟨_, _, ⟨T225, L225, k225, n225⟩, -, X225, ⟨Lc225, hQ225, l225, y225, z225⟩, st225⟩ := Jvm.LawKit.callS X223 hx (y := (⟨"com/example/orbitloom/orbitloom/orbits/TrackSamplePinLaw", "v", "(III)D"⟩ : MethodName)) hown (mvT hZ (hw _ (List.mem_of_getElem? (i := 3) rfl))) (mvT hZ (hw _ (List.mem_of_getElem? (i := 4) rfl))) (mvT hZ (hw _ (List.mem_of_getElem? (i := 5) rfl))) (mvT hZ (hw _ (List.mem_of_getElem? (i := 6) rfl))) (by decide) (backOf (W := 2) (rm1 l Z a0 hw [] (10 : Int32) m3 b4 T208.heap n0 Z215 ) hZ (hw _ (List.mem_of_getElem? (i := 6) rfl)) (hw _ (List.mem_of_getElem? (i := 5) rfl)) (by decide) (by decide)) (g := (mkF m 399 #[.val (.int p0), .val (.int p1), .val (.int p2), .val (.int m3), .val (.int b4), .val (.int (1 : Int32)), .val (.ref b1), .val (.ref b93), .val (.ref b104), .val (.int (6 : Int32))] [(.int b4), (.int m3), (.int (10 : Int32)), (.double (FP.i2d (((10 : Int32) * m3) + b4)))])) rfl (by rw [hml]; rfl) (argsL := [(.int (10 : Int32)), (.int m3), (.int b4)]) (rest := [(.double (FP.i2d (((10 : Int32) * m3) + b4)))]) (lenOf pd_0 rfl) rfl (by show 2 * 0 + _ ≤ _; exact Nat.le_of_eq rfl) (hb hby at_399) (fun _ _ => ⟨rfl, eh223, (by decide : 3 + 0 ≤ _), (by decide : 29 + 0 ≤ _)⟩)
    dsimp only [Pt.U, Pt.locs, Pt.cells, Pt.slots] at X225 l225 y225 z225 st225 hQ225
    rw [l225, y225, z225] at X225
    obtain ⟨N225, eh225, hR225⟩ := hQ225
    have NA225 := Fr.app NA223 N225
    obtain rfl := hR225
    refine Goes.step st225 ?_
    show Goes _ _ _ _ _ _ _ (T225.setTop (mkF m 402 #[.val (.int p0), .val (.int p1), .val (.int p2), .val (.int m3), .val (.int b4), .val (.int (1 : Int32)), .val (.ref b1), .val (.ref b93), .val (.ref b104), .val (.int (6 : Int32))] [(.double (FP.i2d (((10 : Int32) * m3) + b4))), (.double (FP.i2d (((10 : Int32) * m3) + b4)))]))
    refine Goes.step (fun _ k => XS.dcmpS X225.here hx rfl (hb hby at_402) rfl rfl k) ?_
    show Goes _ _ _ _ _ _ _ (T225.setTop (mkF m 403 #[.val (.int p0), .val (.int p1), .val (.int p2), .val (.int m3), .val (.int b4), .val (.int (1 : Int32)), .val (.ref b1), .val (.ref b93), .val (.ref b104), .val (.int (6 : Int32))] [(.int (cmpValue (FP.dcmp (FP.i2d (((10 : Int32) * m3) + b4)) (FP.i2d (((10 : Int32) * m3) + b4))) .l))]))
    refine Goes.step (fun _ k => XS.ifNo X225.here hx rfl (hb hby at_403) rfl ((if0 _ _).trans (teq (own_nn _)).2) k) ?_
    show Goes _ _ _ _ _ _ _ (T225.setTop (mkF m 406 #[.val (.int p0), .val (.int p1), .val (.int p2), .val (.int m3), .val (.int b4), .val (.int (1 : Int32)), .val (.ref b1), .val (.ref b93), .val (.ref b104), .val (.int (6 : Int32))] []))
    refine Goes.step (fun _ k => XS.aload X225.here hx rfl (hb hby at_406) rfl rfl k) ?_
    show Goes _ _ _ _ _ _ _ (T225.setTop (mkF m 408 #[.val (.int p0), .val (.int p1), .val (.int p2), .val (.int m3), .val (.int b4), .val (.int (1 : Int32)), .val (.ref b1), .val (.ref b93), .val (.ref b104), .val (.int (6 : Int32))] [(.ref b104)]))
    refine Goes.step (fun _ k => XS.iconst X225.here hx rfl (hb hby at_408) k) ?_
    show Goes _ _ _ _ _ _ _ (T225.setTop (mkF m 409 #[.val (.int p0), .val (.int p1), .val (.int p2), .val (.int m3), .val (.int b4), .val (.int (1 : Int32)), .val (.ref b1), .val (.ref b93), .val (.ref b104), .val (.int (6 : Int32))] [(.int (5 : Int32)), (.ref b104)]))
    obtain ⟨cl226, Ar226, q226, S226, P226, H226, G226⟩ := id V208
    have hin226 : ¬ ((5 : Int32) < 0 ∨ cl226.slots.size ≤ ((5 : Int32)).toNatClampNeg) := inb_of S226 ⟨by decide, by decide⟩
    have hat226 : cl226.slots[((5 : Int32)).toNatClampNeg]? = some (.double (FP.i2d (((11 : Int32) * m3) + b4))) := H226 _ (by rw [S226]; decide)
    refine Goes.step (fun _ k => X225.daload hx (j := (5 : Int32)) (v := (.double (FP.i2d (((11 : Int32) * m3) + b4)))) (by rw [eh225]; exact Ar226.1) (State.isArrayOf_alike hZ.alike Ar226.2.1) Ar226.2.2 hin226 hat226 (g := (mkF m 409 #[.val (.int p0), .val (.int p1), .val (.int p2), .val (.int m3), .val (.int b4), .val (.int (1 : Int32)), .val (.ref b1), .val (.ref b93), .val (.ref b104), .val (.int (6 : Int32))] [(.int (5 : Int32)), (.ref b104)])) rfl rfl (hb hby at_409) _ k) ?_
    show Goes _ _ _ _ _ _ _ (T225.setTop (mkF m 410 #[.val (.int p0), .val (.int p1), .val (.int p2), .val (.int m3), .val (.int b4), .val (.int (1 : Int32)), .val (.ref b1), .val (.ref b93), .val (.ref b104), .val (.int (6 : Int32))] [(.double (FP.i2d (((11 : Int32) * m3) + b4)))]))
    refine Goes.step (fun _ k => XS.iload X225.here hx rfl (hb hby at_410) rfl  k) ?_
    show Goes _ _ _ _ _ _ _ (T225.setTop (mkF m 412 #[.val (.int p0), .val (.int p1), .val (.int p2), .val (.int m3), .val (.int b4), .val (.int (1 : Int32)), .val (.ref b1), .val (.ref b93), .val (.ref b104), .val (.int (6 : Int32))] [(.int (6 : Int32)), (.double (FP.i2d (((11 : Int32) * m3) + b4)))]))
    refine Goes.step (fun _ k => XS.iconst X225.here hx rfl (hb hby at_412) k) ?_
    show Goes _ _ _ _ _ _ _ (T225.setTop (mkF m 413 #[.val (.int p0), .val (.int p1), .val (.int p2), .val (.int m3), .val (.int b4), .val (.int (1 : Int32)), .val (.ref b1), .val (.ref b93), .val (.ref b104), .val (.int (6 : Int32))] [(.int (5 : Int32)), (.int (6 : Int32)), (.double (FP.i2d (((11 : Int32) * m3) + b4)))]))
    refine Goes.step (fun _ k => XS.iadd X225.here hx rfl (hb hby at_413) rfl k) ?_
    show Goes _ _ _ _ _ _ _ (T225.setTop (mkF m 414 #[.val (.int p0), .val (.int p1), .val (.int p2), .val (.int m3), .val (.int b4), .val (.int (1 : Int32)), .val (.ref b1), .val (.ref b93), .val (.ref b104), .val (.int (6 : Int32))] [(.int (11 : Int32)), (.double (FP.i2d (((11 : Int32) * m3) + b4)))]))
    refine Goes.step (fun _ k => XS.iloadN X225.here hx rfl (hb hby at_414) rfl  k) ?_
    show Goes _ _ _ _ _ _ _ (T225.setTop (mkF m 415 #[.val (.int p0), .val (.int p1), .val (.int p2), .val (.int m3), .val (.int b4), .val (.int (1 : Int32)), .val (.ref b1), .val (.ref b93), .val (.ref b104), .val (.int (6 : Int32))] [(.int m3), (.int (11 : Int32)), (.double (FP.i2d (((11 : Int32) * m3) + b4)))]))
    refine Goes.step (fun _ k => XS.iload X225.here hx rfl (hb hby at_415) rfl  k) ?_
    show Goes _ _ _ _ _ _ _ (T225.setTop (mkF m 417 #[.val (.int p0), .val (.int p1), .val (.int p2), .val (.int m3), .val (.int b4), .val (.int (1 : Int32)), .val (.ref b1), .val (.ref b93), .val (.ref b104), .val (.int (6 : Int32))] [(.int b4), (.int m3), (.int (11 : Int32)), (.double (FP.i2d (((11 : Int32) * m3) + b4)))]))
    obtain ⟨_, _, ⟨T227, L227, k227, n227⟩, -, X227, ⟨Lc227, hQ227, l227, y227, z227⟩, st227⟩ := Jvm.LawKit.callS X225 hx (y := (⟨"com/example/orbitloom/orbitloom/orbits/TrackSamplePinLaw", "v", "(III)D"⟩ : MethodName)) hown (mvT hZ (hw _ (List.mem_of_getElem? (i := 3) rfl))) (mvT hZ (hw _ (List.mem_of_getElem? (i := 4) rfl))) (mvT hZ (hw _ (List.mem_of_getElem? (i := 5) rfl))) (mvT hZ (hw _ (List.mem_of_getElem? (i := 6) rfl))) (by decide) (backOf (W := 2) (rm1 l Z a0 hw [] (11 : Int32) m3 b4 T208.heap n0 Z215 ) hZ (hw _ (List.mem_of_getElem? (i := 6) rfl)) (hw _ (List.mem_of_getElem? (i := 5) rfl)) (by decide) (by decide)) (g := (mkF m 417 #[.val (.int p0), .val (.int p1), .val (.int p2), .val (.int m3), .val (.int b4), .val (.int (1 : Int32)), .val (.ref b1), .val (.ref b93), .val (.ref b104), .val (.int (6 : Int32))] [(.int b4), (.int m3), (.int (11 : Int32)), (.double (FP.i2d (((11 : Int32) * m3) + b4)))])) rfl (by rw [hml]; rfl) (argsL := [(.int (11 : Int32)), (.int m3), (.int b4)]) (rest := [(.double (FP.i2d (((11 : Int32) * m3) + b4)))]) (lenOf pd_0 rfl) rfl (by show 2 * 0 + _ ≤ _; exact Nat.le_of_eq rfl) (hb hby at_417) (fun _ _ => ⟨rfl, eh225, (by decide : 3 + 0 ≤ _), (by decide : 29 + 0 ≤ _)⟩)
    dsimp only [Pt.U, Pt.locs, Pt.cells, Pt.slots] at X227 l227 y227 z227 st227 hQ227
    rw [l227, y227, z227] at X227
    obtain ⟨N227, eh227, hR227⟩ := hQ227
    have NA227 := Fr.app NA225 N227
    obtain rfl := hR227
    refine Goes.step st227 ?_
    show Goes _ _ _ _ _ _ _ (T227.setTop (mkF m 420 #[.val (.int p0), .val (.int p1), .val (.int p2), .val (.int m3), .val (.int b4), .val (.int (1 : Int32)), .val (.ref b1), .val (.ref b93), .val (.ref b104), .val (.int (6 : Int32))] [(.double (FP.i2d (((11 : Int32) * m3) + b4))), (.double (FP.i2d (((11 : Int32) * m3) + b4)))]))
    refine Goes.step (fun _ k => XS.dcmpS X227.here hx rfl (hb hby at_420) rfl rfl k) ?_
    show Goes _ _ _ _ _ _ _ (T227.setTop (mkF m 421 #[.val (.int p0), .val (.int p1), .val (.int p2), .val (.int m3), .val (.int b4), .val (.int (1 : Int32)), .val (.ref b1), .val (.ref b93), .val (.ref b104), .val (.int (6 : Int32))] [(.int (cmpValue (FP.dcmp (FP.i2d (((11 : Int32) * m3) + b4)) (FP.i2d (((11 : Int32) * m3) + b4))) .l))]))
    refine Goes.step (fun _ k => XS.ifNo X227.here hx rfl (hb hby at_421) rfl ((if0 _ _).trans (teq (own_nn _)).2) k) ?_
    show Goes _ _ _ _ _ _ _ (T227.setTop (mkF m 424 #[.val (.int p0), .val (.int p1), .val (.int p2), .val (.int m3), .val (.int b4), .val (.int (1 : Int32)), .val (.ref b1), .val (.ref b93), .val (.ref b104), .val (.int (6 : Int32))] []))
    refine Goes.step (fun _ k => XS.aload X227.here hx rfl (hb hby at_424) rfl rfl k) ?_
    show Goes _ _ _ _ _ _ _ (T227.setTop (mkF m 426 #[.val (.int p0), .val (.int p1), .val (.int p2), .val (.int m3), .val (.int b4), .val (.int (1 : Int32)), .val (.ref b1), .val (.ref b93), .val (.ref b104), .val (.int (6 : Int32))] [(.ref b104)]))
    refine Goes.step (fun _ k => XS.bipush X227.here hx rfl (hb hby at_426) k) ?_
    show Goes _ _ _ _ _ _ _ (T227.setTop (mkF m 428 #[.val (.int p0), .val (.int p1), .val (.int p2), .val (.int m3), .val (.int b4), .val (.int (1 : Int32)), .val (.ref b1), .val (.ref b93), .val (.ref b104), .val (.int (6 : Int32))] [(.int (6 : Int32)), (.ref b104)]))
    obtain ⟨cl228, Ar228, q228, S228, P228, H228, G228⟩ := id V208
    have hin228 : ¬ ((6 : Int32) < 0 ∨ cl228.slots.size ≤ ((6 : Int32)).toNatClampNeg) := inb_of S228 ⟨by decide, by decide⟩
    have hat228 : cl228.slots[((6 : Int32)).toNatClampNeg]? = some (.double (13830554455654793216 : UInt64)) := H228 _ (by rw [S228]; decide)
    refine Goes.step (fun _ k => X227.daload hx (j := (6 : Int32)) (v := (.double (13830554455654793216 : UInt64))) (by rw [eh227]; exact Ar228.1) (State.isArrayOf_alike hZ.alike Ar228.2.1) Ar228.2.2 hin228 hat228 (g := (mkF m 428 #[.val (.int p0), .val (.int p1), .val (.int p2), .val (.int m3), .val (.int b4), .val (.int (1 : Int32)), .val (.ref b1), .val (.ref b93), .val (.ref b104), .val (.int (6 : Int32))] [(.int (6 : Int32)), (.ref b104)])) rfl rfl (hb hby at_428) _ k) ?_
    show Goes _ _ _ _ _ _ _ (T227.setTop (mkF m 429 #[.val (.int p0), .val (.int p1), .val (.int p2), .val (.int m3), .val (.int b4), .val (.int (1 : Int32)), .val (.ref b1), .val (.ref b93), .val (.ref b104), .val (.int (6 : Int32))] [(.double (13830554455654793216 : UInt64))]))
    refine Goes.step (fun _ k => X227.ldc2DoubleC hx hown (mvT hZ (hw _ (List.mem_of_getElem? (i := 23) rfl))) (g := (mkF m 429 #[.val (.int p0), .val (.int p1), .val (.int p2), .val (.int m3), .val (.int b4), .val (.int (1 : Int32)), .val (.ref b1), .val (.ref b93), .val (.ref b104), .val (.int (6 : Int32))] [(.double (13830554455654793216 : UInt64))])) rfl (hb hby at_429) _ k) ?_
    show Goes _ _ _ _ _ _ _ (T227.setTop (mkF m 432 #[.val (.int p0), .val (.int p1), .val (.int p2), .val (.int m3), .val (.int b4), .val (.int (1 : Int32)), .val (.ref b1), .val (.ref b93), .val (.ref b104), .val (.int (6 : Int32))] [(.double (13830554455654793216 : UInt64)), (.double (13830554455654793216 : UInt64))]))
    refine Goes.step (fun _ k => XS.dcmpS X227.here hx rfl (hb hby at_432) rfl rfl k) ?_
    show Goes _ _ _ _ _ _ _ (T227.setTop (mkF m 433 #[.val (.int p0), .val (.int p1), .val (.int p2), .val (.int m3), .val (.int b4), .val (.int (1 : Int32)), .val (.ref b1), .val (.ref b93), .val (.ref b104), .val (.int (6 : Int32))] [(.int (cmpValue (FP.dcmp (13830554455654793216 : UInt64) (13830554455654793216 : UInt64)) .l))]))
    refine Goes.step (fun _ k => XS.ifNo X227.here hx rfl (hb hby at_433) rfl ((if0 _ _).trans (teq own_m1).2) k) ?_
    show Goes _ _ _ _ _ _ _ (T227.setTop (mkF m 436 #[.val (.int p0), .val (.int p1), .val (.int p2), .val (.int m3), .val (.int b4), .val (.int (1 : Int32)), .val (.ref b1), .val (.ref b93), .val (.ref b104), .val (.int (6 : Int32))] []))
    refine Goes.step (fun _ k => XS.aload X227.here hx rfl (hb hby at_436) rfl rfl k) ?_
    show Goes _ _ _ _ _ _ _ (T227.setTop (mkF m 438 #[.val (.int p0), .val (.int p1), .val (.int p2), .val (.int m3), .val (.int b4), .val (.int (1 : Int32)), .val (.ref b1), .val (.ref b93), .val (.ref b104), .val (.int (6 : Int32))] [(.ref b104)]))
    refine Goes.step (fun _ k => XS.bipush X227.here hx rfl (hb hby at_438) k) ?_
    show Goes _ _ _ _ _ _ _ (T227.setTop (mkF m 440 #[.val (.int p0), .val (.int p1), .val (.int p2), .val (.int m3), .val (.int b4), .val (.int (1 : Int32)), .val (.ref b1), .val (.ref b93), .val (.ref b104), .val (.int (6 : Int32))] [(.int (7 : Int32)), (.ref b104)]))
    obtain ⟨cl229, Ar229, q229, S229, P229, H229, G229⟩ := id V208
    have hin229 : ¬ ((7 : Int32) < 0 ∨ cl229.slots.size ≤ ((7 : Int32)).toNatClampNeg) := inb_of S229 ⟨by decide, by decide⟩
    have hat229 : cl229.slots[((7 : Int32)).toNatClampNeg]? = some (.double (13830554455654793216 : UInt64)) := H229 _ (by rw [S229]; decide)
    refine Goes.step (fun _ k => X227.daload hx (j := (7 : Int32)) (v := (.double (13830554455654793216 : UInt64))) (by rw [eh227]; exact Ar229.1) (State.isArrayOf_alike hZ.alike Ar229.2.1) Ar229.2.2 hin229 hat229 (g := (mkF m 440 #[.val (.int p0), .val (.int p1), .val (.int p2), .val (.int m3), .val (.int b4), .val (.int (1 : Int32)), .val (.ref b1), .val (.ref b93), .val (.ref b104), .val (.int (6 : Int32))] [(.int (7 : Int32)), (.ref b104)])) rfl rfl (hb hby at_440) _ k) ?_
    show Goes _ _ _ _ _ _ _ (T227.setTop (mkF m 441 #[.val (.int p0), .val (.int p1), .val (.int p2), .val (.int m3), .val (.int b4), .val (.int (1 : Int32)), .val (.ref b1), .val (.ref b93), .val (.ref b104), .val (.int (6 : Int32))] [(.double (13830554455654793216 : UInt64))]))
    refine Goes.step (fun _ k => X227.ldc2DoubleC hx hown (mvT hZ (hw _ (List.mem_of_getElem? (i := 23) rfl))) (g := (mkF m 441 #[.val (.int p0), .val (.int p1), .val (.int p2), .val (.int m3), .val (.int b4), .val (.int (1 : Int32)), .val (.ref b1), .val (.ref b93), .val (.ref b104), .val (.int (6 : Int32))] [(.double (13830554455654793216 : UInt64))])) rfl (hb hby at_441) _ k) ?_
    show Goes _ _ _ _ _ _ _ (T227.setTop (mkF m 444 #[.val (.int p0), .val (.int p1), .val (.int p2), .val (.int m3), .val (.int b4), .val (.int (1 : Int32)), .val (.ref b1), .val (.ref b93), .val (.ref b104), .val (.int (6 : Int32))] [(.double (13830554455654793216 : UInt64)), (.double (13830554455654793216 : UInt64))]))
    refine Goes.step (fun _ k => XS.dcmpS X227.here hx rfl (hb hby at_444) rfl rfl k) ?_
    show Goes _ _ _ _ _ _ _ (T227.setTop (mkF m 445 #[.val (.int p0), .val (.int p1), .val (.int p2), .val (.int m3), .val (.int b4), .val (.int (1 : Int32)), .val (.ref b1), .val (.ref b93), .val (.ref b104), .val (.int (6 : Int32))] [(.int (cmpValue (FP.dcmp (13830554455654793216 : UInt64) (13830554455654793216 : UInt64)) .l))]))
    refine Goes.step (fun _ k => XS.ifNo X227.here hx rfl (hb hby at_445) rfl ((if0 _ _).trans (teq own_m1).2) k) ?_
    show Goes _ _ _ _ _ _ _ (T227.setTop (mkF m 448 #[.val (.int p0), .val (.int p1), .val (.int p2), .val (.int m3), .val (.int b4), .val (.int (1 : Int32)), .val (.ref b1), .val (.ref b93), .val (.ref b104), .val (.int (6 : Int32))] []))
    refine Goes.step (fun _ k => XS.aload X227.here hx rfl (hb hby at_448) rfl rfl k) ?_
    show Goes _ _ _ _ _ _ _ (T227.setTop (mkF m 450 #[.val (.int p0), .val (.int p1), .val (.int p2), .val (.int m3), .val (.int b4), .val (.int (1 : Int32)), .val (.ref b1), .val (.ref b93), .val (.ref b104), .val (.int (6 : Int32))] [(.ref b93)]))
    obtain ⟨cq230, kq230, q230a, q230b, q230c⟩ := isOf hZ eh227 f210
    obtain ⟨_, _, ⟨T230, L230, k230, n230⟩, -, X230, ⟨Lc230, hQ230, l230, y230, z230⟩, st230⟩ := X227.virtualBack hx (y := (⟨"com/example/orbitloom/orbitloom/orbits/Track", "size", "()I"⟩ : MethodName)) (z := (⟨"com/example/orbitloom/orbitloom/orbits/Track", "size", "()I"⟩ : MethodName)) hown (mvT hZ (hw _ (List.mem_of_getElem? (i := 33) rfl))) (mvT hZ (hw _ (List.mem_of_getElem? (i := 34) rfl))) (notFace_of_selects (args := #[]) (mvT hZ (hw _ (List.mem_of_getElem? (i := 36) rfl)))) (mvT hZ (hw _ (List.mem_of_getElem? (i := 36) rfl))) (mvT hZ (hw _ (List.mem_of_getElem? (i := 35) rfl))) (by decide) (backOf (W := 0) (rm5 l Z a0 hw [] b93 (3 : Int32) T208.heap n0 Z215 f213) hZ (hw _ (List.mem_of_getElem? (i := 37) rfl)) (hw _ (List.mem_of_getElem? (i := 9) rfl)) (by decide) (by decide)) q230a q230c (g := (mkF m 450 #[.val (.int p0), .val (.int p1), .val (.int p2), .val (.int m3), .val (.int b4), .val (.int (1 : Int32)), .val (.ref b1), .val (.ref b93), .val (.ref b104), .val (.int (6 : Int32))] [(.ref b93)])) rfl (by rw [hml]; rfl) (Steps.refl _) (argsL := []) (rest := []) (lenOf pd_5 rfl) rfl (by show 2 * 0 + _ ≤ _; exact Nat.le_of_eq rfl) (hb hby at_450) (fun _ _ => ⟨rfl, eh227, (by decide : 3 + 0 ≤ _), (by decide : 29 + 0 ≤ _)⟩)
    dsimp only [Pt.U, Pt.locs, Pt.cells, Pt.slots] at X230 l230 y230 z230 st230 hQ230
    rw [l230, y230, z230] at X230
    obtain ⟨N230, eh230, hR230⟩ := hQ230
    have NA230 := Fr.app NA227 N230
    obtain rfl := hR230
    refine Goes.back st230 ?_
    show Goes _ _ _ _ _ _ _ (T230.setTop (mkF m 453 #[.val (.int p0), .val (.int p1), .val (.int p2), .val (.int m3), .val (.int b4), .val (.int (1 : Int32)), .val (.ref b1), .val (.ref b93), .val (.ref b104), .val (.int (6 : Int32))] [(.int (3 : Int32))]))
    refine Goes.step (fun _ k => XS.iconst X230.here hx rfl (hb hby at_453) k) ?_
    show Goes _ _ _ _ _ _ _ (T230.setTop (mkF m 454 #[.val (.int p0), .val (.int p1), .val (.int p2), .val (.int m3), .val (.int b4), .val (.int (1 : Int32)), .val (.ref b1), .val (.ref b93), .val (.ref b104), .val (.int (6 : Int32))] [(.int (3 : Int32)), (.int (3 : Int32))]))
    refine Goes.step (fun _ k => XS.icmpNo X230.here hx rfl (hb hby at_454) rfl (teq (by decide : (3 : Int32) = (3 : Int32))).2 k) ?_
    show Goes _ _ _ _ _ _ _ (T230.setTop (mkF m 457 #[.val (.int p0), .val (.int p1), .val (.int p2), .val (.int m3), .val (.int b4), .val (.int (1 : Int32)), .val (.ref b1), .val (.ref b93), .val (.ref b104), .val (.int (6 : Int32))] []))
    refine Goes.step (fun _ k => XS.iconst X230.here hx rfl (hb hby at_457) k) ?_
    show Goes _ _ _ _ _ _ _ (T230.setTop (mkF m 458 #[.val (.int p0), .val (.int p1), .val (.int p2), .val (.int m3), .val (.int b4), .val (.int (1 : Int32)), .val (.ref b1), .val (.ref b93), .val (.ref b104), .val (.int (6 : Int32))] [(.int (1 : Int32))]))
    refine Goes.step (fun _ k => XS.goto X230.here hx rfl (pc0 := 458) (pc' := 462) rfl (hb hby at_458) (by decide) (by decide) k) ?_
    show Goes _ _ _ _ _ _ _ (T230.setTop (mkF m 462 #[.val (.int p0), .val (.int p1), .val (.int p2), .val (.int m3), .val (.int b4), .val (.int (1 : Int32)), .val (.ref b1), .val (.ref b93), .val (.ref b104), .val (.int (6 : Int32))] [(.int (1 : Int32))]))
    exact Goes.ret X230 hx (BodyLoose.notSynchronized Bd) Bd.returns rfl (Or.inl ⟨rfl, by simp, _, rfl⟩) (hb hby at_462) (by show Q0 Z p0 p1 p2 h0 n0 (some (.int (1 : Int32))) T230.heap _; rw [eh230]; exact ⟨rfl, NA230⟩) (by decide) (by decide)
  · show Goes _ _ _ _ _ _ _ (T177.setTop (mkF m 302 #[.val (.int p0), .val (.int p1), .val (.int p2), .val (.int m3), .val (.int b4), .val (.int (2 : Int32)), .val (.ref b1), .val (.ref b93), .val (.ref b104), .unset] []))
    refine Goes.step (fun _ k => XS.aload X177.here hx rfl (hb hby at_302) rfl rfl k) ?_
    show Goes _ _ _ _ _ _ _ (T177.setTop (mkF m 304 #[.val (.int p0), .val (.int p1), .val (.int p2), .val (.int m3), .val (.int b4), .val (.int (2 : Int32)), .val (.ref b1), .val (.ref b93), .val (.ref b104), .unset] [(.ref b93)]))
    refine Goes.step (fun _ k => XS.iload X177.here hx rfl (hb hby at_304) rfl  k) ?_
    show Goes _ _ _ _ _ _ _ (T177.setTop (mkF m 306 #[.val (.int p0), .val (.int p1), .val (.int p2), .val (.int m3), .val (.int b4), .val (.int (2 : Int32)), .val (.ref b1), .val (.ref b93), .val (.ref b104), .unset] [(.int (2 : Int32)), (.ref b93)]))
    refine Goes.step (fun _ k => XS.aload X177.here hx rfl (hb hby at_306) rfl rfl k) ?_
    show Goes _ _ _ _ _ _ _ (T177.setTop (mkF m 308 #[.val (.int p0), .val (.int p1), .val (.int p2), .val (.int m3), .val (.int b4), .val (.int (2 : Int32)), .val (.ref b1), .val (.ref b93), .val (.ref b104), .unset] [(.ref b104), (.int (2 : Int32)), (.ref b93)]))
    obtain ⟨cq231, kq231, q231a, q231b, q231c⟩ := isOf hZ e177 f179
    obtain ⟨_, _, ⟨T231, L231, k231, n231⟩, -, X231, ⟨Lc231, hQ231, l231, y231, z231⟩, st231⟩ := X177.virtualBack hx (y := (⟨"com/example/orbitloom/orbitloom/orbits/Track", "sample", "(I[D)V"⟩ : MethodName)) (z := (⟨"com/example/orbitloom/orbitloom/orbits/Track", "sample", "(I[D)V"⟩ : MethodName)) hown (mvT hZ (hw _ (List.mem_of_getElem? (i := 24) rfl))) (mvT hZ (hw _ (List.mem_of_getElem? (i := 25) rfl))) (notFace_of_selects (args := #[]) (mvT hZ (hw _ (List.mem_of_getElem? (i := 27) rfl)))) (mvT hZ (hw _ (List.mem_of_getElem? (i := 27) rfl))) (mvT hZ (hw _ (List.mem_of_getElem? (i := 26) rfl))) (by decide) (backOf (W := 0) (rm4_2 l Z a0 hw [] b93 b104 b1 k1 k104 [(.double (FP.i2d (((0 : Int32) * m3) + b4))), (.double (FP.i2d (((1 : Int32) * m3) + b4))), (.double (FP.i2d (((2 : Int32) * m3) + b4))), (.double (FP.i2d (((3 : Int32) * m3) + b4))), (.double (FP.i2d (((4 : Int32) * m3) + b4))), (.double (FP.i2d (((5 : Int32) * m3) + b4))), (.double (FP.i2d (((6 : Int32) * m3) + b4))), (.double (FP.i2d (((7 : Int32) * m3) + b4))), (.double (FP.i2d (((8 : Int32) * m3) + b4))), (.double (FP.i2d (((9 : Int32) * m3) + b4))), (.double (FP.i2d (((10 : Int32) * m3) + b4))), (.double (FP.i2d (((11 : Int32) * m3) + b4))), (.double (FP.i2d (((12 : Int32) * m3) + b4))), (.double (FP.i2d (((13 : Int32) * m3) + b4))), (.double (FP.i2d (((14 : Int32) * m3) + b4))), (.double (FP.i2d (((15 : Int32) * m3) + b4))), (.double (FP.i2d (((16 : Int32) * m3) + b4))), (.double (FP.i2d (((17 : Int32) * m3) + b4)))] [(.double (13830554455654793216 : UInt64)), (.double (13830554455654793216 : UInt64)), (.double (13830554455654793216 : UInt64)), (.double (13830554455654793216 : UInt64)), (.double (13830554455654793216 : UInt64)), (.double (13830554455654793216 : UInt64)), (.double (13830554455654793216 : UInt64)), (.double (13830554455654793216 : UInt64))] (.double (0 : UInt64)) (.double (0 : UInt64)) h177 n0 Z184 f181 f178 f183 rfl rfl g_b104 ne105 ne106) hZ (hw _ (List.mem_of_getElem? (i := 28) rfl)) (hw _ (List.mem_of_getElem? (i := 9) rfl)) (by decide) (by decide)) q231a q231c (g := (mkF m 308 #[.val (.int p0), .val (.int p1), .val (.int p2), .val (.int m3), .val (.int b4), .val (.int (2 : Int32)), .val (.ref b1), .val (.ref b93), .val (.ref b104), .unset] [(.ref b104), (.int (2 : Int32)), (.ref b93)])) rfl (by rw [hml]; rfl) (Steps.refl _) (argsL := [(.int (2 : Int32)), (.ref b104)]) (rest := []) (lenOf pd_3 rfl) rfl (by show 2 * 0 + _ ≤ _; exact Nat.le_of_eq rfl) (hb hby at_308) (fun _ _ => ⟨rfl, e177, (by decide : 3 + 0 ≤ _), (by decide : 29 + 0 ≤ _)⟩)
    dsimp only [Pt.U, Pt.locs, Pt.cells, Pt.slots] at X231 l231 y231 z231 st231 hQ231
    rw [l231, y231, z231] at X231
    obtain ⟨N231, KK231, rfl, VV231⟩ := hQ231
    have NA231 := Fr.app N184 N231
    have f232 := f178.keep KK231 (ninS ne105 nin0)
    have f233 := f179.keep KK231
    have f234 := f180.keep KK231 (ninS ne106 nin0)
    have f235 := f181.keep KK231 (ninS ne106 nin0)
    have f236 := f182.keep KK231 (ninS ne106 nin0)
    have K238 : Keep h0 T231.heap [] := K184.trans KK231 (allS (Or.inr sz_b104) all0)
    have Z238 : n0 ≤ T231.heap.size := Nat.le_trans Z184 KK231.1
    have V231 : Arv Z T231.heap b104 k104 .double (8 : Int32) [(.double (FP.i2d (((12 : Int32) * m3) + b4))), (.double (FP.i2d (((13 : Int32) * m3) + b4))), (.double (FP.i2d (((14 : Int32) * m3) + b4))), (.double (FP.i2d (((15 : Int32) * m3) + b4))), (.double (FP.i2d (((16 : Int32) * m3) + b4))), (.double (FP.i2d (((17 : Int32) * m3) + b4))), (.double (13830554455654793216 : UInt64)), (.double (13830554455654793216 : UInt64))] (.double (0 : UInt64)) := VV231
    refine Goes.back st231 ?_
    show Goes _ _ _ _ _ _ _ (T231.setTop (mkF m 311 #[.val (.int p0), .val (.int p1), .val (.int p2), .val (.int m3), .val (.int b4), .val (.int (2 : Int32)), .val (.ref b1), .val (.ref b93), .val (.ref b104), .unset] []))
    refine Goes.step (fun _ k => XS.iload X231.here hx rfl (hb hby at_311) rfl  k) ?_
    show Goes _ _ _ _ _ _ _ (T231.setTop (mkF m 313 #[.val (.int p0), .val (.int p1), .val (.int p2), .val (.int m3), .val (.int b4), .val (.int (2 : Int32)), .val (.ref b1), .val (.ref b93), .val (.ref b104), .unset] [(.int (2 : Int32))]))
    refine Goes.step (fun _ k => XS.bipush X231.here hx rfl (hb hby at_313) k) ?_
    show Goes _ _ _ _ _ _ _ (T231.setTop (mkF m 315 #[.val (.int p0), .val (.int p1), .val (.int p2), .val (.int m3), .val (.int b4), .val (.int (2 : Int32)), .val (.ref b1), .val (.ref b93), .val (.ref b104), .unset] [(.int (6 : Int32)), (.int (2 : Int32))]))
    refine Goes.step (fun _ k => XS.imul X231.here hx rfl (hb hby at_315) rfl k) ?_
    show Goes _ _ _ _ _ _ _ (T231.setTop (mkF m 316 #[.val (.int p0), .val (.int p1), .val (.int p2), .val (.int m3), .val (.int b4), .val (.int (2 : Int32)), .val (.ref b1), .val (.ref b93), .val (.ref b104), .unset] [(.int (12 : Int32))]))
    refine Goes.step (fun _ k => XS.istore X231.here hx rfl (hb hby at_316) rfl (l' := #[.val (.int p0), .val (.int p1), .val (.int p2), .val (.int m3), .val (.int b4), .val (.int (2 : Int32)), .val (.ref b1), .val (.ref b93), .val (.ref b104), .val (.int (12 : Int32))]) rfl k) ?_
    show Goes _ _ _ _ _ _ _ (T231.setTop (mkF m 318 #[.val (.int p0), .val (.int p1), .val (.int p2), .val (.int m3), .val (.int b4), .val (.int (2 : Int32)), .val (.ref b1), .val (.ref b93), .val (.ref b104), .val (.int (12 : Int32))] []))
    refine Goes.step (fun _ k => XS.aload X231.here hx rfl (hb hby at_318) rfl rfl k) ?_
    show Goes _ _ _ _ _ _ _ (T231.setTop (mkF m 320 #[.val (.int p0), .val (.int p1), .val (.int p2), .val (.int m3), .val (.int b4), .val (.int (2 : Int32)), .val (.ref b1), .val (.ref b93), .val (.ref b104), .val (.int (12 : Int32))] [(.ref b104)]))
    refine Goes.step (fun _ k => XS.iconst X231.here hx rfl (hb hby at_320) k) ?_
    show Goes _ _ _ _ _ _ _ (T231.setTop (mkF m 321 #[.val (.int p0), .val (.int p1), .val (.int p2), .val (.int m3), .val (.int b4), .val (.int (2 : Int32)), .val (.ref b1), .val (.ref b93), .val (.ref b104), .val (.int (12 : Int32))] [(.int (0 : Int32)), (.ref b104)]))
    obtain ⟨cl239, Ar239, q239, S239, P239, H239, G239⟩ := id V231
    have hin239 : ¬ ((0 : Int32) < 0 ∨ cl239.slots.size ≤ ((0 : Int32)).toNatClampNeg) := inb_of S239 ⟨by decide, by decide⟩
    have hat239 : cl239.slots[((0 : Int32)).toNatClampNeg]? = some (.double (FP.i2d (((12 : Int32) * m3) + b4))) := H239 _ (by rw [S239]; decide)
    refine Goes.step (fun _ k => X231.daload hx (j := (0 : Int32)) (v := (.double (FP.i2d (((12 : Int32) * m3) + b4)))) (by exact Ar239.1) (State.isArrayOf_alike hZ.alike Ar239.2.1) Ar239.2.2 hin239 hat239 (g := (mkF m 321 #[.val (.int p0), .val (.int p1), .val (.int p2), .val (.int m3), .val (.int b4), .val (.int (2 : Int32)), .val (.ref b1), .val (.ref b93), .val (.ref b104), .val (.int (12 : Int32))] [(.int (0 : Int32)), (.ref b104)])) rfl rfl (hb hby at_321) _ k) ?_
    show Goes _ _ _ _ _ _ _ (T231.setTop (mkF m 322 #[.val (.int p0), .val (.int p1), .val (.int p2), .val (.int m3), .val (.int b4), .val (.int (2 : Int32)), .val (.ref b1), .val (.ref b93), .val (.ref b104), .val (.int (12 : Int32))] [(.double (FP.i2d (((12 : Int32) * m3) + b4)))]))
    refine Goes.step (fun _ k => XS.iload X231.here hx rfl (hb hby at_322) rfl  k) ?_
    show Goes _ _ _ _ _ _ _ (T231.setTop (mkF m 324 #[.val (.int p0), .val (.int p1), .val (.int p2), .val (.int m3), .val (.int b4), .val (.int (2 : Int32)), .val (.ref b1), .val (.ref b93), .val (.ref b104), .val (.int (12 : Int32))] [(.int (12 : Int32)), (.double (FP.i2d (((12 : Int32) * m3) + b4)))]))
    refine Goes.step (fun _ k => XS.iloadN X231.here hx rfl (hb hby at_324) rfl  k) ?_
    show Goes _ _ _ _ _ _ _ (T231.setTop (mkF m 325 #[.val (.int p0), .val (.int p1), .val (.int p2), .val (.int m3), .val (.int b4), .val (.int (2 : Int32)), .val (.ref b1), .val (.ref b93), .val (.ref b104), .val (.int (12 : Int32))] [(.int m3), (.int (12 : Int32)), (.double (FP.i2d (((12 : Int32) * m3) + b4)))]))
    refine Goes.step (fun _ k => XS.iload X231.here hx rfl (hb hby at_325) rfl  k) ?_
    show Goes _ _ _ _ _ _ _ (T231.setTop (mkF m 327 #[.val (.int p0), .val (.int p1), .val (.int p2), .val (.int m3), .val (.int b4), .val (.int (2 : Int32)), .val (.ref b1), .val (.ref b93), .val (.ref b104), .val (.int (12 : Int32))] [(.int b4), (.int m3), (.int (12 : Int32)), (.double (FP.i2d (((12 : Int32) * m3) + b4)))]))
    obtain ⟨_, _, ⟨T240, L240, k240, n240⟩, -, X240, ⟨Lc240, hQ240, l240, y240, z240⟩, st240⟩ := Jvm.LawKit.callS X231 hx (y := (⟨"com/example/orbitloom/orbitloom/orbits/TrackSamplePinLaw", "v", "(III)D"⟩ : MethodName)) hown (mvT hZ (hw _ (List.mem_of_getElem? (i := 3) rfl))) (mvT hZ (hw _ (List.mem_of_getElem? (i := 4) rfl))) (mvT hZ (hw _ (List.mem_of_getElem? (i := 5) rfl))) (mvT hZ (hw _ (List.mem_of_getElem? (i := 6) rfl))) (by decide) (backOf (W := 2) (rm1 l Z a0 hw [] (12 : Int32) m3 b4 T231.heap n0 Z238 ) hZ (hw _ (List.mem_of_getElem? (i := 6) rfl)) (hw _ (List.mem_of_getElem? (i := 5) rfl)) (by decide) (by decide)) (g := (mkF m 327 #[.val (.int p0), .val (.int p1), .val (.int p2), .val (.int m3), .val (.int b4), .val (.int (2 : Int32)), .val (.ref b1), .val (.ref b93), .val (.ref b104), .val (.int (12 : Int32))] [(.int b4), (.int m3), (.int (12 : Int32)), (.double (FP.i2d (((12 : Int32) * m3) + b4)))])) rfl (by rw [hml]; rfl) (argsL := [(.int (12 : Int32)), (.int m3), (.int b4)]) (rest := [(.double (FP.i2d (((12 : Int32) * m3) + b4)))]) (lenOf pd_0 rfl) rfl (by show 2 * 0 + _ ≤ _; exact Nat.le_of_eq rfl) (hb hby at_327) (fun _ _ => ⟨rfl, rfl, (by decide : 3 + 0 ≤ _), (by decide : 29 + 0 ≤ _)⟩)
    dsimp only [Pt.U, Pt.locs, Pt.cells, Pt.slots] at X240 l240 y240 z240 st240 hQ240
    rw [l240, y240, z240] at X240
    obtain ⟨N240, eh240, hR240⟩ := hQ240
    have NA240 := Fr.app NA231 N240
    obtain rfl := hR240
    refine Goes.step st240 ?_
    show Goes _ _ _ _ _ _ _ (T240.setTop (mkF m 330 #[.val (.int p0), .val (.int p1), .val (.int p2), .val (.int m3), .val (.int b4), .val (.int (2 : Int32)), .val (.ref b1), .val (.ref b93), .val (.ref b104), .val (.int (12 : Int32))] [(.double (FP.i2d (((12 : Int32) * m3) + b4))), (.double (FP.i2d (((12 : Int32) * m3) + b4)))]))
    refine Goes.step (fun _ k => XS.dcmpS X240.here hx rfl (hb hby at_330) rfl rfl k) ?_
    show Goes _ _ _ _ _ _ _ (T240.setTop (mkF m 331 #[.val (.int p0), .val (.int p1), .val (.int p2), .val (.int m3), .val (.int b4), .val (.int (2 : Int32)), .val (.ref b1), .val (.ref b93), .val (.ref b104), .val (.int (12 : Int32))] [(.int (cmpValue (FP.dcmp (FP.i2d (((12 : Int32) * m3) + b4)) (FP.i2d (((12 : Int32) * m3) + b4))) .l))]))
    refine Goes.step (fun _ k => XS.ifNo X240.here hx rfl (hb hby at_331) rfl ((if0 _ _).trans (teq (own_nn _)).2) k) ?_
    show Goes _ _ _ _ _ _ _ (T240.setTop (mkF m 334 #[.val (.int p0), .val (.int p1), .val (.int p2), .val (.int m3), .val (.int b4), .val (.int (2 : Int32)), .val (.ref b1), .val (.ref b93), .val (.ref b104), .val (.int (12 : Int32))] []))
    refine Goes.step (fun _ k => XS.aload X240.here hx rfl (hb hby at_334) rfl rfl k) ?_
    show Goes _ _ _ _ _ _ _ (T240.setTop (mkF m 336 #[.val (.int p0), .val (.int p1), .val (.int p2), .val (.int m3), .val (.int b4), .val (.int (2 : Int32)), .val (.ref b1), .val (.ref b93), .val (.ref b104), .val (.int (12 : Int32))] [(.ref b104)]))
    refine Goes.step (fun _ k => XS.iconst X240.here hx rfl (hb hby at_336) k) ?_
    show Goes _ _ _ _ _ _ _ (T240.setTop (mkF m 337 #[.val (.int p0), .val (.int p1), .val (.int p2), .val (.int m3), .val (.int b4), .val (.int (2 : Int32)), .val (.ref b1), .val (.ref b93), .val (.ref b104), .val (.int (12 : Int32))] [(.int (1 : Int32)), (.ref b104)]))
    obtain ⟨cl241, Ar241, q241, S241, P241, H241, G241⟩ := id V231
    have hin241 : ¬ ((1 : Int32) < 0 ∨ cl241.slots.size ≤ ((1 : Int32)).toNatClampNeg) := inb_of S241 ⟨by decide, by decide⟩
    have hat241 : cl241.slots[((1 : Int32)).toNatClampNeg]? = some (.double (FP.i2d (((13 : Int32) * m3) + b4))) := H241 _ (by rw [S241]; decide)
    refine Goes.step (fun _ k => X240.daload hx (j := (1 : Int32)) (v := (.double (FP.i2d (((13 : Int32) * m3) + b4)))) (by rw [eh240]; exact Ar241.1) (State.isArrayOf_alike hZ.alike Ar241.2.1) Ar241.2.2 hin241 hat241 (g := (mkF m 337 #[.val (.int p0), .val (.int p1), .val (.int p2), .val (.int m3), .val (.int b4), .val (.int (2 : Int32)), .val (.ref b1), .val (.ref b93), .val (.ref b104), .val (.int (12 : Int32))] [(.int (1 : Int32)), (.ref b104)])) rfl rfl (hb hby at_337) _ k) ?_
    show Goes _ _ _ _ _ _ _ (T240.setTop (mkF m 338 #[.val (.int p0), .val (.int p1), .val (.int p2), .val (.int m3), .val (.int b4), .val (.int (2 : Int32)), .val (.ref b1), .val (.ref b93), .val (.ref b104), .val (.int (12 : Int32))] [(.double (FP.i2d (((13 : Int32) * m3) + b4)))]))
    refine Goes.step (fun _ k => XS.iload X240.here hx rfl (hb hby at_338) rfl  k) ?_
    show Goes _ _ _ _ _ _ _ (T240.setTop (mkF m 340 #[.val (.int p0), .val (.int p1), .val (.int p2), .val (.int m3), .val (.int b4), .val (.int (2 : Int32)), .val (.ref b1), .val (.ref b93), .val (.ref b104), .val (.int (12 : Int32))] [(.int (12 : Int32)), (.double (FP.i2d (((13 : Int32) * m3) + b4)))]))
    refine Goes.step (fun _ k => XS.iconst X240.here hx rfl (hb hby at_340) k) ?_
    show Goes _ _ _ _ _ _ _ (T240.setTop (mkF m 341 #[.val (.int p0), .val (.int p1), .val (.int p2), .val (.int m3), .val (.int b4), .val (.int (2 : Int32)), .val (.ref b1), .val (.ref b93), .val (.ref b104), .val (.int (12 : Int32))] [(.int (1 : Int32)), (.int (12 : Int32)), (.double (FP.i2d (((13 : Int32) * m3) + b4)))]))
    refine Goes.step (fun _ k => XS.iadd X240.here hx rfl (hb hby at_341) rfl k) ?_
    show Goes _ _ _ _ _ _ _ (T240.setTop (mkF m 342 #[.val (.int p0), .val (.int p1), .val (.int p2), .val (.int m3), .val (.int b4), .val (.int (2 : Int32)), .val (.ref b1), .val (.ref b93), .val (.ref b104), .val (.int (12 : Int32))] [(.int (13 : Int32)), (.double (FP.i2d (((13 : Int32) * m3) + b4)))]))
    refine Goes.step (fun _ k => XS.iloadN X240.here hx rfl (hb hby at_342) rfl  k) ?_
    show Goes _ _ _ _ _ _ _ (T240.setTop (mkF m 343 #[.val (.int p0), .val (.int p1), .val (.int p2), .val (.int m3), .val (.int b4), .val (.int (2 : Int32)), .val (.ref b1), .val (.ref b93), .val (.ref b104), .val (.int (12 : Int32))] [(.int m3), (.int (13 : Int32)), (.double (FP.i2d (((13 : Int32) * m3) + b4)))]))
    refine Goes.step (fun _ k => XS.iload X240.here hx rfl (hb hby at_343) rfl  k) ?_
    show Goes _ _ _ _ _ _ _ (T240.setTop (mkF m 345 #[.val (.int p0), .val (.int p1), .val (.int p2), .val (.int m3), .val (.int b4), .val (.int (2 : Int32)), .val (.ref b1), .val (.ref b93), .val (.ref b104), .val (.int (12 : Int32))] [(.int b4), (.int m3), (.int (13 : Int32)), (.double (FP.i2d (((13 : Int32) * m3) + b4)))]))
    obtain ⟨_, _, ⟨T242, L242, k242, n242⟩, -, X242, ⟨Lc242, hQ242, l242, y242, z242⟩, st242⟩ := Jvm.LawKit.callS X240 hx (y := (⟨"com/example/orbitloom/orbitloom/orbits/TrackSamplePinLaw", "v", "(III)D"⟩ : MethodName)) hown (mvT hZ (hw _ (List.mem_of_getElem? (i := 3) rfl))) (mvT hZ (hw _ (List.mem_of_getElem? (i := 4) rfl))) (mvT hZ (hw _ (List.mem_of_getElem? (i := 5) rfl))) (mvT hZ (hw _ (List.mem_of_getElem? (i := 6) rfl))) (by decide) (backOf (W := 2) (rm1 l Z a0 hw [] (13 : Int32) m3 b4 T231.heap n0 Z238 ) hZ (hw _ (List.mem_of_getElem? (i := 6) rfl)) (hw _ (List.mem_of_getElem? (i := 5) rfl)) (by decide) (by decide)) (g := (mkF m 345 #[.val (.int p0), .val (.int p1), .val (.int p2), .val (.int m3), .val (.int b4), .val (.int (2 : Int32)), .val (.ref b1), .val (.ref b93), .val (.ref b104), .val (.int (12 : Int32))] [(.int b4), (.int m3), (.int (13 : Int32)), (.double (FP.i2d (((13 : Int32) * m3) + b4)))])) rfl (by rw [hml]; rfl) (argsL := [(.int (13 : Int32)), (.int m3), (.int b4)]) (rest := [(.double (FP.i2d (((13 : Int32) * m3) + b4)))]) (lenOf pd_0 rfl) rfl (by show 2 * 0 + _ ≤ _; exact Nat.le_of_eq rfl) (hb hby at_345) (fun _ _ => ⟨rfl, eh240, (by decide : 3 + 0 ≤ _), (by decide : 29 + 0 ≤ _)⟩)
    dsimp only [Pt.U, Pt.locs, Pt.cells, Pt.slots] at X242 l242 y242 z242 st242 hQ242
    rw [l242, y242, z242] at X242
    obtain ⟨N242, eh242, hR242⟩ := hQ242
    have NA242 := Fr.app NA240 N242
    obtain rfl := hR242
    refine Goes.step st242 ?_
    show Goes _ _ _ _ _ _ _ (T242.setTop (mkF m 348 #[.val (.int p0), .val (.int p1), .val (.int p2), .val (.int m3), .val (.int b4), .val (.int (2 : Int32)), .val (.ref b1), .val (.ref b93), .val (.ref b104), .val (.int (12 : Int32))] [(.double (FP.i2d (((13 : Int32) * m3) + b4))), (.double (FP.i2d (((13 : Int32) * m3) + b4)))]))
    refine Goes.step (fun _ k => XS.dcmpS X242.here hx rfl (hb hby at_348) rfl rfl k) ?_
    show Goes _ _ _ _ _ _ _ (T242.setTop (mkF m 349 #[.val (.int p0), .val (.int p1), .val (.int p2), .val (.int m3), .val (.int b4), .val (.int (2 : Int32)), .val (.ref b1), .val (.ref b93), .val (.ref b104), .val (.int (12 : Int32))] [(.int (cmpValue (FP.dcmp (FP.i2d (((13 : Int32) * m3) + b4)) (FP.i2d (((13 : Int32) * m3) + b4))) .l))]))
    refine Goes.step (fun _ k => XS.ifNo X242.here hx rfl (hb hby at_349) rfl ((if0 _ _).trans (teq (own_nn _)).2) k) ?_
    show Goes _ _ _ _ _ _ _ (T242.setTop (mkF m 352 #[.val (.int p0), .val (.int p1), .val (.int p2), .val (.int m3), .val (.int b4), .val (.int (2 : Int32)), .val (.ref b1), .val (.ref b93), .val (.ref b104), .val (.int (12 : Int32))] []))
    refine Goes.step (fun _ k => XS.aload X242.here hx rfl (hb hby at_352) rfl rfl k) ?_
    show Goes _ _ _ _ _ _ _ (T242.setTop (mkF m 354 #[.val (.int p0), .val (.int p1), .val (.int p2), .val (.int m3), .val (.int b4), .val (.int (2 : Int32)), .val (.ref b1), .val (.ref b93), .val (.ref b104), .val (.int (12 : Int32))] [(.ref b104)]))
    refine Goes.step (fun _ k => XS.iconst X242.here hx rfl (hb hby at_354) k) ?_
    show Goes _ _ _ _ _ _ _ (T242.setTop (mkF m 355 #[.val (.int p0), .val (.int p1), .val (.int p2), .val (.int m3), .val (.int b4), .val (.int (2 : Int32)), .val (.ref b1), .val (.ref b93), .val (.ref b104), .val (.int (12 : Int32))] [(.int (2 : Int32)), (.ref b104)]))
    obtain ⟨cl243, Ar243, q243, S243, P243, H243, G243⟩ := id V231
    have hin243 : ¬ ((2 : Int32) < 0 ∨ cl243.slots.size ≤ ((2 : Int32)).toNatClampNeg) := inb_of S243 ⟨by decide, by decide⟩
    have hat243 : cl243.slots[((2 : Int32)).toNatClampNeg]? = some (.double (FP.i2d (((14 : Int32) * m3) + b4))) := H243 _ (by rw [S243]; decide)
    refine Goes.step (fun _ k => X242.daload hx (j := (2 : Int32)) (v := (.double (FP.i2d (((14 : Int32) * m3) + b4)))) (by rw [eh242]; exact Ar243.1) (State.isArrayOf_alike hZ.alike Ar243.2.1) Ar243.2.2 hin243 hat243 (g := (mkF m 355 #[.val (.int p0), .val (.int p1), .val (.int p2), .val (.int m3), .val (.int b4), .val (.int (2 : Int32)), .val (.ref b1), .val (.ref b93), .val (.ref b104), .val (.int (12 : Int32))] [(.int (2 : Int32)), (.ref b104)])) rfl rfl (hb hby at_355) _ k) ?_
    show Goes _ _ _ _ _ _ _ (T242.setTop (mkF m 356 #[.val (.int p0), .val (.int p1), .val (.int p2), .val (.int m3), .val (.int b4), .val (.int (2 : Int32)), .val (.ref b1), .val (.ref b93), .val (.ref b104), .val (.int (12 : Int32))] [(.double (FP.i2d (((14 : Int32) * m3) + b4)))]))
    refine Goes.step (fun _ k => XS.iload X242.here hx rfl (hb hby at_356) rfl  k) ?_
    show Goes _ _ _ _ _ _ _ (T242.setTop (mkF m 358 #[.val (.int p0), .val (.int p1), .val (.int p2), .val (.int m3), .val (.int b4), .val (.int (2 : Int32)), .val (.ref b1), .val (.ref b93), .val (.ref b104), .val (.int (12 : Int32))] [(.int (12 : Int32)), (.double (FP.i2d (((14 : Int32) * m3) + b4)))]))
    refine Goes.step (fun _ k => XS.iconst X242.here hx rfl (hb hby at_358) k) ?_
    show Goes _ _ _ _ _ _ _ (T242.setTop (mkF m 359 #[.val (.int p0), .val (.int p1), .val (.int p2), .val (.int m3), .val (.int b4), .val (.int (2 : Int32)), .val (.ref b1), .val (.ref b93), .val (.ref b104), .val (.int (12 : Int32))] [(.int (2 : Int32)), (.int (12 : Int32)), (.double (FP.i2d (((14 : Int32) * m3) + b4)))]))
    refine Goes.step (fun _ k => XS.iadd X242.here hx rfl (hb hby at_359) rfl k) ?_
    show Goes _ _ _ _ _ _ _ (T242.setTop (mkF m 360 #[.val (.int p0), .val (.int p1), .val (.int p2), .val (.int m3), .val (.int b4), .val (.int (2 : Int32)), .val (.ref b1), .val (.ref b93), .val (.ref b104), .val (.int (12 : Int32))] [(.int (14 : Int32)), (.double (FP.i2d (((14 : Int32) * m3) + b4)))]))
    refine Goes.step (fun _ k => XS.iloadN X242.here hx rfl (hb hby at_360) rfl  k) ?_
    show Goes _ _ _ _ _ _ _ (T242.setTop (mkF m 361 #[.val (.int p0), .val (.int p1), .val (.int p2), .val (.int m3), .val (.int b4), .val (.int (2 : Int32)), .val (.ref b1), .val (.ref b93), .val (.ref b104), .val (.int (12 : Int32))] [(.int m3), (.int (14 : Int32)), (.double (FP.i2d (((14 : Int32) * m3) + b4)))]))
    refine Goes.step (fun _ k => XS.iload X242.here hx rfl (hb hby at_361) rfl  k) ?_
    show Goes _ _ _ _ _ _ _ (T242.setTop (mkF m 363 #[.val (.int p0), .val (.int p1), .val (.int p2), .val (.int m3), .val (.int b4), .val (.int (2 : Int32)), .val (.ref b1), .val (.ref b93), .val (.ref b104), .val (.int (12 : Int32))] [(.int b4), (.int m3), (.int (14 : Int32)), (.double (FP.i2d (((14 : Int32) * m3) + b4)))]))
    obtain ⟨_, _, ⟨T244, L244, k244, n244⟩, -, X244, ⟨Lc244, hQ244, l244, y244, z244⟩, st244⟩ := Jvm.LawKit.callS X242 hx (y := (⟨"com/example/orbitloom/orbitloom/orbits/TrackSamplePinLaw", "v", "(III)D"⟩ : MethodName)) hown (mvT hZ (hw _ (List.mem_of_getElem? (i := 3) rfl))) (mvT hZ (hw _ (List.mem_of_getElem? (i := 4) rfl))) (mvT hZ (hw _ (List.mem_of_getElem? (i := 5) rfl))) (mvT hZ (hw _ (List.mem_of_getElem? (i := 6) rfl))) (by decide) (backOf (W := 2) (rm1 l Z a0 hw [] (14 : Int32) m3 b4 T231.heap n0 Z238 ) hZ (hw _ (List.mem_of_getElem? (i := 6) rfl)) (hw _ (List.mem_of_getElem? (i := 5) rfl)) (by decide) (by decide)) (g := (mkF m 363 #[.val (.int p0), .val (.int p1), .val (.int p2), .val (.int m3), .val (.int b4), .val (.int (2 : Int32)), .val (.ref b1), .val (.ref b93), .val (.ref b104), .val (.int (12 : Int32))] [(.int b4), (.int m3), (.int (14 : Int32)), (.double (FP.i2d (((14 : Int32) * m3) + b4)))])) rfl (by rw [hml]; rfl) (argsL := [(.int (14 : Int32)), (.int m3), (.int b4)]) (rest := [(.double (FP.i2d (((14 : Int32) * m3) + b4)))]) (lenOf pd_0 rfl) rfl (by show 2 * 0 + _ ≤ _; exact Nat.le_of_eq rfl) (hb hby at_363) (fun _ _ => ⟨rfl, eh242, (by decide : 3 + 0 ≤ _), (by decide : 29 + 0 ≤ _)⟩)
    dsimp only [Pt.U, Pt.locs, Pt.cells, Pt.slots] at X244 l244 y244 z244 st244 hQ244
    rw [l244, y244, z244] at X244
    obtain ⟨N244, eh244, hR244⟩ := hQ244
    have NA244 := Fr.app NA242 N244
    obtain rfl := hR244
    refine Goes.step st244 ?_
    show Goes _ _ _ _ _ _ _ (T244.setTop (mkF m 366 #[.val (.int p0), .val (.int p1), .val (.int p2), .val (.int m3), .val (.int b4), .val (.int (2 : Int32)), .val (.ref b1), .val (.ref b93), .val (.ref b104), .val (.int (12 : Int32))] [(.double (FP.i2d (((14 : Int32) * m3) + b4))), (.double (FP.i2d (((14 : Int32) * m3) + b4)))]))
    refine Goes.step (fun _ k => XS.dcmpS X244.here hx rfl (hb hby at_366) rfl rfl k) ?_
    show Goes _ _ _ _ _ _ _ (T244.setTop (mkF m 367 #[.val (.int p0), .val (.int p1), .val (.int p2), .val (.int m3), .val (.int b4), .val (.int (2 : Int32)), .val (.ref b1), .val (.ref b93), .val (.ref b104), .val (.int (12 : Int32))] [(.int (cmpValue (FP.dcmp (FP.i2d (((14 : Int32) * m3) + b4)) (FP.i2d (((14 : Int32) * m3) + b4))) .l))]))
    refine Goes.step (fun _ k => XS.ifNo X244.here hx rfl (hb hby at_367) rfl ((if0 _ _).trans (teq (own_nn _)).2) k) ?_
    show Goes _ _ _ _ _ _ _ (T244.setTop (mkF m 370 #[.val (.int p0), .val (.int p1), .val (.int p2), .val (.int m3), .val (.int b4), .val (.int (2 : Int32)), .val (.ref b1), .val (.ref b93), .val (.ref b104), .val (.int (12 : Int32))] []))
    refine Goes.step (fun _ k => XS.aload X244.here hx rfl (hb hby at_370) rfl rfl k) ?_
    show Goes _ _ _ _ _ _ _ (T244.setTop (mkF m 372 #[.val (.int p0), .val (.int p1), .val (.int p2), .val (.int m3), .val (.int b4), .val (.int (2 : Int32)), .val (.ref b1), .val (.ref b93), .val (.ref b104), .val (.int (12 : Int32))] [(.ref b104)]))
    refine Goes.step (fun _ k => XS.iconst X244.here hx rfl (hb hby at_372) k) ?_
    show Goes _ _ _ _ _ _ _ (T244.setTop (mkF m 373 #[.val (.int p0), .val (.int p1), .val (.int p2), .val (.int m3), .val (.int b4), .val (.int (2 : Int32)), .val (.ref b1), .val (.ref b93), .val (.ref b104), .val (.int (12 : Int32))] [(.int (3 : Int32)), (.ref b104)]))
    obtain ⟨cl245, Ar245, q245, S245, P245, H245, G245⟩ := id V231
    have hin245 : ¬ ((3 : Int32) < 0 ∨ cl245.slots.size ≤ ((3 : Int32)).toNatClampNeg) := inb_of S245 ⟨by decide, by decide⟩
    have hat245 : cl245.slots[((3 : Int32)).toNatClampNeg]? = some (.double (FP.i2d (((15 : Int32) * m3) + b4))) := H245 _ (by rw [S245]; decide)
    refine Goes.step (fun _ k => X244.daload hx (j := (3 : Int32)) (v := (.double (FP.i2d (((15 : Int32) * m3) + b4)))) (by rw [eh244]; exact Ar245.1) (State.isArrayOf_alike hZ.alike Ar245.2.1) Ar245.2.2 hin245 hat245 (g := (mkF m 373 #[.val (.int p0), .val (.int p1), .val (.int p2), .val (.int m3), .val (.int b4), .val (.int (2 : Int32)), .val (.ref b1), .val (.ref b93), .val (.ref b104), .val (.int (12 : Int32))] [(.int (3 : Int32)), (.ref b104)])) rfl rfl (hb hby at_373) _ k) ?_
    show Goes _ _ _ _ _ _ _ (T244.setTop (mkF m 374 #[.val (.int p0), .val (.int p1), .val (.int p2), .val (.int m3), .val (.int b4), .val (.int (2 : Int32)), .val (.ref b1), .val (.ref b93), .val (.ref b104), .val (.int (12 : Int32))] [(.double (FP.i2d (((15 : Int32) * m3) + b4)))]))
    refine Goes.step (fun _ k => XS.iload X244.here hx rfl (hb hby at_374) rfl  k) ?_
    show Goes _ _ _ _ _ _ _ (T244.setTop (mkF m 376 #[.val (.int p0), .val (.int p1), .val (.int p2), .val (.int m3), .val (.int b4), .val (.int (2 : Int32)), .val (.ref b1), .val (.ref b93), .val (.ref b104), .val (.int (12 : Int32))] [(.int (12 : Int32)), (.double (FP.i2d (((15 : Int32) * m3) + b4)))]))
    refine Goes.step (fun _ k => XS.iconst X244.here hx rfl (hb hby at_376) k) ?_
    show Goes _ _ _ _ _ _ _ (T244.setTop (mkF m 377 #[.val (.int p0), .val (.int p1), .val (.int p2), .val (.int m3), .val (.int b4), .val (.int (2 : Int32)), .val (.ref b1), .val (.ref b93), .val (.ref b104), .val (.int (12 : Int32))] [(.int (3 : Int32)), (.int (12 : Int32)), (.double (FP.i2d (((15 : Int32) * m3) + b4)))]))
    refine Goes.step (fun _ k => XS.iadd X244.here hx rfl (hb hby at_377) rfl k) ?_
    show Goes _ _ _ _ _ _ _ (T244.setTop (mkF m 378 #[.val (.int p0), .val (.int p1), .val (.int p2), .val (.int m3), .val (.int b4), .val (.int (2 : Int32)), .val (.ref b1), .val (.ref b93), .val (.ref b104), .val (.int (12 : Int32))] [(.int (15 : Int32)), (.double (FP.i2d (((15 : Int32) * m3) + b4)))]))
    refine Goes.step (fun _ k => XS.iloadN X244.here hx rfl (hb hby at_378) rfl  k) ?_
    show Goes _ _ _ _ _ _ _ (T244.setTop (mkF m 379 #[.val (.int p0), .val (.int p1), .val (.int p2), .val (.int m3), .val (.int b4), .val (.int (2 : Int32)), .val (.ref b1), .val (.ref b93), .val (.ref b104), .val (.int (12 : Int32))] [(.int m3), (.int (15 : Int32)), (.double (FP.i2d (((15 : Int32) * m3) + b4)))]))
    refine Goes.step (fun _ k => XS.iload X244.here hx rfl (hb hby at_379) rfl  k) ?_
    show Goes _ _ _ _ _ _ _ (T244.setTop (mkF m 381 #[.val (.int p0), .val (.int p1), .val (.int p2), .val (.int m3), .val (.int b4), .val (.int (2 : Int32)), .val (.ref b1), .val (.ref b93), .val (.ref b104), .val (.int (12 : Int32))] [(.int b4), (.int m3), (.int (15 : Int32)), (.double (FP.i2d (((15 : Int32) * m3) + b4)))]))
    obtain ⟨_, _, ⟨T246, L246, k246, n246⟩, -, X246, ⟨Lc246, hQ246, l246, y246, z246⟩, st246⟩ := Jvm.LawKit.callS X244 hx (y := (⟨"com/example/orbitloom/orbitloom/orbits/TrackSamplePinLaw", "v", "(III)D"⟩ : MethodName)) hown (mvT hZ (hw _ (List.mem_of_getElem? (i := 3) rfl))) (mvT hZ (hw _ (List.mem_of_getElem? (i := 4) rfl))) (mvT hZ (hw _ (List.mem_of_getElem? (i := 5) rfl))) (mvT hZ (hw _ (List.mem_of_getElem? (i := 6) rfl))) (by decide) (backOf (W := 2) (rm1 l Z a0 hw [] (15 : Int32) m3 b4 T231.heap n0 Z238 ) hZ (hw _ (List.mem_of_getElem? (i := 6) rfl)) (hw _ (List.mem_of_getElem? (i := 5) rfl)) (by decide) (by decide)) (g := (mkF m 381 #[.val (.int p0), .val (.int p1), .val (.int p2), .val (.int m3), .val (.int b4), .val (.int (2 : Int32)), .val (.ref b1), .val (.ref b93), .val (.ref b104), .val (.int (12 : Int32))] [(.int b4), (.int m3), (.int (15 : Int32)), (.double (FP.i2d (((15 : Int32) * m3) + b4)))])) rfl (by rw [hml]; rfl) (argsL := [(.int (15 : Int32)), (.int m3), (.int b4)]) (rest := [(.double (FP.i2d (((15 : Int32) * m3) + b4)))]) (lenOf pd_0 rfl) rfl (by show 2 * 0 + _ ≤ _; exact Nat.le_of_eq rfl) (hb hby at_381) (fun _ _ => ⟨rfl, eh244, (by decide : 3 + 0 ≤ _), (by decide : 29 + 0 ≤ _)⟩)
    dsimp only [Pt.U, Pt.locs, Pt.cells, Pt.slots] at X246 l246 y246 z246 st246 hQ246
    rw [l246, y246, z246] at X246
    obtain ⟨N246, eh246, hR246⟩ := hQ246
    have NA246 := Fr.app NA244 N246
    obtain rfl := hR246
    refine Goes.step st246 ?_
    show Goes _ _ _ _ _ _ _ (T246.setTop (mkF m 384 #[.val (.int p0), .val (.int p1), .val (.int p2), .val (.int m3), .val (.int b4), .val (.int (2 : Int32)), .val (.ref b1), .val (.ref b93), .val (.ref b104), .val (.int (12 : Int32))] [(.double (FP.i2d (((15 : Int32) * m3) + b4))), (.double (FP.i2d (((15 : Int32) * m3) + b4)))]))
    refine Goes.step (fun _ k => XS.dcmpS X246.here hx rfl (hb hby at_384) rfl rfl k) ?_
    show Goes _ _ _ _ _ _ _ (T246.setTop (mkF m 385 #[.val (.int p0), .val (.int p1), .val (.int p2), .val (.int m3), .val (.int b4), .val (.int (2 : Int32)), .val (.ref b1), .val (.ref b93), .val (.ref b104), .val (.int (12 : Int32))] [(.int (cmpValue (FP.dcmp (FP.i2d (((15 : Int32) * m3) + b4)) (FP.i2d (((15 : Int32) * m3) + b4))) .l))]))
    refine Goes.step (fun _ k => XS.ifNo X246.here hx rfl (hb hby at_385) rfl ((if0 _ _).trans (teq (own_nn _)).2) k) ?_
    show Goes _ _ _ _ _ _ _ (T246.setTop (mkF m 388 #[.val (.int p0), .val (.int p1), .val (.int p2), .val (.int m3), .val (.int b4), .val (.int (2 : Int32)), .val (.ref b1), .val (.ref b93), .val (.ref b104), .val (.int (12 : Int32))] []))
    refine Goes.step (fun _ k => XS.aload X246.here hx rfl (hb hby at_388) rfl rfl k) ?_
    show Goes _ _ _ _ _ _ _ (T246.setTop (mkF m 390 #[.val (.int p0), .val (.int p1), .val (.int p2), .val (.int m3), .val (.int b4), .val (.int (2 : Int32)), .val (.ref b1), .val (.ref b93), .val (.ref b104), .val (.int (12 : Int32))] [(.ref b104)]))
    refine Goes.step (fun _ k => XS.iconst X246.here hx rfl (hb hby at_390) k) ?_
    show Goes _ _ _ _ _ _ _ (T246.setTop (mkF m 391 #[.val (.int p0), .val (.int p1), .val (.int p2), .val (.int m3), .val (.int b4), .val (.int (2 : Int32)), .val (.ref b1), .val (.ref b93), .val (.ref b104), .val (.int (12 : Int32))] [(.int (4 : Int32)), (.ref b104)]))
    obtain ⟨cl247, Ar247, q247, S247, P247, H247, G247⟩ := id V231
    have hin247 : ¬ ((4 : Int32) < 0 ∨ cl247.slots.size ≤ ((4 : Int32)).toNatClampNeg) := inb_of S247 ⟨by decide, by decide⟩
    have hat247 : cl247.slots[((4 : Int32)).toNatClampNeg]? = some (.double (FP.i2d (((16 : Int32) * m3) + b4))) := H247 _ (by rw [S247]; decide)
    refine Goes.step (fun _ k => X246.daload hx (j := (4 : Int32)) (v := (.double (FP.i2d (((16 : Int32) * m3) + b4)))) (by rw [eh246]; exact Ar247.1) (State.isArrayOf_alike hZ.alike Ar247.2.1) Ar247.2.2 hin247 hat247 (g := (mkF m 391 #[.val (.int p0), .val (.int p1), .val (.int p2), .val (.int m3), .val (.int b4), .val (.int (2 : Int32)), .val (.ref b1), .val (.ref b93), .val (.ref b104), .val (.int (12 : Int32))] [(.int (4 : Int32)), (.ref b104)])) rfl rfl (hb hby at_391) _ k) ?_
    show Goes _ _ _ _ _ _ _ (T246.setTop (mkF m 392 #[.val (.int p0), .val (.int p1), .val (.int p2), .val (.int m3), .val (.int b4), .val (.int (2 : Int32)), .val (.ref b1), .val (.ref b93), .val (.ref b104), .val (.int (12 : Int32))] [(.double (FP.i2d (((16 : Int32) * m3) + b4)))]))
    refine Goes.step (fun _ k => XS.iload X246.here hx rfl (hb hby at_392) rfl  k) ?_
    show Goes _ _ _ _ _ _ _ (T246.setTop (mkF m 394 #[.val (.int p0), .val (.int p1), .val (.int p2), .val (.int m3), .val (.int b4), .val (.int (2 : Int32)), .val (.ref b1), .val (.ref b93), .val (.ref b104), .val (.int (12 : Int32))] [(.int (12 : Int32)), (.double (FP.i2d (((16 : Int32) * m3) + b4)))]))
    refine Goes.step (fun _ k => XS.iconst X246.here hx rfl (hb hby at_394) k) ?_
    show Goes _ _ _ _ _ _ _ (T246.setTop (mkF m 395 #[.val (.int p0), .val (.int p1), .val (.int p2), .val (.int m3), .val (.int b4), .val (.int (2 : Int32)), .val (.ref b1), .val (.ref b93), .val (.ref b104), .val (.int (12 : Int32))] [(.int (4 : Int32)), (.int (12 : Int32)), (.double (FP.i2d (((16 : Int32) * m3) + b4)))]))
    refine Goes.step (fun _ k => XS.iadd X246.here hx rfl (hb hby at_395) rfl k) ?_
    show Goes _ _ _ _ _ _ _ (T246.setTop (mkF m 396 #[.val (.int p0), .val (.int p1), .val (.int p2), .val (.int m3), .val (.int b4), .val (.int (2 : Int32)), .val (.ref b1), .val (.ref b93), .val (.ref b104), .val (.int (12 : Int32))] [(.int (16 : Int32)), (.double (FP.i2d (((16 : Int32) * m3) + b4)))]))
    refine Goes.step (fun _ k => XS.iloadN X246.here hx rfl (hb hby at_396) rfl  k) ?_
    show Goes _ _ _ _ _ _ _ (T246.setTop (mkF m 397 #[.val (.int p0), .val (.int p1), .val (.int p2), .val (.int m3), .val (.int b4), .val (.int (2 : Int32)), .val (.ref b1), .val (.ref b93), .val (.ref b104), .val (.int (12 : Int32))] [(.int m3), (.int (16 : Int32)), (.double (FP.i2d (((16 : Int32) * m3) + b4)))]))
    refine Goes.step (fun _ k => XS.iload X246.here hx rfl (hb hby at_397) rfl  k) ?_
    show Goes _ _ _ _ _ _ _ (T246.setTop (mkF m 399 #[.val (.int p0), .val (.int p1), .val (.int p2), .val (.int m3), .val (.int b4), .val (.int (2 : Int32)), .val (.ref b1), .val (.ref b93), .val (.ref b104), .val (.int (12 : Int32))] [(.int b4), (.int m3), (.int (16 : Int32)), (.double (FP.i2d (((16 : Int32) * m3) + b4)))]))
    obtain ⟨_, _, ⟨T248, L248, k248, n248⟩, -, X248, ⟨Lc248, hQ248, l248, y248, z248⟩, st248⟩ := Jvm.LawKit.callS X246 hx (y := (⟨"com/example/orbitloom/orbitloom/orbits/TrackSamplePinLaw", "v", "(III)D"⟩ : MethodName)) hown (mvT hZ (hw _ (List.mem_of_getElem? (i := 3) rfl))) (mvT hZ (hw _ (List.mem_of_getElem? (i := 4) rfl))) (mvT hZ (hw _ (List.mem_of_getElem? (i := 5) rfl))) (mvT hZ (hw _ (List.mem_of_getElem? (i := 6) rfl))) (by decide) (backOf (W := 2) (rm1 l Z a0 hw [] (16 : Int32) m3 b4 T231.heap n0 Z238 ) hZ (hw _ (List.mem_of_getElem? (i := 6) rfl)) (hw _ (List.mem_of_getElem? (i := 5) rfl)) (by decide) (by decide)) (g := (mkF m 399 #[.val (.int p0), .val (.int p1), .val (.int p2), .val (.int m3), .val (.int b4), .val (.int (2 : Int32)), .val (.ref b1), .val (.ref b93), .val (.ref b104), .val (.int (12 : Int32))] [(.int b4), (.int m3), (.int (16 : Int32)), (.double (FP.i2d (((16 : Int32) * m3) + b4)))])) rfl (by rw [hml]; rfl) (argsL := [(.int (16 : Int32)), (.int m3), (.int b4)]) (rest := [(.double (FP.i2d (((16 : Int32) * m3) + b4)))]) (lenOf pd_0 rfl) rfl (by show 2 * 0 + _ ≤ _; exact Nat.le_of_eq rfl) (hb hby at_399) (fun _ _ => ⟨rfl, eh246, (by decide : 3 + 0 ≤ _), (by decide : 29 + 0 ≤ _)⟩)
    dsimp only [Pt.U, Pt.locs, Pt.cells, Pt.slots] at X248 l248 y248 z248 st248 hQ248
    rw [l248, y248, z248] at X248
    obtain ⟨N248, eh248, hR248⟩ := hQ248
    have NA248 := Fr.app NA246 N248
    obtain rfl := hR248
    refine Goes.step st248 ?_
    show Goes _ _ _ _ _ _ _ (T248.setTop (mkF m 402 #[.val (.int p0), .val (.int p1), .val (.int p2), .val (.int m3), .val (.int b4), .val (.int (2 : Int32)), .val (.ref b1), .val (.ref b93), .val (.ref b104), .val (.int (12 : Int32))] [(.double (FP.i2d (((16 : Int32) * m3) + b4))), (.double (FP.i2d (((16 : Int32) * m3) + b4)))]))
    refine Goes.step (fun _ k => XS.dcmpS X248.here hx rfl (hb hby at_402) rfl rfl k) ?_
    show Goes _ _ _ _ _ _ _ (T248.setTop (mkF m 403 #[.val (.int p0), .val (.int p1), .val (.int p2), .val (.int m3), .val (.int b4), .val (.int (2 : Int32)), .val (.ref b1), .val (.ref b93), .val (.ref b104), .val (.int (12 : Int32))] [(.int (cmpValue (FP.dcmp (FP.i2d (((16 : Int32) * m3) + b4)) (FP.i2d (((16 : Int32) * m3) + b4))) .l))]))
    refine Goes.step (fun _ k => XS.ifNo X248.here hx rfl (hb hby at_403) rfl ((if0 _ _).trans (teq (own_nn _)).2) k) ?_
    show Goes _ _ _ _ _ _ _ (T248.setTop (mkF m 406 #[.val (.int p0), .val (.int p1), .val (.int p2), .val (.int m3), .val (.int b4), .val (.int (2 : Int32)), .val (.ref b1), .val (.ref b93), .val (.ref b104), .val (.int (12 : Int32))] []))
    refine Goes.step (fun _ k => XS.aload X248.here hx rfl (hb hby at_406) rfl rfl k) ?_
    show Goes _ _ _ _ _ _ _ (T248.setTop (mkF m 408 #[.val (.int p0), .val (.int p1), .val (.int p2), .val (.int m3), .val (.int b4), .val (.int (2 : Int32)), .val (.ref b1), .val (.ref b93), .val (.ref b104), .val (.int (12 : Int32))] [(.ref b104)]))
    refine Goes.step (fun _ k => XS.iconst X248.here hx rfl (hb hby at_408) k) ?_
    show Goes _ _ _ _ _ _ _ (T248.setTop (mkF m 409 #[.val (.int p0), .val (.int p1), .val (.int p2), .val (.int m3), .val (.int b4), .val (.int (2 : Int32)), .val (.ref b1), .val (.ref b93), .val (.ref b104), .val (.int (12 : Int32))] [(.int (5 : Int32)), (.ref b104)]))
    obtain ⟨cl249, Ar249, q249, S249, P249, H249, G249⟩ := id V231
    have hin249 : ¬ ((5 : Int32) < 0 ∨ cl249.slots.size ≤ ((5 : Int32)).toNatClampNeg) := inb_of S249 ⟨by decide, by decide⟩
    have hat249 : cl249.slots[((5 : Int32)).toNatClampNeg]? = some (.double (FP.i2d (((17 : Int32) * m3) + b4))) := H249 _ (by rw [S249]; decide)
    refine Goes.step (fun _ k => X248.daload hx (j := (5 : Int32)) (v := (.double (FP.i2d (((17 : Int32) * m3) + b4)))) (by rw [eh248]; exact Ar249.1) (State.isArrayOf_alike hZ.alike Ar249.2.1) Ar249.2.2 hin249 hat249 (g := (mkF m 409 #[.val (.int p0), .val (.int p1), .val (.int p2), .val (.int m3), .val (.int b4), .val (.int (2 : Int32)), .val (.ref b1), .val (.ref b93), .val (.ref b104), .val (.int (12 : Int32))] [(.int (5 : Int32)), (.ref b104)])) rfl rfl (hb hby at_409) _ k) ?_
    show Goes _ _ _ _ _ _ _ (T248.setTop (mkF m 410 #[.val (.int p0), .val (.int p1), .val (.int p2), .val (.int m3), .val (.int b4), .val (.int (2 : Int32)), .val (.ref b1), .val (.ref b93), .val (.ref b104), .val (.int (12 : Int32))] [(.double (FP.i2d (((17 : Int32) * m3) + b4)))]))
    refine Goes.step (fun _ k => XS.iload X248.here hx rfl (hb hby at_410) rfl  k) ?_
    show Goes _ _ _ _ _ _ _ (T248.setTop (mkF m 412 #[.val (.int p0), .val (.int p1), .val (.int p2), .val (.int m3), .val (.int b4), .val (.int (2 : Int32)), .val (.ref b1), .val (.ref b93), .val (.ref b104), .val (.int (12 : Int32))] [(.int (12 : Int32)), (.double (FP.i2d (((17 : Int32) * m3) + b4)))]))
    refine Goes.step (fun _ k => XS.iconst X248.here hx rfl (hb hby at_412) k) ?_
    show Goes _ _ _ _ _ _ _ (T248.setTop (mkF m 413 #[.val (.int p0), .val (.int p1), .val (.int p2), .val (.int m3), .val (.int b4), .val (.int (2 : Int32)), .val (.ref b1), .val (.ref b93), .val (.ref b104), .val (.int (12 : Int32))] [(.int (5 : Int32)), (.int (12 : Int32)), (.double (FP.i2d (((17 : Int32) * m3) + b4)))]))
    refine Goes.step (fun _ k => XS.iadd X248.here hx rfl (hb hby at_413) rfl k) ?_
    show Goes _ _ _ _ _ _ _ (T248.setTop (mkF m 414 #[.val (.int p0), .val (.int p1), .val (.int p2), .val (.int m3), .val (.int b4), .val (.int (2 : Int32)), .val (.ref b1), .val (.ref b93), .val (.ref b104), .val (.int (12 : Int32))] [(.int (17 : Int32)), (.double (FP.i2d (((17 : Int32) * m3) + b4)))]))
    refine Goes.step (fun _ k => XS.iloadN X248.here hx rfl (hb hby at_414) rfl  k) ?_
    show Goes _ _ _ _ _ _ _ (T248.setTop (mkF m 415 #[.val (.int p0), .val (.int p1), .val (.int p2), .val (.int m3), .val (.int b4), .val (.int (2 : Int32)), .val (.ref b1), .val (.ref b93), .val (.ref b104), .val (.int (12 : Int32))] [(.int m3), (.int (17 : Int32)), (.double (FP.i2d (((17 : Int32) * m3) + b4)))]))
    refine Goes.step (fun _ k => XS.iload X248.here hx rfl (hb hby at_415) rfl  k) ?_
    show Goes _ _ _ _ _ _ _ (T248.setTop (mkF m 417 #[.val (.int p0), .val (.int p1), .val (.int p2), .val (.int m3), .val (.int b4), .val (.int (2 : Int32)), .val (.ref b1), .val (.ref b93), .val (.ref b104), .val (.int (12 : Int32))] [(.int b4), (.int m3), (.int (17 : Int32)), (.double (FP.i2d (((17 : Int32) * m3) + b4)))]))
    obtain ⟨_, _, ⟨T250, L250, k250, n250⟩, -, X250, ⟨Lc250, hQ250, l250, y250, z250⟩, st250⟩ := Jvm.LawKit.callS X248 hx (y := (⟨"com/example/orbitloom/orbitloom/orbits/TrackSamplePinLaw", "v", "(III)D"⟩ : MethodName)) hown (mvT hZ (hw _ (List.mem_of_getElem? (i := 3) rfl))) (mvT hZ (hw _ (List.mem_of_getElem? (i := 4) rfl))) (mvT hZ (hw _ (List.mem_of_getElem? (i := 5) rfl))) (mvT hZ (hw _ (List.mem_of_getElem? (i := 6) rfl))) (by decide) (backOf (W := 2) (rm1 l Z a0 hw [] (17 : Int32) m3 b4 T231.heap n0 Z238 ) hZ (hw _ (List.mem_of_getElem? (i := 6) rfl)) (hw _ (List.mem_of_getElem? (i := 5) rfl)) (by decide) (by decide)) (g := (mkF m 417 #[.val (.int p0), .val (.int p1), .val (.int p2), .val (.int m3), .val (.int b4), .val (.int (2 : Int32)), .val (.ref b1), .val (.ref b93), .val (.ref b104), .val (.int (12 : Int32))] [(.int b4), (.int m3), (.int (17 : Int32)), (.double (FP.i2d (((17 : Int32) * m3) + b4)))])) rfl (by rw [hml]; rfl) (argsL := [(.int (17 : Int32)), (.int m3), (.int b4)]) (rest := [(.double (FP.i2d (((17 : Int32) * m3) + b4)))]) (lenOf pd_0 rfl) rfl (by show 2 * 0 + _ ≤ _; exact Nat.le_of_eq rfl) (hb hby at_417) (fun _ _ => ⟨rfl, eh248, (by decide : 3 + 0 ≤ _), (by decide : 29 + 0 ≤ _)⟩)
    dsimp only [Pt.U, Pt.locs, Pt.cells, Pt.slots] at X250 l250 y250 z250 st250 hQ250
    rw [l250, y250, z250] at X250
    obtain ⟨N250, eh250, hR250⟩ := hQ250
    have NA250 := Fr.app NA248 N250
    obtain rfl := hR250
    refine Goes.step st250 ?_
    show Goes _ _ _ _ _ _ _ (T250.setTop (mkF m 420 #[.val (.int p0), .val (.int p1), .val (.int p2), .val (.int m3), .val (.int b4), .val (.int (2 : Int32)), .val (.ref b1), .val (.ref b93), .val (.ref b104), .val (.int (12 : Int32))] [(.double (FP.i2d (((17 : Int32) * m3) + b4))), (.double (FP.i2d (((17 : Int32) * m3) + b4)))]))
    refine Goes.step (fun _ k => XS.dcmpS X250.here hx rfl (hb hby at_420) rfl rfl k) ?_
    show Goes _ _ _ _ _ _ _ (T250.setTop (mkF m 421 #[.val (.int p0), .val (.int p1), .val (.int p2), .val (.int m3), .val (.int b4), .val (.int (2 : Int32)), .val (.ref b1), .val (.ref b93), .val (.ref b104), .val (.int (12 : Int32))] [(.int (cmpValue (FP.dcmp (FP.i2d (((17 : Int32) * m3) + b4)) (FP.i2d (((17 : Int32) * m3) + b4))) .l))]))
    refine Goes.step (fun _ k => XS.ifNo X250.here hx rfl (hb hby at_421) rfl ((if0 _ _).trans (teq (own_nn _)).2) k) ?_
    show Goes _ _ _ _ _ _ _ (T250.setTop (mkF m 424 #[.val (.int p0), .val (.int p1), .val (.int p2), .val (.int m3), .val (.int b4), .val (.int (2 : Int32)), .val (.ref b1), .val (.ref b93), .val (.ref b104), .val (.int (12 : Int32))] []))
    refine Goes.step (fun _ k => XS.aload X250.here hx rfl (hb hby at_424) rfl rfl k) ?_
    show Goes _ _ _ _ _ _ _ (T250.setTop (mkF m 426 #[.val (.int p0), .val (.int p1), .val (.int p2), .val (.int m3), .val (.int b4), .val (.int (2 : Int32)), .val (.ref b1), .val (.ref b93), .val (.ref b104), .val (.int (12 : Int32))] [(.ref b104)]))
    refine Goes.step (fun _ k => XS.bipush X250.here hx rfl (hb hby at_426) k) ?_
    show Goes _ _ _ _ _ _ _ (T250.setTop (mkF m 428 #[.val (.int p0), .val (.int p1), .val (.int p2), .val (.int m3), .val (.int b4), .val (.int (2 : Int32)), .val (.ref b1), .val (.ref b93), .val (.ref b104), .val (.int (12 : Int32))] [(.int (6 : Int32)), (.ref b104)]))
    obtain ⟨cl251, Ar251, q251, S251, P251, H251, G251⟩ := id V231
    have hin251 : ¬ ((6 : Int32) < 0 ∨ cl251.slots.size ≤ ((6 : Int32)).toNatClampNeg) := inb_of S251 ⟨by decide, by decide⟩
    have hat251 : cl251.slots[((6 : Int32)).toNatClampNeg]? = some (.double (13830554455654793216 : UInt64)) := H251 _ (by rw [S251]; decide)
    refine Goes.step (fun _ k => X250.daload hx (j := (6 : Int32)) (v := (.double (13830554455654793216 : UInt64))) (by rw [eh250]; exact Ar251.1) (State.isArrayOf_alike hZ.alike Ar251.2.1) Ar251.2.2 hin251 hat251 (g := (mkF m 428 #[.val (.int p0), .val (.int p1), .val (.int p2), .val (.int m3), .val (.int b4), .val (.int (2 : Int32)), .val (.ref b1), .val (.ref b93), .val (.ref b104), .val (.int (12 : Int32))] [(.int (6 : Int32)), (.ref b104)])) rfl rfl (hb hby at_428) _ k) ?_
    show Goes _ _ _ _ _ _ _ (T250.setTop (mkF m 429 #[.val (.int p0), .val (.int p1), .val (.int p2), .val (.int m3), .val (.int b4), .val (.int (2 : Int32)), .val (.ref b1), .val (.ref b93), .val (.ref b104), .val (.int (12 : Int32))] [(.double (13830554455654793216 : UInt64))]))
    refine Goes.step (fun _ k => X250.ldc2DoubleC hx hown (mvT hZ (hw _ (List.mem_of_getElem? (i := 23) rfl))) (g := (mkF m 429 #[.val (.int p0), .val (.int p1), .val (.int p2), .val (.int m3), .val (.int b4), .val (.int (2 : Int32)), .val (.ref b1), .val (.ref b93), .val (.ref b104), .val (.int (12 : Int32))] [(.double (13830554455654793216 : UInt64))])) rfl (hb hby at_429) _ k) ?_
    show Goes _ _ _ _ _ _ _ (T250.setTop (mkF m 432 #[.val (.int p0), .val (.int p1), .val (.int p2), .val (.int m3), .val (.int b4), .val (.int (2 : Int32)), .val (.ref b1), .val (.ref b93), .val (.ref b104), .val (.int (12 : Int32))] [(.double (13830554455654793216 : UInt64)), (.double (13830554455654793216 : UInt64))]))
    refine Goes.step (fun _ k => XS.dcmpS X250.here hx rfl (hb hby at_432) rfl rfl k) ?_
    show Goes _ _ _ _ _ _ _ (T250.setTop (mkF m 433 #[.val (.int p0), .val (.int p1), .val (.int p2), .val (.int m3), .val (.int b4), .val (.int (2 : Int32)), .val (.ref b1), .val (.ref b93), .val (.ref b104), .val (.int (12 : Int32))] [(.int (cmpValue (FP.dcmp (13830554455654793216 : UInt64) (13830554455654793216 : UInt64)) .l))]))
    refine Goes.step (fun _ k => XS.ifNo X250.here hx rfl (hb hby at_433) rfl ((if0 _ _).trans (teq own_m1).2) k) ?_
    show Goes _ _ _ _ _ _ _ (T250.setTop (mkF m 436 #[.val (.int p0), .val (.int p1), .val (.int p2), .val (.int m3), .val (.int b4), .val (.int (2 : Int32)), .val (.ref b1), .val (.ref b93), .val (.ref b104), .val (.int (12 : Int32))] []))
    refine Goes.step (fun _ k => XS.aload X250.here hx rfl (hb hby at_436) rfl rfl k) ?_
    show Goes _ _ _ _ _ _ _ (T250.setTop (mkF m 438 #[.val (.int p0), .val (.int p1), .val (.int p2), .val (.int m3), .val (.int b4), .val (.int (2 : Int32)), .val (.ref b1), .val (.ref b93), .val (.ref b104), .val (.int (12 : Int32))] [(.ref b104)]))
    refine Goes.step (fun _ k => XS.bipush X250.here hx rfl (hb hby at_438) k) ?_
    show Goes _ _ _ _ _ _ _ (T250.setTop (mkF m 440 #[.val (.int p0), .val (.int p1), .val (.int p2), .val (.int m3), .val (.int b4), .val (.int (2 : Int32)), .val (.ref b1), .val (.ref b93), .val (.ref b104), .val (.int (12 : Int32))] [(.int (7 : Int32)), (.ref b104)]))
    obtain ⟨cl252, Ar252, q252, S252, P252, H252, G252⟩ := id V231
    have hin252 : ¬ ((7 : Int32) < 0 ∨ cl252.slots.size ≤ ((7 : Int32)).toNatClampNeg) := inb_of S252 ⟨by decide, by decide⟩
    have hat252 : cl252.slots[((7 : Int32)).toNatClampNeg]? = some (.double (13830554455654793216 : UInt64)) := H252 _ (by rw [S252]; decide)
    refine Goes.step (fun _ k => X250.daload hx (j := (7 : Int32)) (v := (.double (13830554455654793216 : UInt64))) (by rw [eh250]; exact Ar252.1) (State.isArrayOf_alike hZ.alike Ar252.2.1) Ar252.2.2 hin252 hat252 (g := (mkF m 440 #[.val (.int p0), .val (.int p1), .val (.int p2), .val (.int m3), .val (.int b4), .val (.int (2 : Int32)), .val (.ref b1), .val (.ref b93), .val (.ref b104), .val (.int (12 : Int32))] [(.int (7 : Int32)), (.ref b104)])) rfl rfl (hb hby at_440) _ k) ?_
    show Goes _ _ _ _ _ _ _ (T250.setTop (mkF m 441 #[.val (.int p0), .val (.int p1), .val (.int p2), .val (.int m3), .val (.int b4), .val (.int (2 : Int32)), .val (.ref b1), .val (.ref b93), .val (.ref b104), .val (.int (12 : Int32))] [(.double (13830554455654793216 : UInt64))]))
    refine Goes.step (fun _ k => X250.ldc2DoubleC hx hown (mvT hZ (hw _ (List.mem_of_getElem? (i := 23) rfl))) (g := (mkF m 441 #[.val (.int p0), .val (.int p1), .val (.int p2), .val (.int m3), .val (.int b4), .val (.int (2 : Int32)), .val (.ref b1), .val (.ref b93), .val (.ref b104), .val (.int (12 : Int32))] [(.double (13830554455654793216 : UInt64))])) rfl (hb hby at_441) _ k) ?_
    show Goes _ _ _ _ _ _ _ (T250.setTop (mkF m 444 #[.val (.int p0), .val (.int p1), .val (.int p2), .val (.int m3), .val (.int b4), .val (.int (2 : Int32)), .val (.ref b1), .val (.ref b93), .val (.ref b104), .val (.int (12 : Int32))] [(.double (13830554455654793216 : UInt64)), (.double (13830554455654793216 : UInt64))]))
    refine Goes.step (fun _ k => XS.dcmpS X250.here hx rfl (hb hby at_444) rfl rfl k) ?_
    show Goes _ _ _ _ _ _ _ (T250.setTop (mkF m 445 #[.val (.int p0), .val (.int p1), .val (.int p2), .val (.int m3), .val (.int b4), .val (.int (2 : Int32)), .val (.ref b1), .val (.ref b93), .val (.ref b104), .val (.int (12 : Int32))] [(.int (cmpValue (FP.dcmp (13830554455654793216 : UInt64) (13830554455654793216 : UInt64)) .l))]))
    refine Goes.step (fun _ k => XS.ifNo X250.here hx rfl (hb hby at_445) rfl ((if0 _ _).trans (teq own_m1).2) k) ?_
    show Goes _ _ _ _ _ _ _ (T250.setTop (mkF m 448 #[.val (.int p0), .val (.int p1), .val (.int p2), .val (.int m3), .val (.int b4), .val (.int (2 : Int32)), .val (.ref b1), .val (.ref b93), .val (.ref b104), .val (.int (12 : Int32))] []))
    refine Goes.step (fun _ k => XS.aload X250.here hx rfl (hb hby at_448) rfl rfl k) ?_
    show Goes _ _ _ _ _ _ _ (T250.setTop (mkF m 450 #[.val (.int p0), .val (.int p1), .val (.int p2), .val (.int m3), .val (.int b4), .val (.int (2 : Int32)), .val (.ref b1), .val (.ref b93), .val (.ref b104), .val (.int (12 : Int32))] [(.ref b93)]))
    obtain ⟨cq253, kq253, q253a, q253b, q253c⟩ := isOf hZ eh250 f233
    obtain ⟨_, _, ⟨T253, L253, k253, n253⟩, -, X253, ⟨Lc253, hQ253, l253, y253, z253⟩, st253⟩ := X250.virtualBack hx (y := (⟨"com/example/orbitloom/orbitloom/orbits/Track", "size", "()I"⟩ : MethodName)) (z := (⟨"com/example/orbitloom/orbitloom/orbits/Track", "size", "()I"⟩ : MethodName)) hown (mvT hZ (hw _ (List.mem_of_getElem? (i := 33) rfl))) (mvT hZ (hw _ (List.mem_of_getElem? (i := 34) rfl))) (notFace_of_selects (args := #[]) (mvT hZ (hw _ (List.mem_of_getElem? (i := 36) rfl)))) (mvT hZ (hw _ (List.mem_of_getElem? (i := 36) rfl))) (mvT hZ (hw _ (List.mem_of_getElem? (i := 35) rfl))) (by decide) (backOf (W := 0) (rm5 l Z a0 hw [] b93 (3 : Int32) T231.heap n0 Z238 f236) hZ (hw _ (List.mem_of_getElem? (i := 37) rfl)) (hw _ (List.mem_of_getElem? (i := 9) rfl)) (by decide) (by decide)) q253a q253c (g := (mkF m 450 #[.val (.int p0), .val (.int p1), .val (.int p2), .val (.int m3), .val (.int b4), .val (.int (2 : Int32)), .val (.ref b1), .val (.ref b93), .val (.ref b104), .val (.int (12 : Int32))] [(.ref b93)])) rfl (by rw [hml]; rfl) (Steps.refl _) (argsL := []) (rest := []) (lenOf pd_5 rfl) rfl (by show 2 * 0 + _ ≤ _; exact Nat.le_of_eq rfl) (hb hby at_450) (fun _ _ => ⟨rfl, eh250, (by decide : 3 + 0 ≤ _), (by decide : 29 + 0 ≤ _)⟩)
    dsimp only [Pt.U, Pt.locs, Pt.cells, Pt.slots] at X253 l253 y253 z253 st253 hQ253
    rw [l253, y253, z253] at X253
    obtain ⟨N253, eh253, hR253⟩ := hQ253
    have NA253 := Fr.app NA250 N253
    obtain rfl := hR253
    refine Goes.back st253 ?_
    show Goes _ _ _ _ _ _ _ (T253.setTop (mkF m 453 #[.val (.int p0), .val (.int p1), .val (.int p2), .val (.int m3), .val (.int b4), .val (.int (2 : Int32)), .val (.ref b1), .val (.ref b93), .val (.ref b104), .val (.int (12 : Int32))] [(.int (3 : Int32))]))
    refine Goes.step (fun _ k => XS.iconst X253.here hx rfl (hb hby at_453) k) ?_
    show Goes _ _ _ _ _ _ _ (T253.setTop (mkF m 454 #[.val (.int p0), .val (.int p1), .val (.int p2), .val (.int m3), .val (.int b4), .val (.int (2 : Int32)), .val (.ref b1), .val (.ref b93), .val (.ref b104), .val (.int (12 : Int32))] [(.int (3 : Int32)), (.int (3 : Int32))]))
    refine Goes.step (fun _ k => XS.icmpNo X253.here hx rfl (hb hby at_454) rfl (teq (by decide : (3 : Int32) = (3 : Int32))).2 k) ?_
    show Goes _ _ _ _ _ _ _ (T253.setTop (mkF m 457 #[.val (.int p0), .val (.int p1), .val (.int p2), .val (.int m3), .val (.int b4), .val (.int (2 : Int32)), .val (.ref b1), .val (.ref b93), .val (.ref b104), .val (.int (12 : Int32))] []))
    refine Goes.step (fun _ k => XS.iconst X253.here hx rfl (hb hby at_457) k) ?_
    show Goes _ _ _ _ _ _ _ (T253.setTop (mkF m 458 #[.val (.int p0), .val (.int p1), .val (.int p2), .val (.int m3), .val (.int b4), .val (.int (2 : Int32)), .val (.ref b1), .val (.ref b93), .val (.ref b104), .val (.int (12 : Int32))] [(.int (1 : Int32))]))
    refine Goes.step (fun _ k => XS.goto X253.here hx rfl (pc0 := 458) (pc' := 462) rfl (hb hby at_458) (by decide) (by decide) k) ?_
    show Goes _ _ _ _ _ _ _ (T253.setTop (mkF m 462 #[.val (.int p0), .val (.int p1), .val (.int p2), .val (.int m3), .val (.int b4), .val (.int (2 : Int32)), .val (.ref b1), .val (.ref b93), .val (.ref b104), .val (.int (12 : Int32))] [(.int (1 : Int32))]))
    exact Goes.ret X253 hx (BodyLoose.notSynchronized Bd) Bd.returns rfl (Or.inl ⟨rfl, by simp, _, rfl⟩) (hb hby at_462) (by show Q0 Z p0 p1 p2 h0 n0 (some (.int (1 : Int32))) T253.heap _; rw [eh253]; exact ⟨rfl, NA253⟩) (by decide) (by decide)
set_option maxRecDepth 65536 in
set_option maxHeartbeats 40000000 in
theorem comes_1 {Post : Tables → Env → Array Value → State → Outcome → State → Prop} (hpost : ∀ tb e args s v u, (limb_1_1.after args s (.returned v) u = true ∧ limb_1_2.after args s (.returned v) u = true ∧ True) → FrameEnd s (.returned v) u (Jvm.fieldLocs frame_1_writes args s ++ Jvm.arrayLocs frame_1_arrays args s ++ Jvm.staticLocs frame_1_statics s) 16 128 → Post tb e args s (.returned v) u) :
    ArmFor flags0 classFile x code maxLocals ret World_1 tables_1 room_1 Calls_1 rest_1 Pre_1 Post := by
  intro l hfl _ _ p e ha hc hk s m args below hf hA hF happ hP
  obtain ⟨hcalls, hrest, hpre⟩ := hP
  obtain ⟨-, -, -, hnamed, -, -, -, hat⟩ := (Spec.applies_iff hf).mp happ
  obtain ⟨hg, hn⟩ := and_e (Cond.before_iff.mp (show (Jvm.Cond.and given_1 narrow_1).before args s = true from hpre))
  obtain ⟨gg1, gg2⟩ := and_e hg
  obtain ⟨gg3, gg4⟩ := and_e gg2
  obtain ⟨gg5, gg6⟩ := and_e gg4
  obtain ⟨w0, w1, w2, rfl⟩ : ∃ w0 w1 w2 : Value, args = #[w0, w1, w2] := by
    have hs : args.size = 3 := by simpa [Cond.value, given_1] using gg1
    obtain ⟨L⟩ := args
    match L, hs with
    | [w0, w1, w2], _ => exact ⟨w0, w1, w2, rfl⟩
  have hw := fun d (hd : d ∈ tables_1) => atoms_spec (ws := Jvm.Cond.code x code maxLocals ret :: tables_1) hat d (List.mem_cons_of_mem _ hd)
  have hfit : Fit s := fun {y c} hc i hi => by
    obtain ⟨ha, rfl⟩ := Array.getElem?_eq_some_iff.mp hc
    have q := List.all_eq_true.mp ((Array.all_eq_true_iff_forall_mem.mp hF) _ (Array.getElem_mem ha)) i (List.mem_range.mpr hi)
    simpa [Array.getElem?_eq_getElem hi] using q
  obtain ⟨i0, ei0⟩ := is_v gg3
  obtain rfl : w0 = (.int i0) := Option.some.inj ei0
  obtain ⟨i1, ei1⟩ := is_v gg5
  obtain rfl : w1 = (.int i1) := Option.some.inj ei1
  obtain ⟨i2, ei2⟩ := is_v gg6
  obtain rfl : w2 = (.int i2) := Option.some.inj ei2
  obtain ⟨n, o, h1, h2, h3, _, L, rfl, ⟨rfl, N⟩, hq⟩ := rm0 l s _ hw tables_1 i0 i1 i2 s.heap s.heap.size (Nat.le_refl _)  p e ha hc hk s m _ below hf ((Spec.applies_iff_loose hf).mp happ).1 ⟨rfl, State.Warmed39.refl s, rfl⟩ trivial
  refine ⟨n, _, h1, h2, h3, hpost _ _ _ _ _ _ ⟨Cond.after_iff.mpr rfl, Cond.after_iff.mpr (eq_i res_at (Term.int_eval (1)) rfl), trivial⟩ ⟨hq.1, hq.2.1, (hq.2.2.sift fun y hy => Or.inr (N y hy)).mono (by decide) (by decide)⟩⟩
theorem main_1_1 : Claimed_1_1 := comes_1 fun _ _ _ _ _ _ h hF => ⟨h.1, hF⟩
theorem main_1_2 : Claimed_1_2 := comes_1 fun _ _ _ _ _ _ h hF => ⟨h.2.1, hF⟩
end Jvm.Pilot.@@N@@
namespace Jvm.Pilot.@@N@@
open Jvm Jvm.ClassFile Sem Op Lib Jvm.Free Jvm.Stand Jvm.Pilot.@@N@@.Jvm.D
/-! MADE BY PROGRAM (witnessworld.py) out of the Statement's table words and the real class files: 10 classes; the members and pool entries that the words name. The judged class is class 1, her method 2. -/
namespace start1
open Jvm.ClassFile
def u (s : String) : CpInfo := .utf8 (stringToUtf16 s)
/-- a pool by its gaps: so many unusable entries, then the entry; so many at the end -/
def gap : Nat → List CpInfo → List CpInfo
  | 0, r => r
  | n + 1, r => .unusable :: gap n r
def poolList (es : List (Nat × CpInfo)) (last : Nat) : List CpInfo := es.foldr (fun e r => gap e.1 (e.2 :: r)) (gap last [])
def pool (es : List (Nat × CpInfo)) (last : Nat) : Array CpInfo := ⟨poolList es last⟩
def fileOf (pool : Array CpInfo) (this : Nat) (attrs : Array Attribute := #[]) (ms : Array MethodInfo := #[]) (fl : Nat := 33) (sup : Nat := 0) (ifs : Array Nat := #[]) (fds : Array FieldInfo := #[]) : ClassFile where
  minorVersion := 0
  majorVersion := 65
  constantPool := pool
  accessFlags := fl
  thisClass := this
  superClass := sup
  interfaces := ifs
  fields := fds
  methods := ms
  attributes := attrs
def plain (name : String) (sup : Option ClassId) : Class where
  name := name
  kind := .ordinary
  loader := none
  accessFlags := 33
  super := sup
  interfaces := #[]
  cf := none
  fields := #[]
  methods := #[]
  instanceTypes := #[]
  staticTypes := #[]
  resolved := #[]
  callSites := []
  init := .initialized
  statics := none
  mirror := none

def pool0 : Array CpInfo := pool [(5, u "<init>"), (0, u "()V"), (1, .class_ 10), (1, u "java/lang/Object")] 113

def k0c0 : Code := { maxStack := 0, maxLocals := 1, code := object_method_1_code, exceptionTable := #[], attributes := #[] }
def k0m0 : Method := { name := "<init>", desc := "()V", sig := { parameters := [], returnType := none }, accessFlags := 1, code := some k0c0 }
/-- java/lang/Object -/
def k0 : Class := { plain "java/lang/Object" none with
  accessFlags := 33
  interfaces := #[]
  cf := some (fileOf pool0 8 #[] #[{ accessFlags := 1, nameIndex := 5, descriptorIndex := 6, attributes := #[] }] 33 0 #[] #[])
  fields := #[]
  methods := #[k0m0]
  instanceTypes := #[]
  staticTypes := #[]
  resolved := Array.replicate 124 none
  statics := none }

def pool1 : Array CpInfo := pool [(2, .class_ 4), (1, u "java/lang/Object"), (0, u "<init>"), (0, u "()V"), (0, .integer 65535), (0, .integer 2147483647), (0, .methodref 10 11), (0, .class_ 12), (0, .nameAndType 13 14), (0, u "com/example/orbitloom/orbitloom/orbits/TrackSamplePinLaw"), (0, u "v"), (0, u "(III)D"), (0, .class_ 16), (0, u "com/example/orbitloom/orbitloom/orbits/Track"), (0, .double 4629137466983448576), (1, .methodref 15 20), (0, .nameAndType 5 21), (0, u "(D[D)V"), (0, .double 13830554455654793216), (1, .methodref 15 25), (0, .nameAndType 26 27), (0, u "sample"), (0, u "(I[D)V"), (0, .methodref 15 29), (0, .nameAndType 30 31), (0, u "size"), (0, u "()I"), (2, u "law"), (0, u "(III)Z")] 5

def k1m0 : Method := { name := "<init>", desc := "()V", sig := { parameters := [], returnType := none }, accessFlags := 1, code := none }
def k1c1 : Code := { maxStack := 2, maxLocals := 3, code := method_2_code, exceptionTable := #[], attributes := #[] }
def k1m1 : Method := { name := "v", desc := "(III)D", sig := { parameters := [.int, .int, .int], returnType := some .double }, accessFlags := 10, code := some k1c1 }
def k1c2 : Code := { maxStack := 6, maxLocals := 10, code := code, exceptionTable := #[], attributes := #[] }
def k1m2 : Method := { name := "law", desc := "(III)Z", sig := { parameters := [.int, .int, .int], returnType := some .boolean }, accessFlags := 9, code := some k1c2 }
/-- com/example/orbitloom/orbitloom/orbits/TrackSamplePinLaw -/
def k1 : Class := { plain "com/example/orbitloom/orbitloom/orbits/TrackSamplePinLaw" (some 0) with
  accessFlags := 49
  interfaces := #[]
  cf := some (fileOf pool1 10 #[] #[{ accessFlags := 1, nameIndex := 5, descriptorIndex := 6, attributes := #[] }, { accessFlags := 10, nameIndex := 13, descriptorIndex := 14, attributes := #[] }, { accessFlags := 9, nameIndex := 34, descriptorIndex := 35, attributes := #[] }] 49 2 #[] #[])
  fields := #[]
  methods := #[k1m0, k1m1, k1m2]
  instanceTypes := #[]
  staticTypes := #[]
  resolved := Array.replicate 41 none
  statics := none }

def pool2 : Array CpInfo := pool [(1, .methodref 2 3), (0, .class_ 4), (0, .nameAndType 5 6), (0, u "java/lang/Object"), (0, u "<init>"), (0, u "()V"), (0, .class_ 8), (0, u "com/example/orbitloom/orbitloom/orbits/Track"), (7, .fieldref 7 17), (0, .nameAndType 18 19), (0, u "step"), (0, u "D"), (0, .fieldref 7 21), (0, .nameAndType 22 23), (0, u "samples"), (0, u "[D"), (0, .fieldref 7 25), (0, .nameAndType 26 27), (0, u "size"), (0, u "I"), (0, .methodref 29 30), (0, .class_ 31), (0, .nameAndType 32 33), (0, u "java/lang/System"), (0, u "arraycopy"), (0, u "(Ljava/lang/Object;ILjava/lang/Object;II)V"), (24, u "STATE"), (2, u "(D[D)V"), (5, u "()I"), (0, u "sample"), (0, u "(I[D)V")] 3

def k2c0 : Code := { maxStack := 4, maxLocals := 4, code := prog_63_method_1_code, exceptionTable := #[], attributes := #[] }
def k2m0 : Method := { name := "<init>", desc := "(D[D)V", sig := { parameters := [.double, (.array .double)], returnType := none }, accessFlags := 0, code := some k2c0 }
def k2c1 : Code := { maxStack := 1, maxLocals := 1, code := prog_63_method_3_code, exceptionTable := #[], attributes := #[] }
def k2m1 : Method := { name := "size", desc := "()I", sig := { parameters := [], returnType := some .int }, accessFlags := 0, code := some k2c1 }
def k2c2 : Code := { maxStack := 5, maxLocals := 3, code := prog_63_method_4_code, exceptionTable := #[], attributes := #[] }
def k2m2 : Method := { name := "sample", desc := "(I[D)V", sig := { parameters := [.int, (.array .double)], returnType := none }, accessFlags := 0, code := some k2c2 }
/-- com/example/orbitloom/orbitloom/orbits/Track -/
def k2 : Class := { plain "com/example/orbitloom/orbitloom/orbits/Track" (some 0) with
  accessFlags := 48
  interfaces := #[]
  cf := some (fileOf pool2 7 #[] #[{ accessFlags := 0, nameIndex := 5, descriptorIndex := 61, attributes := #[] }, { accessFlags := 0, nameIndex := 26, descriptorIndex := 67, attributes := #[] }, { accessFlags := 0, nameIndex := 68, descriptorIndex := 69, attributes := #[] }] 48 2 #[] #[{ accessFlags := 24, nameIndex := 58, descriptorIndex := 27, attributes := #[] }, { accessFlags := 18, nameIndex := 18, descriptorIndex := 19, attributes := #[] }, { accessFlags := 18, nameIndex := 22, descriptorIndex := 23, attributes := #[] }, { accessFlags := 18, nameIndex := 26, descriptorIndex := 27, attributes := #[] }])
  fields := #[{ name := "STATE", type := .int, accessFlags := 24, slot := 0, constantValue := 0 }, { name := "step", type := .double, accessFlags := 18, slot := 0, constantValue := 0 }, { name := "samples", type := (.array .double), accessFlags := 18, slot := 1, constantValue := 0 }, { name := "size", type := .int, accessFlags := 18, slot := 2, constantValue := 0 }]
  methods := #[k2m0, k2m1, k2m2]
  instanceTypes := #[.double, (.array .double), .int]
  staticTypes := #[.int]
  resolved := Array.replicate 73 none
  statics := none }

def pool3 : Array CpInfo := pool [(2, .class_ 4), (1, u "java/lang/Object"), (0, u "<init>"), (0, u "()V"), (1, .class_ 10), (1, u "java/lang/System"), (0, u "allowSecurityManager"), (0, u "I"), (16, u "cons"), (0, u "Ljava/io/Console;"), (77, .class_ 110), (1, u "java/lang/System$CallersHolder"), (43, u "initialErrStream"), (0, u "Ljava/io/PrintStream;"), (19, u "security"), (0, u "Ljava/lang/SecurityManager;"), (31, .class_ 209), (0, u "java/lang/System$1"), (7, u "props"), (0, u "Ljava/util/Properties;"), (2, u "lineSeparator"), (0, u "Ljava/lang/String;"), (96, .class_ 321), (1, u "java/lang/System$LoggerFinder"), (5, .class_ 328), (0, u "java/lang/System$Logger"), (67, u "err"), (2, u "out"), (91, u "notSupportedJnuEncoding"), (15, u "in"), (17, u "initialIn"), (0, u "Ljava/io/InputStream;"), (35, u "bootLayer"), (0, u "Ljava/lang/ModuleLayer;"), (99, .class_ 664), (0, u "java/lang/System$2"), (9, u "NEVER"), (2, u "MAYBE"), (49, u "arraycopy"), (0, u "(Ljava/lang/Object;ILjava/lang/Object;II)V"), (72, .class_ 802), (0, u "java/lang/System$Logger$Level")] 31

def k3m0 : Method := { name := "<init>", desc := "()V", sig := { parameters := [], returnType := none }, accessFlags := 2, code := none }
def k3m1 : Method := { name := "arraycopy", desc := "(Ljava/lang/Object;ILjava/lang/Object;II)V", sig := { parameters := [(.object "java/lang/Object"), .int, (.object "java/lang/Object"), .int, .int], returnType := none }, accessFlags := 265, code := none }
/-- java/lang/System -/
def k3 : Class := { plain "java/lang/System" (some 0) with
  accessFlags := 49
  interfaces := #[]
  cf := some (fileOf pool3 8 #[.nestMembers #[319, 327, 801, 108, 663, 208]] #[{ accessFlags := 2, nameIndex := 5, descriptorIndex := 6, attributes := #[] }, { accessFlags := 265, nameIndex := 727, descriptorIndex := 728, attributes := #[] }] 49 2 #[] #[{ accessFlags := 25, nameIndex := 507, descriptorIndex := 526, attributes := #[] }, { accessFlags := 25, nameIndex := 399, descriptorIndex := 155, attributes := #[] }, { accessFlags := 25, nameIndex := 396, descriptorIndex := 155, attributes := #[] }, { accessFlags := 10, nameIndex := 525, descriptorIndex := 526, attributes := #[] }, { accessFlags := 26, nameIndex := 674, descriptorIndex := 12, attributes := #[] }, { accessFlags := 26, nameIndex := 677, descriptorIndex := 12, attributes := #[] }, { accessFlags := 10, nameIndex := 11, descriptorIndex := 12, attributes := #[] }, { accessFlags := 74, nameIndex := 175, descriptorIndex := 176, attributes := #[] }, { accessFlags := 10, nameIndex := 491, descriptorIndex := 222, attributes := #[] }, { accessFlags := 74, nameIndex := 29, descriptorIndex := 30, attributes := #[] }, { accessFlags := 74, nameIndex := 154, descriptorIndex := 155, attributes := #[] }, { accessFlags := 10, nameIndex := 217, descriptorIndex := 218, attributes := #[] }, { accessFlags := 10, nameIndex := 221, descriptorIndex := 222, attributes := #[] }, { accessFlags := 8, nameIndex := 562, descriptorIndex := 563, attributes := #[] }])
  fields := #[{ name := "in", type := (.object "java/io/InputStream"), accessFlags := 25, slot := 0, constantValue := 0 }, { name := "out", type := (.object "java/io/PrintStream"), accessFlags := 25, slot := 1, constantValue := 0 }, { name := "err", type := (.object "java/io/PrintStream"), accessFlags := 25, slot := 2, constantValue := 0 }, { name := "initialIn", type := (.object "java/io/InputStream"), accessFlags := 10, slot := 3, constantValue := 0 }, { name := "NEVER", type := .int, accessFlags := 26, slot := 4, constantValue := 0 }, { name := "MAYBE", type := .int, accessFlags := 26, slot := 5, constantValue := 0 }, { name := "allowSecurityManager", type := .int, accessFlags := 10, slot := 6, constantValue := 0 }, { name := "security", type := (.object "java/lang/SecurityManager"), accessFlags := 74, slot := 7, constantValue := 0 }, { name := "notSupportedJnuEncoding", type := (.object "java/lang/String"), accessFlags := 10, slot := 8, constantValue := 0 }, { name := "cons", type := (.object "java/io/Console"), accessFlags := 74, slot := 9, constantValue := 0 }, { name := "initialErrStream", type := (.object "java/io/PrintStream"), accessFlags := 74, slot := 10, constantValue := 0 }, { name := "props", type := (.object "java/util/Properties"), accessFlags := 10, slot := 11, constantValue := 0 }, { name := "lineSeparator", type := (.object "java/lang/String"), accessFlags := 10, slot := 12, constantValue := 0 }, { name := "bootLayer", type := (.object "java/lang/ModuleLayer"), accessFlags := 8, slot := 13, constantValue := 0 }]
  methods := #[k3m0, k3m1]
  instanceTypes := #[]
  staticTypes := #[(.object "java/io/InputStream"), (.object "java/io/PrintStream"), (.object "java/io/PrintStream"), (.object "java/io/InputStream"), .int, .int, .int, (.object "java/lang/SecurityManager"), (.object "java/lang/String"), (.object "java/io/Console"), (.object "java/io/PrintStream"), (.object "java/util/Properties"), (.object "java/lang/String"), (.object "java/lang/ModuleLayer")]
  resolved := Array.replicate 834 none
  statics := none }

def pool4 : Array CpInfo := pool [(1, u "java/lang/Cloneable"), (0, .class_ 1), (0, u "java/lang/Object"), (0, .class_ 3)] 3

/-- java/lang/Cloneable -/
def k4 : Class := { plain "java/lang/Cloneable" (some 0) with
  accessFlags := 1537
  interfaces := #[]
  cf := some (fileOf pool4 2 #[] #[] 1537 4 #[] #[])
  fields := #[]
  methods := #[]
  instanceTypes := #[]
  staticTypes := #[]
  resolved := Array.replicate 8 none
  statics := none }

def pool5 : Array CpInfo := pool [(1, u "java/io/Serializable"), (0, .class_ 1), (0, u "java/lang/Object"), (0, .class_ 3)] 3

/-- java/io/Serializable -/
def k5 : Class := { plain "java/io/Serializable" (some 0) with
  accessFlags := 1537
  interfaces := #[]
  cf := some (fileOf pool5 2 #[] #[] 1537 4 #[] #[])
  fields := #[]
  methods := #[]
  instanceTypes := #[]
  staticTypes := #[]
  resolved := Array.replicate 8 none
  statics := none }

/-- the primitive byte -/
def k6 : Class := { plain "byte" none with kind := .primitive 'B', accessFlags := 0x411 }
/-- [B -/
def k7 : Class := { plain "[B" (some 0) with kind := .array 6 .byte, interfaces := #[4, 5], accessFlags := 1041 }

/-- the primitive int -/
def k8 : Class := { plain "int" none with kind := .primitive 'I', accessFlags := 0x411 }
/-- [I -/
def k9 : Class := { plain "[I" (some 0) with kind := .array 8 .int, interfaces := #[4, 5], accessFlags := 1041 }

/-- the primitive double -/
def k10 : Class := { plain "double" none with kind := .primitive 'D', accessFlags := 0x411 }
/-- [D -/
def k11 : Class := { plain "[D" (some 0) with kind := .array 10 .double, interfaces := #[4, 5], accessFlags := 1041 }

def heap : Heap := #[]
def classes : Array Class := #[k0, k1, k2, k3, k4, k5, k6, k7, k8, k9, k10, k11]
def interned : List (Array UInt16 × Addr) := []
def slotsUsed : Nat := 0
def theMethod : MethodId := ⟨1, 2⟩
def args0 : Array Value := #[.int 5, .int 5, .int 5]
def aboutOver (below : List Frame) : State where
  vm := { classes := classes, interned := interned.toArray }
  heap := heap
  slotsUsed := slotsUsed
  threads := #[{ frames := .invoking theMethod args0 :: below }]
def below0 : List Frame := [.native { method := ⟨0, 0⟩, args := #[] }]
def about1 : State := aboutOver below0
def p0 : Program := .bare "" "" ""
def e0 : Env := launch0.env 0 0 0
theorem w_frames : about1.frames = Frame.invoking theMethod args0 :: below0 := rfl
set_option maxRecDepth 65536 in
theorem w_args : argsFit about1.vm theMethod args0 = true := by decide +kernel
set_option maxRecDepth 65536 in
theorem w_heap : heapFits about1 = true := by decide +kernel
set_option maxRecDepth 65536 in
theorem w_runnable : about1.curStatus? = some .runnable := by decide +kernel
set_option maxRecDepth 65536 in
theorem w_alone : about1.alone = true := by decide +kernel
set_option maxRecDepth 65536 in
theorem w_named : about1.methodNamed? x = some theMethod := by decide +kernel
set_option maxRecDepth 65536 in
theorem w_hears : about1.hears theMethod below0 = true := by decide +kernel
set_option maxRecDepth 65536 in
theorem w_ripe : about1.ripe theMethod args0 below0 = true := by decide +kernel
theorem w_running : about1.status = .running := rfl
set_option maxRecDepth 65536 in
theorem w_room : about1.hasRoom e0.platform room_1 = true :=
  launch0.hasRoom_least _ room_1 (by decide +kernel) (by decide +kernel) (by decide +kernel) (by decide +kernel) (by decide +kernel) (by decide +kernel)
theorem allAtoms_all (ts : List Jvm.Cond) (a : Array Jvm.Value) (st : Jvm.State) : (allAtoms ts).before a st = ts.all (fun c => c.before a st) := by
  induction ts with
  | nil => rfl
  | cons c t ih =>
    show (Jvm.Cond.and c (allAtoms t)).before a st = _
    rw [Jvm.Cond.before_and, ih, List.all_cons]
def words1 : List Jvm.Cond := Jvm.Cond.code x code maxLocals ret :: tables_1
/-- a 'code' word, met by the world's own term for the bytes: nothing is compared byte by byte -/
theorem code_word {y : MethodName} {bytes : ByteArray} {mx : Nat} {rt : Option FieldType} {a : Array Value} {s : State} {m : MethodId} {meth : Method} {c : Code} (h1 : s.methodNamed? y = some m) (h2 : s.vm.method? m = some meth) (h3 : meth.code = some c) (h4 : c.code = bytes)
    (h5 : (c.maxLocals == mx && c.exceptionTable.isEmpty && decide (c.maxStack ≤ mostOperands) && decide (meth.sig.returnType = rt) && !meth.locks && decide (parseMethodDescriptor y.desc = some meth.sig)) = true) : (Jvm.Cond.code y bytes mx rt).before a s = true := by
  simp only [Bool.and_eq_true, beq_iff_eq, Bool.not_eq_true', decide_eq_true_eq] at h5
  obtain ⟨⟨⟨⟨⟨g1, g2⟩, g3⟩, g4⟩, g5⟩, g6⟩ := h5
  simp [Cond.before, Cond.holds, Cond.value, h1, h2, h3, h4, g1, g2, g3, g4, g5, g6]
def isCode : Jvm.Cond → Bool
  | .code _ _ _ _ => true
  | _ => false
theorem all_split {L : List Jvm.Cond} {P : Jvm.Cond → Bool} (h1 : L.all (fun c => isCode c || P c) = true) (h2 : ∀ c ∈ L.filter isCode, P c = true) : L.all P = true := by
  refine List.all_eq_true.mpr fun c hc => ?_
  have h := List.all_eq_true.mp h1 c hc
  rcases Bool.eq_false_or_eq_true (isCode c) with hi | hi
  · exact h2 c (List.mem_filter.mpr ⟨hc, hi⟩)
  · simpa [hi] using h
set_option maxRecDepth 65536 in
theorem w_c0 : (Jvm.Cond.code x code maxLocals ret).before args0 about1 = true := code_word (m := ⟨1, 2⟩) (meth := k1m2) (c := k1c2) (by decide +kernel) rfl rfl rfl (by decide +kernel)
set_option maxRecDepth 65536 in
theorem w_c1 : (Jvm.Cond.code ({ cls := "com/example/orbitloom/orbitloom/orbits/TrackSamplePinLaw", name := "v", desc := "(III)D" } : Jvm.MethodName) method_2_code (3 : Nat) (Option.some Jvm.ClassFile.FieldType.double)).before args0 about1 = true := code_word (m := ⟨1, 1⟩) (meth := k1m1) (c := k1c1) (by decide +kernel) rfl rfl rfl (by decide +kernel)
set_option maxRecDepth 65536 in
theorem w_c2 : (Jvm.Cond.code ({ cls := "com/example/orbitloom/orbitloom/orbits/Track", name := "<init>", desc := "(D[D)V" } : Jvm.MethodName) prog_63_method_1_code (4 : Nat) (Option.none : Option Jvm.ClassFile.FieldType)).before args0 about1 = true := code_word (m := ⟨2, 0⟩) (meth := k2m0) (c := k2c0) (by decide +kernel) rfl rfl rfl (by decide +kernel)
set_option maxRecDepth 65536 in
theorem w_c3 : (Jvm.Cond.code ({ cls := "java/lang/Object", name := "<init>", desc := "()V" } : Jvm.MethodName) object_method_1_code (1 : Nat) (Option.none : Option Jvm.ClassFile.FieldType)).before args0 about1 = true := code_word (m := ⟨0, 0⟩) (meth := k0m0) (c := k0c0) (by decide +kernel) rfl rfl rfl (by decide +kernel)
set_option maxRecDepth 65536 in
theorem w_c4 : (Jvm.Cond.code ({ cls := "com/example/orbitloom/orbitloom/orbits/Track", name := "sample", desc := "(I[D)V" } : Jvm.MethodName) prog_63_method_4_code (3 : Nat) (Option.none : Option Jvm.ClassFile.FieldType)).before args0 about1 = true := code_word (m := ⟨2, 2⟩) (meth := k2m2) (c := k2c2) (by decide +kernel) rfl rfl rfl (by decide +kernel)
set_option maxRecDepth 65536 in
theorem w_c5 : (Jvm.Cond.code ({ cls := "com/example/orbitloom/orbitloom/orbits/Track", name := "size", desc := "()I" } : Jvm.MethodName) prog_63_method_3_code (1 : Nat) (Option.some Jvm.ClassFile.FieldType.int)).before args0 about1 = true := code_word (m := ⟨2, 1⟩) (meth := k2m1) (c := k2c1) (by decide +kernel) rfl rfl rfl (by decide +kernel)
def codes1 : List Jvm.Cond := [Jvm.Cond.code x code maxLocals ret, Jvm.Cond.code ({ cls := "com/example/orbitloom/orbitloom/orbits/TrackSamplePinLaw", name := "v", desc := "(III)D" } : Jvm.MethodName) method_2_code (3 : Nat) (Option.some Jvm.ClassFile.FieldType.double), Jvm.Cond.code ({ cls := "com/example/orbitloom/orbitloom/orbits/Track", name := "<init>", desc := "(D[D)V" } : Jvm.MethodName) prog_63_method_1_code (4 : Nat) (Option.none : Option Jvm.ClassFile.FieldType), Jvm.Cond.code ({ cls := "java/lang/Object", name := "<init>", desc := "()V" } : Jvm.MethodName) object_method_1_code (1 : Nat) (Option.none : Option Jvm.ClassFile.FieldType), Jvm.Cond.code ({ cls := "com/example/orbitloom/orbitloom/orbits/Track", name := "sample", desc := "(I[D)V" } : Jvm.MethodName) prog_63_method_4_code (3 : Nat) (Option.none : Option Jvm.ClassFile.FieldType), Jvm.Cond.code ({ cls := "com/example/orbitloom/orbitloom/orbits/Track", name := "size", desc := "()I" } : Jvm.MethodName) prog_63_method_3_code (1 : Nat) (Option.some Jvm.ClassFile.FieldType.int)]
set_option maxRecDepth 65536 in
theorem codes_eq : words1.filter isCode = codes1 := rfl
theorem w_codes : ∀ c ∈ words1.filter isCode, c.before args0 about1 = true := by
  rw [codes_eq]
  intro c hc
  simp only [codes1, List.mem_cons, List.not_mem_nil, or_false] at hc
  rcases hc with rfl | rfl | rfl | rfl | rfl | rfl
  · exact w_c0
  · exact w_c1
  · exact w_c2
  · exact w_c3
  · exact w_c4
  · exact w_c5
set_option maxRecDepth 65536 in
theorem w_t1 : (words1.take 24).all (fun c => isCode c || c.before args0 about1) = true := by decide +kernel
set_option maxRecDepth 65536 in
theorem w_t2 : (words1.drop 24).all (fun c => isCode c || c.before args0 about1) = true := by decide +kernel
theorem w_tables : (allAtoms (Jvm.Cond.code x code maxLocals ret :: tables_1)).before args0 about1 = true := by
  rw [allAtoms_all]
  show words1.all (fun c => c.before args0 about1) = true
  refine all_split ?_ w_codes
  rw [← List.take_append_drop 24 words1, List.all_append, w_t1, w_t2]
  rfl
set_option maxRecDepth 65536 in
theorem w_case : (Jvm.Cond.and given_1 narrow_1).before args0 about1 = true := by decide +kernel
theorem w_applies : (headSpec (Jvm.Cond.code x code maxLocals ret :: tables_1) room_1).applies x e0.platform about1 = true :=
  (Spec.applies_iff w_frames).mpr ⟨w_running, w_runnable, w_alone, w_named, w_hears, w_ripe, w_room, w_tables⟩
theorem atStart : AtStart classFile x code maxLocals ret World_1 tables_1 room_1 Calls_1 rest_1 Pre_1 launch0 p0 e0 about1 theMethod args0 below0 :=
  ⟨lists_1, trivial, launch0.admits_env _ _ _, launch0.least_env, fairChoices_fair.cas, fairChoices_fair.clock, w_frames, w_args, w_heap, w_applies, trivial, trivial, w_case⟩
end start1
theorem witness_1 : WitnessClaimed_1 := ⟨start1.p0, start1.e0, start1.about1, start1.theMethod, start1.args0, start1.below0, start1.atStart⟩
end Jvm.Pilot.@@N@@
